import JvmDerived
import JvmDerived.Pilot.@@N@@Statement
import JvmDerived.Pilot.@@N@@Code
set_option linter.unusedVariables false
set_option linter.unusedSimpArgs false
namespace Jvm.RoadKit
open Sem ClassFile Op Lib Jvm.Stand Jvm.Free Jvm.LawKit
section New
variable {p : Program} {l : Launch} {e : Env} {R : Room} {s : State} {m : MethodId} {args : Array Value} {below : List Frame} {meth : Method} {c : Code} {T : State} {locs : List Loc} {cells slots : Nat}
theorem retI (X : Stand p l e R s m args below meth c T locs cells slots) (hx : p.tables.exec = Jvm.exec) {pc : Nat} {Ls : Array Slot} {z : Int32} {rest : List Value} (hret : meth.sig.returnType = some .int) (hd : decode c.code pc = .ok (.ireturn, 1)) {fs : List Frame}
    (hl : ∀ (f : JFrame) (acts : List Action), f.method = m → f.locked = none → f.entered = [] → (doReturn e (T.setTop f) acts (some (.int z))).1 = T.setFrames fs) : Steps p.tables e below (T.setTop (mkF m pc Ls (.int z :: rest))) (T.setFrames fs) := by
  have hm' : T.vm.method? m = some meth := X.method'
  have hn : narrow .int (.int z) = .int z := rfl
  show Steps p.tables e below (T.setTop { method := m, pc := pc, locals := Ls, stack := _ :: rest, locked := none }) _
  jvm_step X.here [X.here.top, hx, hd, hm', hret, hn]
  first | (intro acts; rw [hl _ acts rfl rfl rfl]) | rw [hl _ _ rfl rfl rfl]
  exact Steps.refl _
theorem retJ (X : Stand p l e R s m args below meth c T locs cells slots) (hx : p.tables.exec = Jvm.exec) {pc : Nat} {Ls : Array Slot} {z : Int64} {rest : List Value} (hret : meth.sig.returnType = some .long) (hd : decode c.code pc = .ok (.lreturn, 1)) {fs : List Frame}
    (hl : ∀ (f : JFrame) (acts : List Action), f.method = m → f.locked = none → f.entered = [] → (doReturn e (T.setTop f) acts (some (.long z))).1 = T.setFrames fs) : Steps p.tables e below (T.setTop (mkF m pc Ls (.long z :: rest))) (T.setFrames fs) := by
  have hm' : T.vm.method? m = some meth := X.method'
  show Steps p.tables e below (T.setTop { method := m, pc := pc, locals := Ls, stack := _ :: rest, locked := none }) _
  jvm_step X.here [X.here.top, hx, hd, hm', hret, narrow]
  first | (intro acts; rw [hl _ acts rfl rfl rfl]) | rw [hl _ _ rfl rfl rfl]
  exact Steps.refl _
theorem retA (X : Stand p l e R s m args below meth c T locs cells slots) (hx : p.tables.exec = Jvm.exec) {pc : Nat} {Ls : Array Slot} {z : Value} {t : FieldType} {rest : List Value} (hret : meth.sig.returnType = some t) (ht : t.isReference = true) (hz : z.isRef = true) (hd : decode c.code pc = .ok (.areturn, 1)) {fs : List Frame}
    (hl : ∀ (f : JFrame) (acts : List Action), f.method = m → f.locked = none → f.entered = [] → (doReturn e (T.setTop f) acts (some z)).1 = T.setFrames fs) : Steps p.tables e below (T.setTop (mkF m pc Ls (z :: rest))) (T.setFrames fs) := by
  have hm' : T.vm.method? m = some meth := X.method'
  show Steps p.tables e below (T.setTop { method := m, pc := pc, locals := Ls, stack := _ :: rest, locked := none }) _
  jvm_step X.here [X.here.top, hx, hd, hm', hret, hz, ht]
  first | (intro acts; rw [hl _ acts rfl rfl rfl]) | rw [hl _ _ rfl rfl rfl]
  exact Steps.refl _
/-- what a body's contract owes from a state on -/
def Owe (p : Program) (e : Env) (below : List Frame) (first : State) (ck sk : Nat) (Q : Option Value → Heap → List Loc → Prop) (T : State) (g : JFrame) : Prop :=
  ∃ s₂ o, Steps p.tables e below (T.setTop g) s₂ ∧ s₂.status = .running ∧ Ended s₂ below o ∧ ∃ v L, o = .returned v ∧ Q v s₂.heap L ∧ FrameEnd first o s₂ L ck sk
theorem Owe.step {first : State} {ck sk : Nat} {Q : Option Value → Heap → List Loc → Prop} {T T' : State} {g g' : JFrame} (h : ∀ t, Steps p.tables e below (T'.setTop g') t → Steps p.tables e below (T.setTop g) t)
    (k : Owe p e below first ck sk Q T' g') : Owe p e below first ck sk Q T g := by
  obtain ⟨s₂, o, h1, h2⟩ := k
  exact ⟨s₂, o, h _ h1, h2⟩
theorem Owe.ret {ck sk : Nat} {Q : Option Value → Heap → List Loc → Prop} {g : JFrame} (X : Stand p l e R s m args below meth c T locs cells slots) (hlk : meth.locks = false) {v : Option Value} (hv : meth.sig.returnType = none → v = none)
    (hst : ∀ fs, (∀ (f : JFrame) (acts : List Action), f.method = m → f.locked = none → f.entered = [] → (doReturn e (T.setTop f) acts v).1 = T.setFrames fs) → Steps p.tables e below (T.setTop g) (T.setFrames fs))
    (hQ : Q v T.heap locs) (hc : cells ≤ ck) (hs : slots ≤ sk) : Owe p e below s ck sk Q T g := by
  obtain ⟨fs, hr, hrun, hended, hW, hsame⟩ := X.leave (v := v) hv hlk
  exact ⟨_, _, hst fs hr, hrun, hended, _, _, rfl, hQ, ⟨_, rfl⟩, hW, hsame.mono hc hs⟩
/-- a body that writes nothing and makes nothing: it returns w -/
def QP (w : Value) (h0 : Heap) (n0 : Nat) (v : Option Value) (h : Heap) (L : List Loc) : Prop := v = some w ∧ Fr n0 L ∧ h = h0
/-- .. and returns nothing -/
def QN (h0 : Heap) (n0 : Nat) (v : Option Value) (h : Heap) (L : List Loc) : Prop := v = none ∧ Fr n0 L ∧ h = h0
/-- the law itself -/
def QL (w : Value) (n0 : Nat) (v : Option Value) (h : Heap) (L : List Loc) : Prop := v = some w ∧ Fr n0 L
theorem Owe.cast {first : State} {ck sk n0 : Nat} {w w' : Int32} {g : JFrame} (q : w' = w) (k : Owe p e below first ck sk (QL (.int w') n0) T g) : Owe p e below first ck sk (QL (.int w) n0) T g := q ▸ k
end New
end Jvm.RoadKit
namespace Jvm.RoadKit
open Sem ClassFile Op Lib Jvm.Stand Jvm.Free Jvm.LawKit
section Arrays
variable {p : Program} {l : Launch} {e : Env} {R : Room} {s : State} {m : MethodId} {args : Array Value} {below : List Frame} {meth : Method} {c : Code} {T : State} {locs : List Loc} {cells slots : Nat}
variable {Z : State} {h h' : Heap} {a b : Addr} {ty : FieldType} {n sl : Nat} {f : Nat → Value} {v : Value} {ws : List Addr}
/-- an array of n places; place j holds f j -/
def AV (Z : State) (h : Heap) (a : Addr) (ty : FieldType) (n : Nat) (f : Nat → Value) : Prop := ∃ c : Cell, Arr Z h a c ty ∧ c.slots.size = n ∧ ∀ j, j < n → c.slots[j]? = some (f j)
abbrev AI (Z : State) (h : Heap) (a : Addr) (ty : FieldType) (n : Nat) (f : Nat → Int32) : Prop := AV Z h a ty n (fun k => .int (f k))
abbrev AJ (Z : State) (h : Heap) (a : Addr) (n : Nat) (f : Nat → Int64) : Prop := AV Z h a .long n (fun k => .long (f k))
def own_upd {α : Type} (f : Nat → α) (j : Nat) (x : α) : Nat → α := fun k => if k = j then x else f k
theorem own_upd_same {α : Type} (f : Nat → α) (j : Nat) (x : α) : own_upd f j x j = x := if_pos rfl
theorem own_upd_other {α : Type} (f : Nat → α) (j k : Nat) (x : α) (q : k ≠ j) : own_upd f j x k = f k := if_neg q
theorem AV.lt (F : AV Z h a ty n f) : a < h.size := by obtain ⟨c, A, -⟩ := F; exact A.lt
theorem AV.ext (F : AV Z h a ty n f) (E : Ext h h') : AV Z h' a ty n f := by obtain ⟨c, A, r⟩ := F; exact ⟨c, A.ext E, r⟩
theorem AV.other (F : AV Z h b ty n f) (W : Wr h h' a sl v) (q : b ≠ a) : AV Z h' b ty n f := by obtain ⟨c, A, r⟩ := F; exact ⟨c, A.other W q, r⟩
theorem AV.keep (F : AV Z h a ty n f) (K : Keep h h' ws) (q : a ∉ ws) : AV Z h' a ty n f := by obtain ⟨c, A, r⟩ := F; exact ⟨c, ⟨K.2.1 a c A.1 q, A.2⟩, r⟩
theorem AV.congr {f' : Nat → Value} (F : AV Z h a ty n f) (q : ∀ k, k < n → f k = f' k) : AV Z h a ty n f' := by obtain ⟨c, A, S, H⟩ := F; exact ⟨c, A, S, fun k hk => by rw [← q k hk]; exact H k hk⟩
theorem AV.new {k : ClassId} {z : Int32} (A : Arr Z h a (newA k ty z) ty) (e : z.toNatClampNeg = n) : AV Z h a ty n (fun _ => defaultValue ty) := by
  subst e
  exact ⟨_, A, sz_new _ _ _, fun j hj => by simp [newA, hj]⟩
theorem AV.set {j : Nat} (F : AV Z h a ty n f) (W : Wr h h' a j v) : AV Z h' a ty n (own_upd f j v) := by
  obtain ⟨c, A, S, H⟩ := F
  refine ⟨_, A.same W, by rw [sz_set]; exact S, fun k hk => ?_⟩
  by_cases u : k = j
  · subst u; simp [Cell.setSlot, S, hk, own_upd]
  · have := H k hk
    simp only [Cell.setSlot, own_upd, if_neg u] at this ⊢
    rw [Array.getElem?_setIfInBounds_ne (fun q => u q.symm)]; exact this
theorem AI.set {j : Nat} {g : Nat → Int32} {x : Int32} (F : AI Z h a ty n g) (W : Wr h h' a j (.int x)) : AI Z h' a ty n (own_upd g j x) := (AV.set F W).congr fun k _ => by unfold own_upd; split <;> rfl
theorem AJ.set {j : Nat} {g : Nat → Int64} {x : Int64} (F : AJ Z h a n g) (W : Wr h h' a j (.long x)) : AJ Z h' a n (own_upd g j x) := (AV.set F W).congr fun k _ => by unfold own_upd; split <;> rfl
theorem in_of {c : Cell} {j : Int32} (S : c.slots.size = n) (j0 : ¬ j < 0) (jn : j.toNatClampNeg < n) : ¬ (j < 0 ∨ c.slots.size ≤ j.toNatClampNeg) := by rw [S]; exact fun q => q.elim j0 fun y => absurd jn (Nat.not_lt.mpr y)
theorem ldAI (X : Stand p l e R s m args below meth c T locs cells slots) (hx : p.tables.exec = Jvm.exec) (hZ : Z.Warmed39 s.vm) (eT : T.heap = h) (F : AV Z h a .int n f) {j : Int32} (j0 : ¬ j < 0) (jn : j.toNatClampNeg < n) {g : JFrame} (hg : g.method = m) {rest : List Value} (hs : g.stack = .int j :: .ref a :: rest) (hd : decode c.code g.pc = .ok (.iaload, 1)) (target : State)
    (hr : Steps p.tables e below (T.setTop { g with pc := g.pc + 1, stack := f j.toNatClampNeg :: rest }) target) : Steps p.tables e below (T.setTop g) target := by
  obtain ⟨cl, A, S, H⟩ := F
  exact X.iaload hx (by rw [eT]; exact A.1) (State.isArrayOf_alike hZ.alike A.2.1) A.2.2 (in_of S j0 jn) (H _ jn) hg hs hd target hr
theorem ldAB (X : Stand p l e R s m args below meth c T locs cells slots) (hx : p.tables.exec = Jvm.exec) (hZ : Z.Warmed39 s.vm) (eT : T.heap = h) (F : AV Z h a .byte n f) {j : Int32} (j0 : ¬ j < 0) (jn : j.toNatClampNeg < n) {g : JFrame} (hg : g.method = m) {rest : List Value} (hs : g.stack = .int j :: .ref a :: rest) (hd : decode c.code g.pc = .ok (.baload, 1)) (target : State)
    (hr : Steps p.tables e below (T.setTop { g with pc := g.pc + 1, stack := f j.toNatClampNeg :: rest }) target) : Steps p.tables e below (T.setTop g) target := by
  obtain ⟨cl, A, S, H⟩ := F
  exact X.baloadBytes hx (by rw [eT]; exact A.1) (State.isArrayOf_alike hZ.alike A.2.1) A.2.2 (in_of S j0 jn) (H _ jn) hg hs hd target hr
theorem ldAJ (X : Stand p l e R s m args below meth c T locs cells slots) (hx : p.tables.exec = Jvm.exec) (hZ : Z.Warmed39 s.vm) (eT : T.heap = h) (F : AV Z h a .long n f) {j : Int32} (j0 : ¬ j < 0) (jn : j.toNatClampNeg < n) {g : JFrame} (hg : g.method = m) {rest : List Value} (hs : g.stack = .int j :: .ref a :: rest) (hd : decode c.code g.pc = .ok (.laload, 1)) (target : State)
    (hr : Steps p.tables e below (T.setTop { g with pc := g.pc + 1, stack := f j.toNatClampNeg :: rest }) target) : Steps p.tables e below (T.setTop g) target := by
  obtain ⟨cl, A, S, H⟩ := F
  exact X.laload hx (by rw [eT]; exact A.1) (State.isArrayOf_alike hZ.alike A.2.1) A.2.2 (in_of S j0 jn) (H _ jn) hg hs hd target hr
theorem stAI (X : Stand p l e R s m args below meth c T locs cells slots) (hx : p.tables.exec = Jvm.exec) (hZ : Z.Warmed39 s.vm) (eT : T.heap = h) {f : Nat → Int32} (F : AI Z h a .int n f) {j x : Int32} (j0 : ¬ j < 0) (jn : j.toNatClampNeg < n) {g : JFrame} (hg : g.method = m) {rest : List Value} (hs : g.stack = .int x :: .int j :: .ref a :: rest) (hd : decode c.code g.pc = .ok (.iastore, 1)) :
    ∃ T' h', Stand p l e R s m args below meth c T' (locs ++ [⟨a, j.toNatClampNeg⟩]) cells slots ∧ T'.heap = h' ∧ Wr h h' a j.toNatClampNeg (.int x) ∧ AI Z h' a .int n (own_upd f j.toNatClampNeg x) ∧ ∀ target, Steps p.tables e below (T'.setTop { g with pc := g.pc + 1, stack := rest }) target → Steps p.tables e below (T.setTop g) target := by
  obtain ⟨cl, A, S, H⟩ := id F
  obtain ⟨T', h', X', e', W, st⟩ := stI X hx hZ eT A (in_of S j0 jn) hg hs hd
  exact ⟨T', h', X', e', W, AI.set F W, st⟩
theorem stAB (X : Stand p l e R s m args below meth c T locs cells slots) (hx : p.tables.exec = Jvm.exec) (hZ : Z.Warmed39 s.vm) (eT : T.heap = h) {f : Nat → Int32} (F : AI Z h a .byte n f) {j x : Int32} (j0 : ¬ j < 0) (jn : j.toNatClampNeg < n) {g : JFrame} (hg : g.method = m) {rest : List Value} (hs : g.stack = .int x :: .int j :: .ref a :: rest) (hd : decode c.code g.pc = .ok (.bastore, 1)) :
    ∃ T' h', Stand p l e R s m args below meth c T' (locs ++ [⟨a, j.toNatClampNeg⟩]) cells slots ∧ T'.heap = h' ∧ Wr h h' a j.toNatClampNeg (.int (nar .byte x)) ∧ AI Z h' a .byte n (own_upd f j.toNatClampNeg (nar .byte x)) ∧ ∀ target, Steps p.tables e below (T'.setTop { g with pc := g.pc + 1, stack := rest }) target → Steps p.tables e below (T.setTop g) target := by
  obtain ⟨cl, A, S, H⟩ := id F
  obtain ⟨T', h', X', e', W, st⟩ := stB X hx hZ eT A (in_of S j0 jn) hg hs hd
  exact ⟨T', h', X', e', W, AI.set F W, st⟩
theorem stAC (X : Stand p l e R s m args below meth c T locs cells slots) (hx : p.tables.exec = Jvm.exec) (hZ : Z.Warmed39 s.vm) (eT : T.heap = h) {f : Nat → Int32} (F : AI Z h a .char n f) {j x : Int32} (j0 : ¬ j < 0) (jn : j.toNatClampNeg < n) {g : JFrame} (hg : g.method = m) {rest : List Value} (hs : g.stack = .int x :: .int j :: .ref a :: rest) (hd : decode c.code g.pc = .ok (.castore, 1)) :
    ∃ T' h', Stand p l e R s m args below meth c T' (locs ++ [⟨a, j.toNatClampNeg⟩]) cells slots ∧ T'.heap = h' ∧ Wr h h' a j.toNatClampNeg (.int (nar .char x)) ∧ AI Z h' a .char n (own_upd f j.toNatClampNeg (nar .char x)) ∧ ∀ target, Steps p.tables e below (T'.setTop { g with pc := g.pc + 1, stack := rest }) target → Steps p.tables e below (T.setTop g) target := by
  obtain ⟨cl, A, S, H⟩ := id F
  obtain ⟨T', h', X', e', W, st⟩ := stC X hx hZ eT A (in_of S j0 jn) hg hs hd
  exact ⟨T', h', X', e', W, AI.set F W, st⟩
theorem stAJ (X : Stand p l e R s m args below meth c T locs cells slots) (hx : p.tables.exec = Jvm.exec) (hZ : Z.Warmed39 s.vm) (eT : T.heap = h) {f : Nat → Int64} (F : AJ Z h a n f) {j : Int32} {x : Int64} (j0 : ¬ j < 0) (jn : j.toNatClampNeg < n) {g : JFrame} (hg : g.method = m) {rest : List Value} (hs : g.stack = .long x :: .int j :: .ref a :: rest) (hd : decode c.code g.pc = .ok (.lastore, 1)) :
    ∃ T' h', Stand p l e R s m args below meth c T' (locs ++ [⟨a, j.toNatClampNeg⟩]) cells slots ∧ T'.heap = h' ∧ Wr h h' a j.toNatClampNeg (.long x) ∧ AJ Z h' a n (own_upd f j.toNatClampNeg x) ∧ ∀ target, Steps p.tables e below (T'.setTop { g with pc := g.pc + 1, stack := rest }) target → Steps p.tables e below (T.setTop g) target := by
  obtain ⟨cl, A, S, H⟩ := id F
  obtain ⟨T', h', X', e', W, st⟩ := stJ X hx hZ eT A (in_of S j0 jn) hg hs hd
  exact ⟨T', h', X', e', W, AJ.set F W, st⟩
theorem lenA (X : Stand p l e R s m args below meth c T locs cells slots) (hx : p.tables.exec = Jvm.exec) (hZ : Z.Warmed39 s.vm) (eT : T.heap = h) (F : AV Z h a ty n f) {z : Int32} (hn : n.toInt32 = z) {g : JFrame} (hg : g.method = m) {rest : List Value} (hs : g.stack = .ref a :: rest) (hd : decode c.code g.pc = .ok (.arraylength, 1)) (target : State)
    (hr : Steps p.tables e below (T.setTop { g with pc := g.pc + 1, stack := .int z :: rest }) target) : Steps p.tables e below (T.setTop g) target := by
  obtain ⟨cl, A, S, H⟩ := F
  subst hn
  exact X.arraylength hx (by rw [eT]; exact A.1) (State.isArrayOf_alike hZ.alike A.2.1) hg hs hd target (by rw [S]; exact hr)
end Arrays
end Jvm.RoadKit
namespace Jvm.RoadKit
open Sem ClassFile Op Lib Jvm.Stand Jvm.Free Jvm.LawKit
section Wide
variable {p : Program} {l : Launch} {e : Env} {R : Room} {s : State} {m : MethodId} {args : Array Value} {below : List Frame} {meth : Method} {c : Code} {T : State} {locs : List Loc} {cells slots : Nat}
/-- Owe, where the walk may intern -/
def OweW (p : Program) (e : Env) (below : List Frame) (first : State) (ck sk : Nat) (Q : Option Value → Heap → List Loc → Prop) (T : State) (g : JFrame) : Prop :=
  ∃ s₂ o, Steps p.tables e below (T.setTop g) s₂ ∧ s₂.status = .running ∧ Ended s₂ below o ∧ ∃ v L, o = .returned v ∧ Q v s₂.heap L ∧ ReturnedEndW first o s₂ L ck sk
theorem OweW.step {first : State} {ck sk : Nat} {Q : Option Value → Heap → List Loc → Prop} {T T' : State} {g g' : JFrame} (h : ∀ t, Steps p.tables e below (T'.setTop g') t → Steps p.tables e below (T.setTop g) t)
    (k : OweW p e below first ck sk Q T' g') : OweW p e below first ck sk Q T g := by
  obtain ⟨s₂, o, h1, h2⟩ := k
  exact ⟨s₂, o, h _ h1, h2⟩
theorem OweW.ret {ck sk n : Nat} {vm₁ : Vm} {Q : Option Value → Heap → List Loc → Prop} {g : JFrame} (X : Stand p l e R (s.setVm vm₁) m args below meth c T locs cells slots) (hS : s.Since vm₁ n) (hn : n ≤ T.heap.size) (hlk : meth.locks = false) {v : Option Value} (hv : meth.sig.returnType = none → v = none)
    (hst : ∀ fs, (∀ (f : JFrame) (acts : List Action), f.method = m → f.locked = none → f.entered = [] → (doReturn e (T.setTop f) acts v).1 = T.setFrames fs) → Steps p.tables e below (T.setTop g) (T.setFrames fs))
    (hQ : Q v T.heap locs) (hc : cells ≤ ck) (hs : slots ≤ sk) : OweW p e below s ck sk Q T g := by
  obtain ⟨fs, hr, hrun, hended, h1, h2, h3, h4⟩ := X.leaveW hS hn (v := v) hv hlk
  exact ⟨_, _, hst fs hr, hrun, hended, _, _, rfl, hQ, h1, h2, h3, h4.mono hc hs⟩
theorem OweW.cast {first : State} {ck sk n0 : Nat} {w w' : Int32} {g : JFrame} (q : w' = w) (k : OweW p e below first ck sk (QL (.int w') n0) T g) : OweW p e below first ck sk (QL (.int w) n0) T g := q ▸ k
theorem since0 (s : State) : s.Since s.vm 0 := (State.WarmedH.refl s).since 0
theorem fitC0 {Z : State} {h : Heap} {a : Addr} {ty : FieldType} {f : Nat → Value} (A : AV Z h a ty 0 f) : ∃ cl, Arr Z h a cl ty ∧ FitC Z cl ∧ cl.slots.size ≤ 0 := by
  obtain ⟨cl, A, S, -⟩ := A
  exact ⟨cl, A, fun i v hv => by
    have := (Array.getElem?_eq_some_iff.mp hv).1
    omega, by omega⟩
end Wide
end Jvm.RoadKit
namespace Jvm.RoadKit
open Sem ClassFile Op Lib Jvm.Stand Jvm.Free Jvm.LawKit
theorem arv1 {Z : State} {h : Heap} {b : Addr} {f : Nat → Int32} {c : Int32} (A : AI Z h b .char 1 f) (e : f 0 = c) (hf : fits .char (.int c) = true) : ∃ k, Arv Z h b k .char (1 : Int32) ([c].map Value.int) (.int 0) := by
  obtain ⟨cl, A, S, H⟩ := A
  refine ⟨cl.cls, cl, A, rfl, S, by decide, fun k hk => ?_, fun i hi => ?_⟩
  · obtain rfl : k = 0 := by omega
    rw [H 0 (by decide)]
    show some (Value.int (f 0)) = _
    rw [e]; rfl
  · obtain rfl : i = 0 := by omega
    exact hf
end Jvm.RoadKit
/- laws to paste: Road.backV (cut by pick.py; bodies as the Statement names them) -/
namespace Jvm.Pilot.@@N@@
namespace StrChars
open Jvm Sem ClassFile Op Lib Jvm.Stand Jvm.Free.XT Jvm.Free.ALB Jvm.Free.JM Jvm.Free
open Jvm.Lib.Cold (StaticIs)
/-- a char array whose places are chars -/
def Ch (a : Addr) (A : Cell) (U : State) : Prop := Arr .char a A U ∧ Typed .char A
theorem Ch.mv {a : Addr} {A : Cell} {U U' : State} (h : Ch a A U) (hal : U.vm.Alike U'.vm) (hh : U'.heap = U.heap) : Ch a A U' := ⟨h.1.mv hal hh, h.2⟩
theorem Ch.keep {a : Addr} {A : Cell} {U U' : State} (h : Ch a A U) (hal : U.vm.Alike U'.vm) (hk : U'.heap[a]? = some A) : Ch a A U' := ⟨h.1.keep hal hk, h.2⟩
/-- what place i of a char[]'s cell holds -/
def cv (A : Cell) (i : Nat) : Int32 := match A.slots[i]? with | some (.int x) => x | _ => 0
theorem Ch.get {a : Addr} {A : Cell} {U : State} (h : Ch a A U) {i : Nat} (hi : i < A.slots.size) : A.slots[i]? = some (.int (cv A i)) := by
  have e := Array.getElem?_eq_getElem hi
  have f := h.2 i _ e
  unfold cv; rw [e]
  generalize A.slots[i] = v at f
  cases v <;> simp [fits] at f ⊢
/-- the byte that i2b leaves of a char -/
def lo8 (x : Int32) : Int32 := x.toInt8.toInt32
theorem fits_lo8 (y : Int32) : fits .byte (.int (lo8 y)) = true := by
  have h1 := y.toInt8.le_toInt
  have h2 := y.toInt8.toInt_lt
  simp only [lo8, fits, Bool.and_eq_true, decide_eq_true_eq, Int32.le_iff_toInt_le, Int8.toInt_toInt32, show (-128 : Int32).toInt = -128 from by decide, show (127 : Int32).toInt = 127 from by decide]
  omega
/-- A' is A but that each place j of lo .. hi - 1 holds f j -/
def Laid (A A' : Cell) (lo hi : Nat) (f : Nat → Value) : Prop := A'.cls = A.cls ∧ A'.vm = A.vm ∧ A'.slots.size = A.slots.size ∧ ∀ i, A'.slots[i]? = if lo ≤ i ∧ i < hi then some (f i) else A.slots[i]?
theorem Laid.zero (A : Cell) (lo : Nat) (f : Nat → Value) : Laid A A lo (lo + 0) f := ⟨rfl, rfl, rfl, fun i => by rw [if_neg (by omega)]⟩
theorem Laid.step {A Ak : Cell} {lo k : Nat} {f : Nat → Value} {v : Value} (h : Laid A Ak lo k f) (hlo : lo ≤ k) (hk : k < Ak.slots.size) (hv : v = f k) : Laid A (Ak.setSlot k v) lo (k + 1) f := by
  refine ⟨h.1, h.2.1, by simpa [Cell.setSlot] using h.2.2.1, fun i => ?_⟩
  by_cases e : k = i
  · subst e; rw [Cell.slots_setSlot_self v hk, if_pos (by omega), hv]
  · rw [Cell.slots_setSlot_ne v e, h.2.2.2 i]
    by_cases q : lo ≤ i ∧ i < k
    · rw [if_pos q, if_pos (by omega)]
    · rw [if_neg q, if_neg (by omega)]
def U16 : String := "java/lang/StringUTF16"
namespace Cmp5
def yN : MethodName := ⟨"java/lang/StringUTF16", "compress", "([CI[BII)I"⟩
abbrev yB : ByteArray := jdk_52_method_21_code
theorem d0 : decode yB 0 = .ok (.iconst 0, 1) := by decide +kernel
theorem d1 : decode yB 1 = .ok (.istore 5, 2) := by decide +kernel
theorem d3 : decode yB 3 = .ok (.iload 5, 2) := by decide +kernel
theorem d5 : decode yB 5 = .ok (.iload 4, 2) := by decide +kernel
theorem d7 : decode yB 7 = .ok (.if_icmp (.ge) 37, 3) := by decide +kernel
theorem d10 : decode yB 10 = .ok (.aload_n 0, 1) := by decide +kernel
theorem d11 : decode yB 11 = .ok (.iload_n 1, 1) := by decide +kernel
theorem d12 : decode yB 12 = .ok (.caload, 1) := by decide +kernel
theorem d13 : decode yB 13 = .ok (.istore 6, 2) := by decide +kernel
theorem d15 : decode yB 15 = .ok (.iload 6, 2) := by decide +kernel
theorem d17 : decode yB 17 = .ok (.sipush 255, 3) := by decide +kernel
theorem d20 : decode yB 20 = .ok (.if_icmp (.le) 6, 3) := by decide +kernel
theorem d26 : decode yB 26 = .ok (.aload_n 2, 1) := by decide +kernel
theorem d27 : decode yB 27 = .ok (.iload_n 3, 1) := by decide +kernel
theorem d28 : decode yB 28 = .ok (.iload 6, 2) := by decide +kernel
theorem d30 : decode yB 30 = .ok (.i2b, 1) := by decide +kernel
theorem d31 : decode yB 31 = .ok (.bastore, 1) := by decide +kernel
theorem d32 : decode yB 32 = .ok (.iinc 1 1, 3) := by decide +kernel
theorem d35 : decode yB 35 = .ok (.iinc 3 1, 3) := by decide +kernel
theorem d38 : decode yB 38 = .ok (.iinc 5 1, 3) := by decide +kernel
theorem d41 : decode yB 41 = .ok (.goto (-38), 3) := by decide +kernel
theorem d44 : decode yB 44 = .ok (.iload 4, 2) := by decide +kernel
theorem d46 : decode yB 46 = .ok (.ireturn, 1) := by decide +kernel
def site : List Cond := []
def tab : Cond := tabOf yN yB 7 (some .int) site
def P (b : Addr) (A : Cell) (d : Addr) (B : Cell) (o q len : Nat) (args : Array Value) (s : State) : Prop := args = #[.ref b, .int (Int32.ofNat o), .ref d, .int (Int32.ofNat q), .int (Int32.ofNat len)] ∧ Ch b A s ∧ Arr .byte d B s ∧ b ≠ d ∧ o + len ≤ A.slots.size ∧ q + len ≤ B.slots.size ∧ ∀ i, i < len → ¬ 255 < cv A (o + i)
def E (b : Addr) (A : Cell) (d : Addr) (B : Cell) (o q len : Nat) (r : Option Value) (s u : State) : Prop := r = some (.int (Int32.ofNat len)) ∧ ∃ B', Put d B' s u ∧ Laid B B' q (q + len) (fun j => Value.int (lo8 (cv A (o + (j - q)))))
/-- no char of the range above 255: len; the places written hold each char's low byte -/
theorem law (l : Launch) (b : Addr) (A : Cell) (d : Addr) (B : Cell) (o q len : Nat) : Law l yN 5 5 0 0 yB 7 (some .int) site (P b A d B o q len) (E b A d B o q len) (copyLocs d q len) 0 0 := by
  refine Law.of_walk (plainFor_of_name (by decide +kernel)) (by decide +kernel) (by decide +kernel) (by decide) (fun _ _ h => by rw [h.1]; rfl) (fun _ U U' hal hh h => ⟨h.1, h.2.1.mv hal hh, h.2.2.1.mv hal hh, h.2.2.2⟩) (fun r U U' V V' h1 hal h2 h => ⟨h.1, h.2.elim fun B' q => ⟨B', q.1.mv h1 h2, q.2⟩⟩) ?_
  intro p e s m args below meth c s₁ X0 hexec hbytes hml hret hlk hnm hown hh0 W hP
  obtain ⟨rfl, hA, hB, hne, l1, l2, hp⟩ := hP
  have c1 : Steps p.tables e below (s₁.setTop (entryFrame m #[.ref b, .int (Int32.ofNat o), .ref d, .int (Int32.ofNat q), .int (Int32.ofNat len)] 7)) (s₁.setTop (mkF m 0 #[.val (.ref b), .val (.int (Int32.ofNat o)), .val (.ref d), .val (.int (Int32.ofNat q)), .val (.int (Int32.ofNat len)), .unset, .unset] [])) := entry rfl
  have hA0 := hA.1.mv X0.warmed.alike hh0
  have hB0 := hB.mv X0.warmed.alike hh0
  have a31 := hA.1.2.2.2
  have c2 : Steps p.tables e below (s₁.setTop (entryFrame m #[.ref b, .int (Int32.ofNat o), .ref d, .int (Int32.ofNat q), .int (Int32.ofNat len)] 7)) (s₁.setTop (mkF m 3 #[.val (.ref b), .val (.int (Int32.ofNat o)), .val (.ref d), .val (.int (Int32.ofNat q)), .val (.int (Int32.ofNat len)), .val (.int 0), .unset] [])) := c1.trans (by
    refine iconstV X0.here hexec rfl 0 (hb hbytes d0) (by decide) ?_
    refine XS.istore X0.here hexec rfl (hb hbytes d1) rfl rfl ?_
    exact Steps.refl _)
  have loop : ∀ (r i : Nat), i + r = len → ∀ (z : Slot), (z = .unset ∨ ∃ w, z = .val w ∧ w.category = 1) → ∀ (Tl : State) (Bk : Cell), Stand p l e { frames := 0, locals := 0, cells := 0, slots := 0 } s m #[.ref b, .int (Int32.ofNat o), .ref d, .int (Int32.ofNat q), .int (Int32.ofNat len)] below meth c Tl ([] ++ copyLocs d q i) 0 0 → Put d Bk s₁ Tl → Laid B Bk q (q + i) (fun j => Value.int (lo8 (cv A (o + (j - q))))) →
      Steps p.tables e below (s₁.setTop (entryFrame m #[.ref b, .int (Int32.ofNat o), .ref d, .int (Int32.ofNat q), .int (Int32.ofNat len)] 7)) (Tl.setTop (mkF m 3 #[.val (.ref b), .val (.int (Int32.ofNat (o + i))), .val (.ref d), .val (.int (Int32.ofNat (q + i))), .val (.int (Int32.ofNat len)), .val (.int (Int32.ofNat i)), z] [])) → ∃ (T' : State) (B' : Cell) (z' : Slot), Stand p l e { frames := 0, locals := 0, cells := 0, slots := 0 } s m #[.ref b, .int (Int32.ofNat o), .ref d, .int (Int32.ofNat q), .int (Int32.ofNat len)] below meth c T' ([] ++ copyLocs d q len) 0 0 ∧ Put d B' s₁ T' ∧ Laid B B' q (q + len) (fun j => Value.int (lo8 (cv A (o + (j - q))))) ∧
      Steps p.tables e below (s₁.setTop (entryFrame m #[.ref b, .int (Int32.ofNat o), .ref d, .int (Int32.ofNat q), .int (Int32.ofNat len)] 7)) (T'.setTop (mkF m 3 #[.val (.ref b), .val (.int (Int32.ofNat (o + len))), .val (.ref d), .val (.int (Int32.ofNat (q + len))), .val (.int (Int32.ofNat len)), .val (.int (Int32.ofNat len)), z'] [])) := by
    intro r
    induction r with
    | zero =>
      intro i hi z hz Tl Bk Xl pl fl cl
      have hil : i = len := by omega
      rw [hil] at Xl fl cl
      exact ⟨Tl, Bk, z, Xl, pl, fl, cl⟩
    | succ r ih =>
      intro i hi z hz Tl Bk Xl pl fl cl
      have all := X0.warmed.alike.symm.trans Xl.warmed.alike
      have hAl := hA0.keep all (pl.other hne hA0.1)
      have hBk := hB0.like all pl.1 fl.1 fl.2.1 fl.2.2.1
      have hlt : q + i < Bk.slots.size := by rw [fl.2.2.1]; omega
      have c3 : Steps p.tables e below (s₁.setTop (entryFrame m #[.ref b, .int (Int32.ofNat o), .ref d, .int (Int32.ofNat q), .int (Int32.ofNat len)] 7)) (Tl.setTop (mkF m 12 #[.val (.ref b), .val (.int (Int32.ofNat (o + i))), .val (.ref d), .val (.int (Int32.ofNat (q + i))), .val (.int (Int32.ofNat len)), .val (.int (Int32.ofNat i)), z] [.int (Int32.ofNat (o + i)), .ref b])) := cl.trans (by
        refine XS.iload Xl.here hexec rfl (hb hbytes d3) rfl ?_
        refine XS.iload Xl.here hexec rfl (hb hbytes d5) rfl ?_
        refine XS.icmpNo Xl.here hexec rfl (hb hbytes d7) rfl (ii_ge_f (lt32 (by omega) (by omega))) ?_
        refine XS.aloadN Xl.here hexec rfl (hb hbytes d10) rfl rfl ?_
        refine XS.iloadN Xl.here hexec rfl (hb hbytes d11) rfl ?_
        exact Steps.refl _)
      have c4 : Steps p.tables e below (s₁.setTop (entryFrame m #[.ref b, .int (Int32.ofNat o), .ref d, .int (Int32.ofNat q), .int (Int32.ofNat len)] 7)) (Tl.setTop (mkF m 13 #[.val (.ref b), .val (.int (Int32.ofNat (o + i))), .val (.ref d), .val (.int (Int32.ofNat (q + i))), .val (.int (Int32.ofNat len)), .val (.int (Int32.ofNat i)), z] [.int (cv A (o + i))])) := c3.trans (by
        refine Xl.aget hexec hAl rfl (hA.get (i := o + i) (by omega)) rfl rfl (hb hbytes d12) ?_
        exact Steps.refl _)
      have c5 : Steps p.tables e below (s₁.setTop (entryFrame m #[.ref b, .int (Int32.ofNat o), .ref d, .int (Int32.ofNat q), .int (Int32.ofNat len)] 7)) (Tl.setTop (mkF m 15 #[.val (.ref b), .val (.int (Int32.ofNat (o + i))), .val (.ref d), .val (.int (Int32.ofNat (q + i))), .val (.int (Int32.ofNat len)), .val (.int (Int32.ofNat i)), .val (.int (cv A (o + i)))] [])) := c4.trans (by
        refine XS.istoreS Xl.here hexec rfl (hb hbytes d13) rfl rfl hz ?_
        exact Steps.refl _)
      have c6 : Steps p.tables e below (s₁.setTop (entryFrame m #[.ref b, .int (Int32.ofNat o), .ref d, .int (Int32.ofNat q), .int (Int32.ofNat len)] 7)) (Tl.setTop (mkF m 31 #[.val (.ref b), .val (.int (Int32.ofNat (o + i))), .val (.ref d), .val (.int (Int32.ofNat (q + i))), .val (.int (Int32.ofNat len)), .val (.int (Int32.ofNat i)), .val (.int (cv A (o + i)))] [.int (lo8 (cv A (o + i))), .int (Int32.ofNat (q + i)), .ref d])) := c5.trans (by
        refine XS.iload Xl.here hexec rfl (hb hbytes d15) rfl ?_
        refine sipushV Xl.here hexec rfl 255 (hb hbytes d17) (by decide) ?_
        refine XS.icmpYes Xl.here hexec rfl (pc0 := 20) rfl (hb hbytes d20) rfl (ii_le_t (hp i (by omega))) (by decide) rfl ?_
        refine XS.aloadN Xl.here hexec rfl (hb hbytes d26) rfl rfl ?_
        refine XS.iloadN Xl.here hexec rfl (hb hbytes d27) rfl ?_
        refine XS.iload Xl.here hexec rfl (hb hbytes d28) rfl ?_
        refine i2b Xl.here hexec rfl (hb hbytes d30) rfl ?_
        exact Steps.refl _)
      obtain ⟨T7, X7, p7, st7⟩ := Xl.aput hexec hBk rfl hlt rfl (fits_lo8 (cv A (o + i))) (g := (mkF m 31 #[.val (.ref b), .val (.int (Int32.ofNat (o + i))), .val (.ref d), .val (.int (Int32.ofNat (q + i))), .val (.int (Int32.ofNat len)), .val (.int (Int32.ofNat i)), .val (.int (cv A (o + i)))] [.int (lo8 (cv A (o + i))), .int (Int32.ofNat (q + i)), .ref d])) rfl (rest := []) rfl (hb hbytes d31)
      have c8 : Steps p.tables e below (s₁.setTop (entryFrame m #[.ref b, .int (Int32.ofNat o), .ref d, .int (Int32.ofNat q), .int (Int32.ofNat len)] 7)) (T7.setTop (mkF m 32 #[.val (.ref b), .val (.int (Int32.ofNat (o + i))), .val (.ref d), .val (.int (Int32.ofNat (q + i))), .val (.int (Int32.ofNat len)), .val (.int (Int32.ofNat i)), .val (.int (cv A (o + i)))] [])) := c6.trans (st7 _ (Steps.refl _))
      have c9 : Steps p.tables e below (s₁.setTop (entryFrame m #[.ref b, .int (Int32.ofNat o), .ref d, .int (Int32.ofNat q), .int (Int32.ofNat len)] 7)) (T7.setTop (mkF m 3 #[.val (.ref b), .val (.int (Int32.ofNat (o + i) + 1)), .val (.ref d), .val (.int (Int32.ofNat (q + i) + 1)), .val (.int (Int32.ofNat len)), .val (.int (Int32.ofNat i + 1)), .val (.int (cv A (o + i)))] [])) := c8.trans (by
        refine iincV X7.here hexec rfl 1 (hb hbytes d32) (by decide) rfl rfl ?_
        refine iincV X7.here hexec rfl 1 (hb hbytes d35) (by decide) rfl rfl ?_
        refine iincV X7.here hexec rfl 1 (hb hbytes d38) (by decide) rfl rfl ?_
        refine XS.goto X7.here hexec rfl (pc0 := 41) rfl (hb hbytes d41) (by decide) rfl ?_
        exact Steps.refl _)
      have c10 : Steps p.tables e below (s₁.setTop (entryFrame m #[.ref b, .int (Int32.ofNat o), .ref d, .int (Int32.ofNat q), .int (Int32.ofNat len)] 7)) (T7.setTop (mkF m 3 #[.val (.ref b), .val (.int (Int32.ofNat (o + (i + 1)))), .val (.ref d), .val (.int (Int32.ofNat (q + (i + 1)))), .val (.int (Int32.ofNat len)), .val (.int (Int32.ofNat (i + 1))), .val (.int (cv A (o + i)))] [])) := by
        have := c9
        rw [succ32, succ32, succ32] at this
        exact this
      exact ih (i + 1) (by omega) _ (Or.inr ⟨_, rfl, rfl⟩) T7 _ (by rw [copyLocs_step, ← List.append_assoc]; exact X7) (pl.trans p7) (fl.step (by omega) hlt (by simp)) c10
  obtain ⟨T9, B9, z9, X9, p9, f9, g9⟩ := loop len 0 (by omega) .unset (Or.inl rfl) s₁ B (by simpa [copyLocs] using X0) ⟨hB0.1, fun _ _ => rfl, rfl⟩ (Laid.zero _ _ _) c2
  have c11 : Steps p.tables e below (s₁.setTop (entryFrame m #[.ref b, .int (Int32.ofNat o), .ref d, .int (Int32.ofNat q), .int (Int32.ofNat len)] 7)) (T9.setTop (mkF m 46 #[.val (.ref b), .val (.int (Int32.ofNat (o + len))), .val (.ref d), .val (.int (Int32.ofNat (q + len))), .val (.int (Int32.ofNat len)), .val (.int (Int32.ofNat len)), z9] [.int (Int32.ofNat len)])) := g9.trans (by
    refine XS.iload X9.here hexec rfl (hb hbytes d3) rfl ?_
    refine XS.iload X9.here hexec rfl (hb hbytes d5) rfl ?_
    refine XS.icmpYes X9.here hexec rfl (pc0 := 7) rfl (hb hbytes d7) rfl (ii_ge_t (nlt32 (by omega) (Nat.le_refl _))) (by decide) rfl ?_
    refine XS.iload X9.here hexec rfl (hb hbytes d44) rfl ?_
    exact Steps.refl _)
  exact ⟨T9, some (.int (Int32.ofNat len)), _, _, _, X9, by simp, rfl, rfl, (fun h => by cases h), ⟨rfl, B9, p9.from hh0, f9⟩, fun fs hl => c11.trans (X9.ireturnOut hexec hret rfl (Or.inl rfl) (hb hbytes d46) hl)⟩
end Cmp5
namespace Cmp3
def yN : MethodName := ⟨"java/lang/StringUTF16", "compress", "([CII)[B"⟩
abbrev yB : ByteArray := jdk_52_method_16_code
theorem d0 : decode yB 0 = .ok (.iload_n 2, 1) := by decide +kernel
theorem d1 : decode yB 1 = .ok (.newarray .byte, 2) := by decide +kernel
theorem d3 : decode yB 3 = .ok (.astore_n 3, 1) := by decide +kernel
theorem d4 : decode yB 4 = .ok (.aload_n 0, 1) := by decide +kernel
theorem d5 : decode yB 5 = .ok (.iload_n 1, 1) := by decide +kernel
theorem d6 : decode yB 6 = .ok (.aload_n 3, 1) := by decide +kernel
theorem d7 : decode yB 7 = .ok (.iconst 0, 1) := by decide +kernel
theorem d8 : decode yB 8 = .ok (.iload_n 2, 1) := by decide +kernel
theorem d9 : decode yB 9 = .ok (.invokestatic 115, 3) := by decide +kernel
theorem d12 : decode yB 12 = .ok (.istore 4, 2) := by decide +kernel
theorem d14 : decode yB 14 = .ok (.iload 4, 2) := by decide +kernel
theorem d16 : decode yB 16 = .ok (.iload_n 2, 1) := by decide +kernel
theorem d17 : decode yB 17 = .ok (.if_icmp (.eq) 40, 3) := by decide +kernel
theorem d57 : decode yB 57 = .ok (.aload_n 3, 1) := by decide +kernel
theorem d58 : decode yB 58 = .ok (.areturn, 1) := by decide +kernel
def site : List Cond := [.arrayClass .byte, Cmp5.tab] ++ staticW U16 115 Cmp5.yN
def tab : Cond := tabOf yN yB 6 (some (.array .byte)) site
def P (b : Addr) (A : Cell) (o len : Nat) (args : Array Value) (s : State) : Prop := args = #[.ref b, .int (Int32.ofNat o), .int (Int32.ofNat len)] ∧ Ch b A s ∧ o + len ≤ A.slots.size ∧ len ≤ 536870912 ∧ ∀ i, i < len → ¬ 255 < cv A (o + i)
def E (b : Addr) (A : Cell) (o len : Nat) (r : Option Value) (s u : State) : Prop := NewArr .byte "[B" len (fun j => .int (lo8 (cv A (o + j)))) r s u ∧ u.heap.size = s.heap.size + 1
/-- no char of the range above 255: a new byte[] of their low bytes -/
theorem law (l : Launch) (b : Addr) (A : Cell) (o len : Nat) : Law l yN 3 3 1 18 yB 6 (some (.array .byte)) site (P b A o len) (E b A o len) [] 1 len := by
  refine Law.of_walk (plainFor_of_name (by decide +kernel)) (by decide +kernel) (by decide +kernel) (by decide) (fun _ _ h => by rw [h.1]; rfl) (fun _ U U' hal hh h => ⟨h.1, h.2.1.mv hal hh, h.2.2⟩) (fun r U U' V V' h1 hal h2 h => ⟨NewArr.mv r U U' V V' h1 hal h2 h.1, by rw [h1, h2]; exact h.2⟩) ?_
  intro p e s m args below meth c s₁ X0 hexec hbytes hml hret hlk hnm hown hh0 W hP
  obtain ⟨rfl, hA, l1, l2, hp⟩ := hP
  have a31 := hA.1.2.2.2
  have c1 : Steps p.tables e below (s₁.setTop (entryFrame m #[.ref b, .int (Int32.ofNat o), .int (Int32.ofNat len)] 6)) (s₁.setTop (mkF m 0 #[.val (.ref b), .val (.int (Int32.ofNat o)), .val (.int (Int32.ofNat len)), .unset, .unset, .unset] [])) := entry rfl
  have c2 : Steps p.tables e below (s₁.setTop (entryFrame m #[.ref b, .int (Int32.ofNat o), .int (Int32.ofNat len)] 6)) (s₁.setTop (mkF m 1 #[.val (.ref b), .val (.int (Int32.ofNat o)), .val (.int (Int32.ofNat len)), .unset, .unset, .unset] [.int (Int32.ofNat len)])) := c1.trans (by
    refine XS.iloadN X0.here hexec rfl (hb hbytes d0) rfl ?_
    exact Steps.refl _)
  obtain ⟨T3, B3, X3, ba3, bs3, bv3, bh3, bf3, st3⟩ := X0.anew hexec (atype := .byte) (wk W (.arrayClass .byte)) rfl (by show len * 1 ≤ _; omega) (by omega) (g := (mkF m 1 #[.val (.ref b), .val (.int (Int32.ofNat o)), .val (.int (Int32.ofNat len)), .unset, .unset, .unset] [.int (Int32.ofNat len)])) rfl (hb hbytes d1) (rest := []) rfl (Nat.le_refl _) (by show 0 + len ≤ len; omega)
  rw [hh0] at ba3 st3
  have kp3 : XT.Kept s T3 := (XT.Kept.of_eq hh0).push bh3
  have hA3 := hA.keep X3.warmed.alike (kp3 _ _ hA.1.1)
  have hne : b ≠ s.heap.size := hA.1.ne
  have c4 : Steps p.tables e below (s₁.setTop (entryFrame m #[.ref b, .int (Int32.ofNat o), .int (Int32.ofNat len)] 6)) (T3.setTop (mkF m 3 #[.val (.ref b), .val (.int (Int32.ofNat o)), .val (.int (Int32.ofNat len)), .unset, .unset, .unset] [.ref s.heap.size])) := c2.trans (st3 _ (Steps.refl _))
  have c5 : Steps p.tables e below (s₁.setTop (entryFrame m #[.ref b, .int (Int32.ofNat o), .int (Int32.ofNat len)] 6)) (T3.setTop (mkF m 9 #[.val (.ref b), .val (.int (Int32.ofNat o)), .val (.int (Int32.ofNat len)), .val (.ref s.heap.size), .unset, .unset] [.int (Int32.ofNat len), .int 0, .ref s.heap.size, .int (Int32.ofNat o), .ref b])) := c4.trans (by
    refine XS.astoreN X3.here hexec rfl (hb hbytes d3) rfl rfl rfl ?_
    refine XS.aloadN X3.here hexec rfl (hb hbytes d4) rfl rfl ?_
    refine XS.iloadN X3.here hexec rfl (hb hbytes d5) rfl ?_
    refine XS.aloadN X3.here hexec rfl (hb hbytes d6) rfl rfl ?_
    refine iconstV X3.here hexec rfl 0 (hb hbytes d7) (by decide) ?_
    refine XS.iloadN X3.here hexec rfl (hb hbytes d8) rfl ?_
    exact Steps.refl _)
  obtain ⟨v6, T6, X6, E6, g6⟩ := X3.callS hexec (Cmp5.law l b A s.heap.size B3 o 0 len) hown (wks W (staticW U16 115 Cmp5.yN)) (wk W Cmp5.tab) (W := 0) (Nat.le_of_ble_eq_true rfl) (Nat.le_of_ble_eq_true rfl) (Nat.le_refl _) (by show 0 + len + 0 ≤ len; omega) (g := (mkF m 9 #[.val (.ref b), .val (.int (Int32.ofNat o)), .val (.int (Int32.ofNat len)), .val (.ref s.heap.size), .unset, .unset] [.int (Int32.ofNat len), .int (Int32.ofNat 0), .ref s.heap.size, .int (Int32.ofNat o), .ref b])) rfl (by rw [hml]; rfl) c5 (argsL := [.ref b, .int (Int32.ofNat o), .ref s.heap.size, .int (Int32.ofNat 0), .int (Int32.ofNat len)]) (rest := []) rfl rfl (by show 2 * 0 + 0 ≤ _; decide) (hb hbytes d9) (⟨rfl, hA3, ba3, hne, l1, by rw [bs3]; simp, hp⟩)
  obtain ⟨rfl, B6, p6, f6⟩ := E6
  have c7 : Steps p.tables e below (s₁.setTop (entryFrame m #[.ref b, .int (Int32.ofNat o), .int (Int32.ofNat len)] 6)) (T6.setTop (mkF m 12 #[.val (.ref b), .val (.int (Int32.ofNat o)), .val (.int (Int32.ofNat len)), .val (.ref s.heap.size), .unset, .unset] [.int (Int32.ofNat len)])) := g6
  have c8 : Steps p.tables e below (s₁.setTop (entryFrame m #[.ref b, .int (Int32.ofNat o), .int (Int32.ofNat len)] 6)) (T6.setTop (mkF m 58 #[.val (.ref b), .val (.int (Int32.ofNat o)), .val (.int (Int32.ofNat len)), .val (.ref s.heap.size), .val (.int (Int32.ofNat len)), .unset] [.ref s.heap.size])) := c7.trans (by
    refine XS.istore X6.here hexec rfl (hb hbytes d12) rfl rfl ?_
    refine XS.iload X6.here hexec rfl (hb hbytes d14) rfl ?_
    refine XS.iloadN X6.here hexec rfl (hb hbytes d16) rfl ?_
    refine XS.icmpYes X6.here hexec rfl (pc0 := 17) rfl (hb hbytes d17) rfl (ii_eq_t rfl) (by decide) rfl ?_
    refine XS.aloadN X6.here hexec rfl (hb hbytes d57) rfl rfl ?_
    exact Steps.refl _)
  have X8 := X6.wide (L' := []) (cells' := 1) (slots' := len) (fun x hx hlt => by
    simp only [List.nil_append, copyLocs, List.mem_map, List.mem_range] at hx
    obtain ⟨i, -, rfl⟩ := hx
    exact absurd hlt (Nat.lt_irrefl _)) (Nat.le_refl _) (by omega)
  exact ⟨T6, some (.ref s.heap.size), _, _, _, X8, rfl, rfl, rfl, (fun h => by cases h), ⟨⟨rfl, B6, ba3.like (X3.warmed.alike.symm.trans X6.warmed.alike) p6.1 f6.1 f6.2.1 f6.2.2.1, f6.2.1.trans bv3, by rw [X6.warmed.alike.findClass, f6.1]; exact bf3, by rw [f6.2.2.1, bs3]; simp, fun j hj => by rw [f6.2.2.2 j, if_pos (by omega)]; rfl, kp3.put p6 (Nat.le_refl _)⟩, by rw [p6.2.2, bh3, hh0]; simp⟩, fun fs hl => c8.trans (X8.areturnOut hexec rfl hret rfl (hb hbytes d58) hl)⟩
end Cmp3
namespace CodL
def yN : MethodName := ⟨"java/lang/StringUTF16", "coderFromArrayLen", "([BI)B"⟩
abbrev yB : ByteArray := jdk_52_method_15_code
theorem d0 : decode yB 0 = .ok (.iload_n 1, 1) := by decide +kernel
theorem d1 : decode yB 1 = .ok (.aload_n 0, 1) := by decide +kernel
theorem d2 : decode yB 2 = .ok (.arraylength, 1) := by decide +kernel
theorem d3 : decode yB 3 = .ok (.isub, 1) := by decide +kernel
theorem d4 : decode yB 4 = .ok (.bipush 31, 2) := by decide +kernel
theorem d6 : decode yB 6 = .ok (.iushr, 1) := by decide +kernel
theorem d7 : decode yB 7 = .ok (.i2b, 1) := by decide +kernel
theorem d8 : decode yB 8 = .ok (.ireturn, 1) := by decide +kernel
def site : List Cond := []
def tab : Cond := tabOf yN yB 2 (some .byte) site
def P (d : Addr) (B : Cell) (args : Array Value) (s : State) : Prop := args = #[.ref d, .int (Int32.ofNat B.slots.size)] ∧ Arr .byte d B s
def E (r : Option Value) (s u : State) : Prop := XT.PureE (some (.int 0)) r s u
/-- an array as long as the number of chars: LATIN1 -/
theorem law (l : Launch) (d : Addr) (B : Cell) : Law l yN 2 2 0 0 yB 2 (some .byte) site (P d B) E [] 0 0 := by
  refine Law.of_walk (plainFor_of_name (by decide +kernel)) (by decide +kernel) (by decide +kernel) (by decide) (fun _ _ h => by rw [h.1]; rfl) (fun _ U U' hal hh h => ⟨h.1, h.2.mv hal hh⟩) (fun r U U' V V' h1 hal h2 h => XT.PureE.mv r U U' V V' h1 hal h2 h) ?_
  intro p e s m args below meth c s₁ X0 hexec hbytes hml hret hlk hnm hown hh0 W hP
  obtain ⟨rfl, hB⟩ := hP
  have hB0 := hB.mv X0.warmed.alike hh0
  have c1 : Steps p.tables e below (s₁.setTop (entryFrame m #[.ref d, .int (Int32.ofNat B.slots.size)] 2)) (s₁.setTop (mkF m 0 #[.val (.ref d), .val (.int (Int32.ofNat B.slots.size))] [])) := entry rfl
  have c2 : Steps p.tables e below (s₁.setTop (entryFrame m #[.ref d, .int (Int32.ofNat B.slots.size)] 2)) (s₁.setTop (mkF m 2 #[.val (.ref d), .val (.int (Int32.ofNat B.slots.size))] [.ref d, .int (Int32.ofNat B.slots.size)])) := c1.trans (by
    refine XS.iloadN X0.here hexec rfl (hb hbytes d0) rfl ?_
    refine XS.aloadN X0.here hexec rfl (hb hbytes d1) rfl rfl ?_
    exact Steps.refl _)
  have c3 : Steps p.tables e below (s₁.setTop (entryFrame m #[.ref d, .int (Int32.ofNat B.slots.size)] 2)) (s₁.setTop (mkF m 8 #[.val (.ref d), .val (.int (Int32.ofNat B.slots.size))] [.int (lo8 (ushr (Int32.ofNat B.slots.size - Int32.ofNat B.slots.size) 31))])) := c2.trans (by
    refine X0.alen hexec hB0 rfl rfl (hb hbytes d2) ?_
    refine XS.isub X0.here hexec rfl (hb hbytes d3) rfl ?_
    refine bipushV X0.here hexec rfl 31 (hb hbytes d4) (by decide) ?_
    refine iushr X0.here hexec rfl (hb hbytes d6) rfl ?_
    refine i2b X0.here hexec rfl (hb hbytes d7) rfl ?_
    exact Steps.refl _)
  have e0 : lo8 (ushr (Int32.ofNat B.slots.size - Int32.ofNat B.slots.size) 31) = 0 := by rw [Int32.sub_self]; decide
  rw [e0] at c3
  exact ⟨s₁, some (.int 0), _, _, _, X0, rfl, rfl, rfl, (fun h => by cases h), ⟨rfl, hh0⟩, fun fs hl => c3.trans (X0.ireturnOut hexec hret rfl (Or.inr (Or.inr (Or.inl rfl))) (hb hbytes d8) hl)⟩
end CodL
/-- the String at a is Latin-1 over a new byte[] (the heap's one new cell): the low bytes of the len chars of A from o on; every cell but a is kept -/
def Got (a : Addr) (D : Cell) (fV fC : Field) (A : Cell) (o len : Nat) (r : Option Value) (s u : State) : Prop := r = none ∧ ∃ D' V : Cell, Blank "java/lang/String" a D' u ∧ Same D D' [fV.slot, fC.slot] ∧ D'.slots[fV.slot]? = some (.ref s.heap.size) ∧ D'.slots[fC.slot]? = some (.int 0) ∧ Arr .byte s.heap.size V u ∧ V.vm = .none ∧ u.vm.findClass "[B" = some V.cls ∧ V.slots.size = len ∧ (∀ j, j < len → V.slots[j]? = some (.int (lo8 (cv A (o + j))))) ∧ (∀ (y : Addr) (c : Cell), y ≠ a → s.heap[y]? = some c → u.heap[y]? = some c) ∧ u.heap.size = s.heap.size + 1
theorem Got.mv {a : Addr} {D A : Cell} {fV fC : Field} {o len : Nat} : ∀ r (U U' V V' : State), U'.heap = U.heap → V.vm.Alike V'.vm → V'.heap = V.heap → Got a D fV fC A o len r U V → Got a D fV fC A o len r U' V' :=
  fun r U U' V V' h1 hal h2 ⟨e0, D', X, a1, a2, a3, a4, a5, a6, a7, a8, a9, a10, a11⟩ => ⟨e0, D', X, a1.mv hal h2, a2, by rw [h1]; exact a3, a4, by rw [h1]; exact a5.mv hal h2, a6, by rw [hal.findClass]; exact a7, a8, a9, by rw [h1, h2]; exact a10, by rw [h1, h2]; exact a11⟩
namespace New4
def yN : MethodName := ⟨"java/lang/String", "<init>", "([CIILjava/lang/Void;)V"⟩
abbrev yB : ByteArray := jdk_42_method_149_code
theorem d0 : decode yB 0 = .ok (.aload_n 0, 1) := by decide +kernel
theorem d1 : decode yB 1 = .ok (.invokespecial 1, 3) := by decide +kernel
theorem d4 : decode yB 4 = .ok (.iload_n 3, 1) := by decide +kernel
theorem d5 : decode yB 5 = .ok (.ifCond (.ne) 22, 3) := by decide +kernel
theorem d27 : decode yB 27 = .ok (.getstatic 38, 3) := by decide +kernel
theorem d30 : decode yB 30 = .ok (.ifCond (.eq) 28, 3) := by decide +kernel
theorem d33 : decode yB 33 = .ok (.aload_n 1, 1) := by decide +kernel
theorem d34 : decode yB 34 = .ok (.iload_n 2, 1) := by decide +kernel
theorem d35 : decode yB 35 = .ok (.iload_n 3, 1) := by decide +kernel
theorem d36 : decode yB 36 = .ok (.invokestatic 177, 3) := by decide +kernel
theorem d39 : decode yB 39 = .ok (.astore 5, 2) := by decide +kernel
theorem d41 : decode yB 41 = .ok (.aload_n 0, 1) := by decide +kernel
theorem d42 : decode yB 42 = .ok (.aload 5, 2) := by decide +kernel
theorem d44 : decode yB 44 = .ok (.iload_n 3, 1) := by decide +kernel
theorem d45 : decode yB 45 = .ok (.invokestatic 47, 3) := by decide +kernel
theorem d48 : decode yB 48 = .ok (.putfield 15, 3) := by decide +kernel
theorem d51 : decode yB 51 = .ok (.aload_n 0, 1) := by decide +kernel
theorem d52 : decode yB 52 = .ok (.aload 5, 2) := by decide +kernel
theorem d54 : decode yB 54 = .ok (.putfield 9, 3) := by decide +kernel
theorem d57 : decode yB 57 = .ok (.return_, 1) := by decide +kernel
def site : List Cond := [.fieldLink "java/lang/String" 38 "java/lang/String" "COMPACT_STRINGS" "Z", Cmp3.tab, CodL.tab, .laysFinal "java/lang/String" "java/lang/String" "value" "[B", .fieldLink "java/lang/String" 9 "java/lang/String" "value" "[B", .laysFinal "java/lang/String" "java/lang/String" "coder" "B", .fieldLink "java/lang/String" 15 "java/lang/String" "coder" "B"] ++ objW "java/lang/String" 1 ++ staticW "java/lang/String" 177 Cmp3.yN ++ staticW "java/lang/String" 47 CodL.yN
def tab : Cond := tabOf yN yB 6 none site
def P (a : Addr) (D : Cell) (fV fC : Field) (b : Addr) (A : Cell) (z : Int32) (o len : Nat) (args : Array Value) (s : State) : Prop := args = #[.ref a, .ref b, .int (Int32.ofNat o), .int (Int32.ofNat len), .null] ∧ Blank "java/lang/String" a D s ∧ Found "java/lang/String" "value" "[B" fV s ∧ Found "java/lang/String" "coder" "B" fC s ∧ Ch b A s ∧ StaticIs s "java/lang/String" "COMPACT_STRINGS" "Z" (.int z) ∧ ¬ z = 0 ∧ 0 < len ∧ o + len ≤ A.slots.size ∧ len ≤ 536870912 ∧ ∀ i, i < len → ¬ 255 < cv A (o + i)
def E (a : Addr) (D : Cell) (fV fC : Field) (A : Cell) (o len : Nat) (r : Option Value) (s u : State) : Prop := Got a D fV fC A o len r s u
/-- len > 0, no char of the range above 255: a Latin-1 String of their low bytes -/
theorem law (l : Launch) (a : Addr) (D : Cell) (fV fC : Field) (b : Addr) (A : Cell) (z : Int32) (o len : Nat) : Law l yN 5 4 2 35 yB 6 none site (P a D fV fC b A z o len) (E a D fV fC A o len) [⟨a, fC.slot⟩, ⟨a, fV.slot⟩] 1 len := by
  refine Law.of_walk (plainFor_of_name (by decide +kernel)) (by decide +kernel) (by decide +kernel) (by decide) (fun _ _ h => by rw [h.1]; rfl) (fun _ U U' hal hh h => ⟨h.1, h.2.1.mv hal hh, h.2.2.1.al hal, h.2.2.2.1.al hal, h.2.2.2.2.1.mv hal hh, h.2.2.2.2.2.1.there hal hh, h.2.2.2.2.2.2⟩) (fun r U U' V V' h1 hal h2 h => Got.mv r U U' V V' h1 hal h2 h) ?_
  intro p e s m args below meth c s₁ X0 hexec hbytes hml hret hlk hnm hown hh0 W hP
  obtain ⟨rfl, hB, f1, f2, hA, s1, hz, l0, l1, l2, hp⟩ := hP
  have a31 := hA.1.2.2.2
  have c1 : Steps p.tables e below (s₁.setTop (entryFrame m #[.ref a, .ref b, .int (Int32.ofNat o), .int (Int32.ofNat len), .null] 6)) (s₁.setTop (mkF m 0 #[.val (.ref a), .val (.ref b), .val (.int (Int32.ofNat o)), .val (.int (Int32.ofNat len)), .val .null, .unset] [])) := entry rfl
  have c2 : Steps p.tables e below (s₁.setTop (entryFrame m #[.ref a, .ref b, .int (Int32.ofNat o), .int (Int32.ofNat len), .null] 6)) (s₁.setTop (mkF m 1 #[.val (.ref a), .val (.ref b), .val (.int (Int32.ofNat o)), .val (.int (Int32.ofNat len)), .val .null, .unset] [.ref a])) := c1.trans (by
    refine XS.aloadN X0.here hexec rfl (hb hbytes d0) rfl rfl ?_
    exact Steps.refl _)
  obtain ⟨T3, X3, q3, st3⟩ := X0.oinit hexec hown (wks W (objW "java/lang/String" 1)) (g := (mkF m 1 #[.val (.ref a), .val (.ref b), .val (.int (Int32.ofNat o)), .val (.int (Int32.ofNat len)), .val .null, .unset] [.ref a])) rfl (by rw [hml]; rfl) (rest := []) rfl (hb hbytes d1) (W := 0) (by show 2 * 0 + 0 ≤ _; decide) (Nat.le_of_ble_eq_true rfl) (Nat.le_of_ble_eq_true rfl)
  have hh3 := q3.trans hh0
  have c4 : Steps p.tables e below (s₁.setTop (entryFrame m #[.ref a, .ref b, .int (Int32.ofNat o), .int (Int32.ofNat len), .null] 6)) (T3.setTop (mkF m 27 #[.val (.ref a), .val (.ref b), .val (.int (Int32.ofNat o)), .val (.int (Int32.ofNat len)), .val .null, .unset] [])) := (c2.trans (st3 _ (Steps.refl _))).trans (by
    refine XS.iloadN X3.here hexec rfl (hb hbytes d4) rfl ?_
    refine XS.ifYes X3.here hexec rfl (pc0 := 5) rfl (hb hbytes d5) rfl (i0_ne_t (nz32 (by omega) l0)) (by decide) rfl ?_
    exact Steps.refl _)
  obtain ⟨T5, X5, q5, st5⟩ := X3.sget hexec hown (wk W (.fieldLink "java/lang/String" 38 "java/lang/String" "COMPACT_STRINGS" "Z")) s1 (fun _ _ h => by rw [hh3]; exact h) (g := (mkF m 27 #[.val (.ref a), .val (.ref b), .val (.int (Int32.ofNat o)), .val (.int (Int32.ofNat len)), .val .null, .unset] [])) rfl (hb hbytes d27)
  have hh5 := q5.trans hh3
  have c6 : Steps p.tables e below (s₁.setTop (entryFrame m #[.ref a, .ref b, .int (Int32.ofNat o), .int (Int32.ofNat len), .null] 6)) (T5.setTop (mkF m 30 #[.val (.ref a), .val (.ref b), .val (.int (Int32.ofNat o)), .val (.int (Int32.ofNat len)), .val .null, .unset] [.int z])) := c4.trans (st5 _ (Steps.refl _))
  have c7 : Steps p.tables e below (s₁.setTop (entryFrame m #[.ref a, .ref b, .int (Int32.ofNat o), .int (Int32.ofNat len), .null] 6)) (T5.setTop (mkF m 36 #[.val (.ref a), .val (.ref b), .val (.int (Int32.ofNat o)), .val (.int (Int32.ofNat len)), .val .null, .unset] [.int (Int32.ofNat len), .int (Int32.ofNat o), .ref b])) := c6.trans (by
    refine XS.ifNo X5.here hexec rfl (hb hbytes d30) rfl (i0_eq_f hz) ?_
    refine XS.aloadN X5.here hexec rfl (hb hbytes d33) rfl rfl ?_
    refine XS.iloadN X5.here hexec rfl (hb hbytes d34) rfl ?_
    refine XS.iloadN X5.here hexec rfl (hb hbytes d35) rfl ?_
    exact Steps.refl _)
  obtain ⟨v8, T8, X8, E8, g8⟩ := X5.callS hexec (Cmp3.law l b A o len) hown (wks W (staticW "java/lang/String" 177 Cmp3.yN)) (wk W Cmp3.tab) (W := 0) (Nat.le_of_ble_eq_true rfl) (Nat.le_of_ble_eq_true rfl) (Nat.le_refl _) (by show 0 + len ≤ len; omega) (g := (mkF m 36 #[.val (.ref a), .val (.ref b), .val (.int (Int32.ofNat o)), .val (.int (Int32.ofNat len)), .val .null, .unset] [.int (Int32.ofNat len), .int (Int32.ofNat o), .ref b])) rfl (by rw [hml]; rfl) c7 (argsL := [.ref b, .int (Int32.ofNat o), .int (Int32.ofNat len)]) (rest := []) rfl rfl (by show 2 * 0 + 0 ≤ _; decide) (hb hbytes d36) (⟨rfl, hA.mv X5.warmed.alike hh5, l1, l2, hp⟩)
  obtain ⟨e8, z8⟩ := E8
  obtain ⟨rfl, N, n1, n2, n3, n4, n5, n6⟩ := NewArr.mv _ T5 s _ _ hh5.symm (Vm.Alike.refl _) rfl e8
  rw [hh5] at z8
  have hB1 := hB.keep X8.warmed.alike (n6 _ _ hB.1)
  have hne : s.heap.size ≠ a := (Nat.ne_of_lt (Array.getElem?_eq_some_iff.mp hB.1).1).symm
  have c9 : Steps p.tables e below (s₁.setTop (entryFrame m #[.ref a, .ref b, .int (Int32.ofNat o), .int (Int32.ofNat len), .null] 6)) (T8.setTop (mkF m 39 #[.val (.ref a), .val (.ref b), .val (.int (Int32.ofNat o)), .val (.int (Int32.ofNat len)), .val .null, .unset] [.ref s.heap.size])) := g8
  have c10 : Steps p.tables e below (s₁.setTop (entryFrame m #[.ref a, .ref b, .int (Int32.ofNat o), .int (Int32.ofNat len), .null] 6)) (T8.setTop (mkF m 45 #[.val (.ref a), .val (.ref b), .val (.int (Int32.ofNat o)), .val (.int (Int32.ofNat len)), .val .null, .val (.ref s.heap.size)] [.int (Int32.ofNat N.slots.size), .ref s.heap.size, .ref a])) := by
    have hc : Steps p.tables e below (s₁.setTop (entryFrame m #[.ref a, .ref b, .int (Int32.ofNat o), .int (Int32.ofNat len), .null] 6)) (T8.setTop (mkF m 45 #[.val (.ref a), .val (.ref b), .val (.int (Int32.ofNat o)), .val (.int (Int32.ofNat len)), .val .null, .val (.ref s.heap.size)] [.int (Int32.ofNat len), .ref s.heap.size, .ref a])) := c9.trans (by
      refine XS.astore X8.here hexec rfl (hb hbytes d39) rfl rfl rfl ?_
      refine XS.aloadN X8.here hexec rfl (hb hbytes d41) rfl rfl ?_
      refine XS.aload X8.here hexec rfl (hb hbytes d42) rfl rfl ?_
      refine XS.iloadN X8.here hexec rfl (hb hbytes d44) rfl ?_
      exact Steps.refl _)
    rw [n4]; exact hc
  obtain ⟨v11, T11, X11, E11, g11⟩ := X8.callS hexec (CodL.law l s.heap.size N) hown (wks W (staticW "java/lang/String" 47 CodL.yN)) (wk W CodL.tab) (W := 1) (Nat.le_of_ble_eq_true rfl) (Nat.le_of_ble_eq_true rfl) (Nat.le_refl _) (by show 0 + len + 0 ≤ len; omega) (g := (mkF m 45 #[.val (.ref a), .val (.ref b), .val (.int (Int32.ofNat o)), .val (.int (Int32.ofNat len)), .val .null, .val (.ref s.heap.size)] [.int (Int32.ofNat N.slots.size), .ref s.heap.size, .ref a])) rfl (by rw [hml]; rfl) c10 (argsL := [.ref s.heap.size, .int (Int32.ofNat N.slots.size)]) (rest := [.ref a]) rfl rfl (by show 2 * 0 + (1 + 0) ≤ _; decide) (hb hbytes d45) (⟨rfl, n1⟩)
  obtain ⟨rfl, q11⟩ := E11
  have hB11 := hB1.mv (X8.warmed.alike.symm.trans X11.warmed.alike) q11
  have c12 : Steps p.tables e below (s₁.setTop (entryFrame m #[.ref a, .ref b, .int (Int32.ofNat o), .int (Int32.ofNat len), .null] 6)) (T11.setTop (mkF m 48 #[.val (.ref a), .val (.ref b), .val (.int (Int32.ofNat o)), .val (.int (Int32.ofNat len)), .val .null, .val (.ref s.heap.size)] [.int 0, .ref a])) := g11
  obtain ⟨T13, X13, p13, bl13, sl13, st13⟩ := X11.finit hexec hown (wk W (.fieldLink "java/lang/String" 15 "java/lang/String" "coder" "B")) (Or.inr ⟨_, (wk W (.laysFinal "java/lang/String" "java/lang/String" "coder" "B"))⟩) (Or.inl ⟨rfl, hnm⟩) f2 (Or.inl rfl) hB11 (t := .byte) (by decide +kernel) rfl (g := (mkF m 48 #[.val (.ref a), .val (.ref b), .val (.int (Int32.ofNat o)), .val (.int (Int32.ofNat len)), .val .null, .val (.ref s.heap.size)] [.int 0, .ref a])) rfl (rest := []) rfl (hb hbytes d48)
  have c14 : Steps p.tables e below (s₁.setTop (entryFrame m #[.ref a, .ref b, .int (Int32.ofNat o), .int (Int32.ofNat len), .null] 6)) (T13.setTop (mkF m 54 #[.val (.ref a), .val (.ref b), .val (.int (Int32.ofNat o)), .val (.int (Int32.ofNat len)), .val .null, .val (.ref s.heap.size)] [.ref s.heap.size, .ref a])) := (c12.trans (st13 _ (Steps.refl _))).trans (by
    refine XS.aloadN X13.here hexec rfl (hb hbytes d51) rfl rfl ?_
    refine XS.aload X13.here hexec rfl (hb hbytes d52) rfl rfl ?_
    exact Steps.refl _)
  obtain ⟨T15, X15, p15, bl15, sl15, st15⟩ := X13.finit hexec hown (wk W (.fieldLink "java/lang/String" 9 "java/lang/String" "value" "[B")) (Or.inr ⟨_, (wk W (.laysFinal "java/lang/String" "java/lang/String" "value" "[B"))⟩) (Or.inl ⟨rfl, hnm⟩) f1 (Or.inl rfl) bl13 (t := (.array .byte)) (by decide +kernel) rfl (g := (mkF m 54 #[.val (.ref a), .val (.ref b), .val (.int (Int32.ofNat o)), .val (.int (Int32.ofNat len)), .val .null, .val (.ref s.heap.size)] [.ref s.heap.size, .ref a])) rfl (rest := []) rfl (hb hbytes d54)
  have c16 : Steps p.tables e below (s₁.setTop (entryFrame m #[.ref a, .ref b, .int (Int32.ofNat o), .int (Int32.ofNat len), .null] 6)) (T15.setTop (mkF m 57 #[.val (.ref a), .val (.ref b), .val (.int (Int32.ofNat o)), .val (.int (Int32.ofNat len)), .val .null, .val (.ref s.heap.size)] [])) := c14.trans (st15 _ (Steps.refl _))
  have ap := apart (Or.inr ⟨_, (wk W (.laysFinal "java/lang/String" "java/lang/String" "value" "[B"))⟩) (Or.inr ⟨_, (wk W (.laysFinal "java/lang/String" "java/lang/String" "coder" "B"))⟩) f1 f2 (t₁ := .array .byte) (t₂ := .byte) (by decide +kernel) (by decide +kernel) (by decide)
  have al := X8.warmed.alike.symm.trans X15.warmed.alike
  have n7 : T11.heap[s.heap.size]? = some N := by rw [q11]; exact n1.1
  exact ⟨T15, none, _, _, _, X15, by simp, rfl, by omega, (fun _ => rfl), ⟨rfl, _, N, bl15, ((Same.refl D _).set _ (by simp)).set _ (by simp), sl15, (Cell.slots_setSlot_ne _ ap).trans sl13, n1.keep al (p15.other hne (p13.other hne n7)), n2, by rw [al.findClass]; exact n3, n4, n5, fun y c h1 h2 => p15.other h1 (p13.other h1 (by rw [q11]; exact n6 y c h2)), by rw [p15.2.2, p13.2.2, q11]; exact z8⟩, fun fs hl => c16.trans (X15.returnOut hexec hret (hb hbytes d57) hl)⟩
end New4
namespace New1
def yN : MethodName := ⟨"java/lang/String", "<init>", "([C)V"⟩
abbrev yB : ByteArray := jdk_42_method_3_code
theorem d0 : decode yB 0 = .ok (.aload_n 0, 1) := by decide +kernel
theorem d1 : decode yB 1 = .ok (.aload_n 1, 1) := by decide +kernel
theorem d2 : decode yB 2 = .ok (.iconst 0, 1) := by decide +kernel
theorem d3 : decode yB 3 = .ok (.aload_n 1, 1) := by decide +kernel
theorem d4 : decode yB 4 = .ok (.arraylength, 1) := by decide +kernel
theorem d5 : decode yB 5 = .ok (.aconst_null, 1) := by decide +kernel
theorem d6 : decode yB 6 = .ok (.invokespecial 27, 3) := by decide +kernel
theorem d9 : decode yB 9 = .ok (.return_, 1) := by decide +kernel
def site : List Cond := [New4.tab] ++ initW "java/lang/String" 27 New4.yN
def tab : Cond := tabOf yN yB 2 none site
def P (a : Addr) (D : Cell) (fV fC : Field) (b : Addr) (A : Cell) (z : Int32) (args : Array Value) (s : State) : Prop := args = #[.ref a, .ref b] ∧ Blank "java/lang/String" a D s ∧ Found "java/lang/String" "value" "[B" fV s ∧ Found "java/lang/String" "coder" "B" fC s ∧ Ch b A s ∧ StaticIs s "java/lang/String" "COMPACT_STRINGS" "Z" (.int z) ∧ ¬ z = 0 ∧ 0 < A.slots.size ∧ A.slots.size ≤ 536870912 ∧ ∀ i, i < A.slots.size → ¬ 255 < cv A i
def E (a : Addr) (D : Cell) (fV fC : Field) (A : Cell) (r : Option Value) (s u : State) : Prop := Got a D fV fC A 0 A.slots.size r s u
/-- new String(chars), not empty, no char above 255: a Latin-1 String of their low bytes -/
theorem law (l : Launch) (a : Addr) (D : Cell) (fV fC : Field) (b : Addr) (A : Cell) (z : Int32) : Law l yN 2 1 3 52 yB 2 none site (P a D fV fC b A z) (E a D fV fC A) [⟨a, fC.slot⟩, ⟨a, fV.slot⟩] 1 A.slots.size := by
  refine Law.of_walk (plainFor_of_name (by decide +kernel)) (by decide +kernel) (by decide +kernel) (by decide) (fun _ _ h => by rw [h.1]; rfl) (fun _ U U' hal hh h => ⟨h.1, h.2.1.mv hal hh, h.2.2.1.al hal, h.2.2.2.1.al hal, h.2.2.2.2.1.mv hal hh, h.2.2.2.2.2.1.there hal hh, h.2.2.2.2.2.2⟩) (fun r U U' V V' h1 hal h2 h => Got.mv r U U' V V' h1 hal h2 h) ?_
  intro p e s m args below meth c s₁ X0 hexec hbytes hml hret hlk hnm hown hh0 W hP
  obtain ⟨rfl, hB, f1, f2, hA, s1, hz, l0, l2, hp⟩ := hP
  have c1 : Steps p.tables e below (s₁.setTop (entryFrame m #[.ref a, .ref b] 2)) (s₁.setTop (mkF m 0 #[.val (.ref a), .val (.ref b)] [])) := entry rfl
  have c2 : Steps p.tables e below (s₁.setTop (entryFrame m #[.ref a, .ref b] 2)) (s₁.setTop (mkF m 6 #[.val (.ref a), .val (.ref b)] [.null, .int (Int32.ofNat A.slots.size), .int 0, .ref b, .ref a])) := c1.trans (by
    refine XS.aloadN X0.here hexec rfl (hb hbytes d0) rfl rfl ?_
    refine XS.aloadN X0.here hexec rfl (hb hbytes d1) rfl rfl ?_
    refine iconstV X0.here hexec rfl 0 (hb hbytes d2) (by decide) ?_
    refine XS.aloadN X0.here hexec rfl (hb hbytes d3) rfl rfl ?_
    refine X0.alen hexec (hA.1.mv X0.warmed.alike hh0) rfl rfl (hb hbytes d4) ?_
    refine XS.aconstNull X0.here hexec rfl (hb hbytes d5) ?_
    exact Steps.refl _)
  obtain ⟨v3, T3, X3, E3, g3⟩ := X0.callN hexec (New4.law l a D fV fC b A z 0 A.slots.size) rfl hown (wks W (initW "java/lang/String" 27 New4.yN)) (W New4.tab (by simp only [site, List.mem_cons, List.mem_append, true_or, or_true])) (W := 0) (Nat.le_of_ble_eq_true rfl) (Nat.le_of_ble_eq_true rfl) (Nat.le_refl _) (by show 0 + A.slots.size ≤ A.slots.size; omega) (g := (mkF m 6 #[.val (.ref a), .val (.ref b)] [.null, .int (Int32.ofNat A.slots.size), .int (Int32.ofNat 0), .ref b, .ref a])) rfl (by rw [hml]; rfl) c2 (argsL := [.ref b, .int (Int32.ofNat 0), .int (Int32.ofNat A.slots.size), .null]) (rest := []) rfl rfl (by show 2 * 0 + 0 ≤ _; decide) (hb hbytes d6) (⟨rfl, hB.mv X0.warmed.alike hh0, f1.al X0.warmed.alike, f2.al X0.warmed.alike, hA.mv X0.warmed.alike hh0, s1.there X0.warmed.alike hh0, hz, l0, by omega, l2, fun i hi => by rw [Nat.zero_add]; exact hp i hi⟩)
  have e0 := Got.mv _ s₁ s _ _ hh0.symm (Vm.Alike.refl _) rfl E3
  obtain rfl := e0.1
  have c4 : Steps p.tables e below (s₁.setTop (entryFrame m #[.ref a, .ref b] 2)) (T3.setTop (mkF m 9 #[.val (.ref a), .val (.ref b)] [])) := g3
  exact ⟨T3, none, _, _, _, X3, by simp, rfl, by omega, (fun _ => rfl), e0, fun fs hl => c4.trans (X3.returnOut hexec hret (hb hbytes d9) hl)⟩
theorem pays {l : Launch} {R : Room} {p : Program} {e : Env} {below : List Frame} {s : State} {sargs : Array Value} {len W : Nat} (a : Addr) (D : Cell) (fV fC : Field) (b : Addr) (A : Cell) (z : Int32) (htab : tab.before sargs s = true) (hfr : 4 ≤ R.frames) (hlo : W + 65 ≤ R.locals) :
    Back l R p e below s sargs yN len W (fun A₁ a₁ => A₁.cells + 1 ≤ R.cells ∧ A₁.slots + A.slots.size ≤ R.slots ∧ P a D fV fC b A z a₁ A₁.U) (fun A₁ _ v₁ B₁ => E a D fV fC A v₁ A₁.U B₁.U ∧ B₁.locs = A₁.locs ++ [⟨a, fC.slot⟩, ⟨a, fV.slot⟩] ∧ B₁.cells = A₁.cells + 1 ∧ B₁.slots = A₁.slots + A.slots.size) :=
  (law l a D fV fC b A z).pays htab hfr (by omega)
end New1
end StrChars
namespace StrChars.Road
open Jvm Sem ClassFile Op Lib Jvm.Stand Jvm.Free Jvm.Free.XT
open Jvm.Lib.Cold (StaticIs)
abbrev ST : String := "java/lang/String"
/-- every table word that New1's law asks, flat -/
abbrev words : List Jvm.Cond := [.code New1.yN New1.yB 2 none, .initialized ST, .methodLink ST 27 New4.yN, .instanceMethod New4.yN,
  .code New4.yN New4.yB 6 none, .fieldLink ST 38 ST "COMPACT_STRINGS" "Z", .laysFinal ST ST "value" "[B", .fieldLink ST 9 ST "value" "[B", .laysFinal ST ST "coder" "B", .fieldLink ST 15 ST "coder" "B",
  .methodLink ST 1 Lib.objectInit, .instanceMethod Lib.objectInit, .code Lib.objectInit ⟨#[0xb1]⟩ 1 none, .methodLink ST 177 Cmp3.yN, .static Cmp3.yN, .methodLink ST 47 CodL.yN, .static CodL.yN,
  .code Cmp3.yN Cmp3.yB 6 (some (.array .byte)), .initialized U16, .arrayClass .byte, .methodLink U16 115 Cmp5.yN, .static Cmp5.yN, .code Cmp5.yN Cmp5.yB 7 (some .int), .code CodL.yN CodL.yB 2 (some .byte)]
theorem tab_of {a : Array Value} {s : State} (h : ∀ w ∈ words, w.before a s = true) : New1.tab.before a s = true := by
  have h5 : Cmp5.tab.before a s = true := unparts (wk h (.code Cmp5.yN Cmp5.yB 7 (some .int))) (wks h (.initialized Cmp5.yN.cls :: Cmp5.site))
  have hc : CodL.tab.before a s = true := unparts (wk h (.code CodL.yN CodL.yB 2 (some .byte))) (wks h (.initialized CodL.yN.cls :: CodL.site))
  have q5 : ∀ w ∈ Cmp5.tab :: words, w.before a s = true := fun w hw => (List.mem_cons.mp hw).elim (fun e => e ▸ h5) (h w)
  have h3 : Cmp3.tab.before a s = true := unparts (wk q5 (.code Cmp3.yN Cmp3.yB 6 (some (.array .byte)))) (wks q5 (.initialized Cmp3.yN.cls :: Cmp3.site))
  have q3 : ∀ w ∈ Cmp3.tab :: CodL.tab :: words, w.before a s = true := fun w hw => (List.mem_cons.mp hw).elim (fun e => e ▸ h3) fun hw => (List.mem_cons.mp hw).elim (fun e => e ▸ hc) (h w)
  have h4 : New4.tab.before a s = true := unparts (wk q3 (.code New4.yN New4.yB 6 none)) (wks q3 (.initialized New4.yN.cls :: New4.site))
  have q4 : ∀ w ∈ New4.tab :: words, w.before a s = true := fun w hw => (List.mem_cons.mp hw).elim (fun e => e ▸ h4) (h w)
  exact unparts (wk q4 (.code New1.yN New1.yB 2 none)) (wks q4 (.initialized New1.yN.cls :: New1.site))
/-- the words ride from the start Z to the walk's own state -/
theorem moved {Z s : State} {a0 args : Array Value} (hZ : Z.Warmed39 s.vm) (hw : ∀ d ∈ words, d.before a0 Z = true) : ∀ d ∈ words, d.before args s = true := fun d hd => by
  have q := hw d hd
  have t : ∀ d ∈ words, d = .arrayClass .byte ∨ (d.onTables && d.keepsFace) = true := by decide +kernel
  rcases t d hd with rfl | t
  · exact RoadKit.mvA hZ q
  · exact RoadKit.mv hZ q t
/-- WHAT COMES BACK, over the tables of the start Z: h the heap at the call, h' behind it -/
def Q (Z : State) (x : Addr) (A : Cell) (h : Heap) (v : Option Value) (h' : Heap) (L : List Loc) : Prop := v = none ∧ (∀ y ∈ L, y.base = x) ∧ RoadKit.Keep h h' [x] ∧ h'.size = h.size + 1 ∧ RoadKit.Exa Z h' x ST ∧ RoadKit.Fld Z h' x ST "value" "[B" (.ref h.size) ∧ RoadKit.Fld Z h' x ST "coder" "B" (.int 0) ∧
  (∃ V : Cell, RoadKit.Arr Z h' h.size V .byte ∧ V.vm = .none ∧ Z.vm.findClass "[B" = some V.cls ∧ V.slots.size = A.slots.size ∧ ∀ j, j < A.slots.size → V.slots[j]? = some (.int (lo8 (cv A j)))) ∧
  ∀ (O n d : String) (w : Value), RoadKit.Fld Z h x O n d w → RoadKit.slotOf Z O n d ≠ RoadKit.slotOf Z ST "value" "[B" → RoadKit.slotOf Z O n d ≠ RoadKit.slotOf Z ST "coder" "B" → RoadKit.Fld Z h' x O n d w
/-- **new String(chars) AT A CALL, IN THE ROAD'S FORM**: for specialBack behind newO: x the fresh String, b the char[] with the cell A -/
theorem back {p : Program} {l : Launch} {e : Env} {R : Room} {s : State} {args : Array Value} {below : List Frame} {len W : Nat} {Z : State} {a0 : Array Value} {h : Heap} (hZ : Z.Warmed39 s.vm) (hw : ∀ d ∈ words, d.before a0 Z = true) {kI : Nat} (wi : (Jvm.Cond.instantiable ST kI).before a0 Z = true)
    {x b : Addr} {A : Cell} {z : Int32} {v0 c0 : Value} (E : RoadKit.Exa Z h x ST) (V : RoadKit.Fld Z h x ST "value" "[B" v0) (C : RoadKit.Fld Z h x ST "coder" "B" c0) (K : RoadKit.Arr Z h b A .char) (hty : Typed .char A) (S : RoadKit.Sta Z h ST "COMPACT_STRINGS" "Z" (.int z)) (hz : ¬ z = 0)
    (l0 : 0 < A.slots.size) (l2 : A.slots.size ≤ 536870912) (hp : ∀ i, i < A.slots.size → ¬ 255 < cv A i) (hfr : 4 ≤ R.frames) (hlo : W + 65 ≤ R.locals) :
    Back l R p e below s args New1.yN len W (fun P a => a = #[.ref x, .ref b] ∧ P.U.heap = h ∧ P.cells + 1 ≤ R.cells ∧ P.slots + A.slots.size ≤ R.slots)
      (fun P _ v B => ∃ L, Q Z x A h v B.U.heap L ∧ B.locs = P.locs ++ L ∧ B.cells = P.cells + 1 ∧ B.slots = P.slots + A.slots.size) := by
  intro m meth c P g ig mk a X hg hsize hdg hW hn hp'
  obtain ⟨rfl, rfl, r1, r2⟩ := hp'
  have al : Z.vm.Alike P.U.vm := hZ.alike.trans X.warmed.alike
  obtain ⟨D, cfV, kV, iV, fV, hD, gV, stV, knV, obV, asV, slV⟩ := id V
  obtain ⟨D', cfC, kC, iC, fC, hD', gC, stC, -, -, asC, slC⟩ := id C
  cases hD.symm.trans hD'
  obtain ⟨D2, kD, e1, e2, e3, e4, e5⟩ := id E
  cases hD.symm.trans e1
  obtain ⟨c2, k2, i1, i2, i3, -⟩ := Cond.instantiable_spec wi
  cases e2.symm.trans i1
  cases e3.symm.trans i2
  obtain ⟨kU, u1, u2⟩ := al.2.2 _ _ e3
  have hB : Blank ST x D P.U := ⟨hD, ⟨knV, fun q hq => by rw [hq] at obV; cases obV⟩, by rw [al.findClass]; exact e2, kU, u1, by rw [u2]; exact i3, by rw [u2]; exact e5 i3⟩
  have F1 : Found ST "value" "[B" fV P.U := ⟨SBG.found_only al ⟨cfV, kV, iV, gV⟩, stV⟩
  have F2 : Found ST "coder" "B" fC P.U := ⟨SBG.found_only al ⟨cfC, kC, iC, gC⟩, stC⟩
  have hA : Ch b A P.U := ⟨⟨K.1, State.isArrayOf_alike al K.2.1, K.2.2, by omega⟩, hty⟩
  have hS : StaticIs P.U ST "COMPACT_STRINGS" "Z" (.int z) := by
    obtain ⟨cfS, iS, kS, fS, st, cS, t1, t2, t3, t4, t5, t6, t7⟩ := S
    exact StaticIs.there (s := { Z with heap := P.U.heap }) ⟨cfS, iS, kS, fS, st, cS, t1, t2, t3, t4, t5, (fun q => by rw [q] at t6; cases t6), t7⟩ al rfl
  obtain ⟨v, B, X', ⟨⟨hv, E', V', q1, q2, q3, q4, q5, q6, q7, q8, q9, q10, q11⟩, hl, hc, hs⟩, st⟩ := New1.pays x D fV fC b A z (tab_of (moved hZ hw)) hfr hlo m meth c P g ig mk _ X hg hsize hdg hW hn ⟨r1, r2, rfl, hB, F1, F2, hA, hS, hz, l0, l2, hp⟩
  have al' : Z.vm.Alike B.U.vm := hZ.alike.trans X'.warmed.alike
  have hsz : E'.slots.size = D.slots.size := by
    obtain ⟨-, -, -, kB, w1, w2, w3⟩ := q1
    obtain ⟨kB', y1, y2⟩ := al'.2.2 _ _ e3
    rw [q2.2.1] at w1
    cases w1.symm.trans y1
    rw [w3, e5 i3, y2]
  refine ⟨v, B, X', ⟨_, ⟨hv, ?_, ⟨by omega, fun y cy hy hn' => q10 y cy (by simpa using hn') hy, fun y cy hy => ?_⟩, q11, ⟨E', _, q1.1, by rw [q2.2.1]; exact e2, by rw [q2.2.1]; exact e3, by rw [q2.1]; exact obV, fun _ => by rw [hsz]; exact e5 i3⟩,
    ⟨E', cfV, kV, iV, fV, q1.1, gV, stV, by rw [q2.1]; exact knV, by rw [q2.1]; exact obV, by rw [q2.2.1]; exact asV, q3⟩, ⟨E', cfC, kC, iC, fC, q1.1, gC, stC, by rw [q2.1]; exact knV, by rw [q2.1]; exact obV, by rw [q2.2.1]; exact asC, q4⟩,
    ⟨V', ⟨q5.1, State.isArrayOf_alike al'.symm q5.2.1, q5.2.2.1⟩, q6, by rw [← al'.findClass]; exact q7, q8, fun j hj => by have := q9 j hj; rwa [Nat.zero_add] at this⟩, fun O n d w F n1 n2 => ?_⟩, hl, hc, hs⟩, st⟩
  · intro y hy
    simp only [List.mem_cons, List.not_mem_nil, or_false] at hy
    rcases hy with rfl | rfl <;> rfl
  · by_cases q : y = x
    · subst q
      cases hD.symm.trans hy
      exact ⟨E', q1.1, q2.2.1, q2.1, hsz⟩
    · exact ⟨cy, q10 y cy q hy, rfl, rfl, rfl⟩
  · obtain ⟨D3, cf, k, i, f, g1, g2, g3, g4, g5, g6, g7⟩ := F
    cases hD.symm.trans g1
    simp only [RoadKit.slotOf, g2, gV, gC, Option.map_some, Option.getD_some] at n1 n2
    exact ⟨E', cf, k, i, f, q1.1, g2, g3, by rw [q2.1]; exact g4, by rw [q2.1]; exact g5, by rw [q2.2.1]; exact g6, by rw [q2.2.2 f.slot (by simp [n1, n2])]; exact g7⟩
end StrChars.Road
namespace StrChars.Road
open Jvm Sem ClassFile Op Lib Jvm.Stand Jvm.Free Jvm.Free.XT
/-- WHAT COMES BACK, the byte[] as a list of values -/
def QA (Z : State) (x : Addr) (zn : Int32) (cs : List Int32) (h : Heap) (v : Option Value) (h' : Heap) (L : List Loc) : Prop := v = none ∧ (∀ y ∈ L, y.base = x) ∧ RoadKit.Keep h h' [x] ∧ h'.size = h.size + 1 ∧ RoadKit.Exa Z h' x ST ∧ RoadKit.Fld Z h' x ST "value" "[B" (.ref h.size) ∧ RoadKit.Fld Z h' x ST "coder" "B" (.int 0) ∧
  (∃ kb, Z.vm.findClass "[B" = some kb ∧ RoadKit.Arv Z h' h.size kb .byte zn (cs.map fun c => .int (lo8 c)) (.int 0)) ∧
  ∀ (O n d : String) (w : Value), RoadKit.Fld Z h x O n d w → RoadKit.slotOf Z O n d ≠ RoadKit.slotOf Z ST "value" "[B" → RoadKit.slotOf Z O n d ≠ RoadKit.slotOf Z ST "coder" "B" → RoadKit.Fld Z h' x O n d w
/-- **new String(chars) AT A CALL, THE ARRAYS AS LISTS**: the char[] at b holds cs, not empty, no char above 255 -/
theorem backArv {p : Program} {l : Launch} {e : Env} {R : Room} {s : State} {args : Array Value} {below : List Frame} {len W : Nat} {Z : State} {a0 : Array Value} {h : Heap} (hZ : Z.Warmed39 s.vm) (hw : ∀ d ∈ words, d.before a0 Z = true) {kI : Nat} (wi : (Jvm.Cond.instantiable ST kI).before a0 Z = true)
    {x b : Addr} {k : ClassId} {zn z : Int32} {cs : List Int32} {dv v0 c0 : Value} (E : RoadKit.Exa Z h x ST) (V : RoadKit.Fld Z h x ST "value" "[B" v0) (C : RoadKit.Fld Z h x ST "coder" "B" c0) (K : RoadKit.Arv Z h b k .char zn (cs.map Value.int) dv) (S : RoadKit.Sta Z h ST "COMPACT_STRINGS" "Z" (.int z)) (hz : ¬ z = 0)
    (hlen : zn.toNatClampNeg = cs.length) (h0 : 0 < cs.length) (hbig : cs.length ≤ 536870912) (hall : ∀ c ∈ cs, ¬ 255 < c) (hfr : 4 ≤ R.frames) (hlo : W + 65 ≤ R.locals) :
    Back l R p e below s args New1.yN len W (fun P a => a = #[.ref x, .ref b] ∧ P.U.heap = h ∧ P.cells + 1 ≤ R.cells ∧ P.slots + cs.length ≤ R.slots)
      (fun P _ v B => ∃ L, QA Z x zn cs h v B.U.heap L ∧ B.locs = P.locs ++ L ∧ B.cells = P.cells + 1 ∧ B.slots = P.slots + cs.length) := by
  obtain ⟨A, K1, K2, K3, K4, K5, K6⟩ := K
  have e : A.slots.size = cs.length := K3.trans hlen
  have hat : ∀ (i : Nat) (hi : i < cs.length), A.slots[i]? = some (.int cs[i]) := fun i hi => by rw [K5 i (by omega)]; simp [List.getD_eq_getElem?_getD, hi]
  have hcv : ∀ (i : Nat) (hi : i < cs.length), cv A i = cs[i] := fun i hi => by unfold cv; rw [hat i hi]
  have hty : Typed .char A := fun i v hv => by
    have hi : i < A.slots.size := (Array.getElem?_eq_some_iff.mp hv).1
    have q := K5 i hi
    rw [hv] at q
    rw [Option.some.inj q]
    exact K6 i hi
  refine Back.mono (back hZ hw wi E V C K1 hty S hz (by omega) (by omega) (fun i hi => by rw [hcv i (by omega)]; exact hall _ (List.getElem_mem _)) hfr hlo) (fun P a hp => ⟨hp.1, hp.2.1, hp.2.2.1, by rw [e]; exact hp.2.2.2⟩) (fun P a v B hp hq => ?_)
  obtain ⟨L, ⟨q1, q2, q3, q4, q5, q6, q7, ⟨V', v1, v2, v3, v4, v5⟩, q9⟩, hl, hc, hs⟩ := hq
  refine ⟨L, ⟨q1, q2, q3, q4, q5, q6, q7, ⟨V'.cls, v3, V', v1, rfl, by rw [v4, e, hlen], K4, fun i hi => ?_, fun i hi => ?_⟩, q9⟩, hl, hc, by rw [hs, e]⟩
  · have hi' : i < cs.length := by omega
    rw [v5 i (by omega), hcv i hi']; simp [List.getD_eq_getElem?_getD, hi']
  · have hi' : i < cs.length := by omega
    simp only [List.getD_eq_getElem?_getD, List.getElem?_map, List.getElem?_eq_getElem hi', Option.map_some, Option.getD_some]
    exact fits_lo8 _
end StrChars.Road
namespace StrChars.Road
open Jvm Sem ClassFile Op Lib Jvm.Stand Jvm.Free Jvm.Free.XT
/-- WHAT COMES BACK, in the writer's own shape -/
def QV (Z : State) (x : Addr) (N : Int32) (bs : List Int32) (h : Heap) (n0 : Nat) (v : Option Value) (h' : Heap) (L : List Loc) : Prop := v = none ∧ RoadKit.Fr n0 L ∧ RoadKit.Keep h h' [x] ∧ RoadKit.Exa Z h' x ST ∧ RoadKit.Fld Z h' x ST "coder" "B" (.int 0) ∧
  ∃ (t : Addr) (kb : ClassId), n0 ≤ t ∧ h.size ≤ t ∧ ¬ t = x ∧ RoadKit.Fld Z h' x ST "value" "[B" (.ref t) ∧ RoadKit.Arv Z h' t kb .byte N (bs.map Value.int) (.int 0)
/-- **new String(chars) AT A CALL, FOR THE WRITER**: a char[] of n known ints, each 0 to 255 -/
theorem backV {p : Program} {l : Launch} {e : Env} {R : Room} {s : State} {args : Array Value} {below : List Frame} {len W : Nat} {Z : State} {a0 : Array Value} {h : Heap} (hZ : Z.Warmed39 s.vm) (hw : ∀ d ∈ words, d.before a0 Z = true) {kI : Nat} (wi : (Jvm.Cond.instantiable ST kI).before a0 Z = true)
    {x b : Addr} {kC : ClassId} {cs bs : List Int32} {d v0 c0 : Value} {z N : Int32} {n n0 : Nat} (hx0 : n0 ≤ x) (hh0 : n0 ≤ h.size) (E : RoadKit.Exa Z h x ST) (V : RoadKit.Fld Z h x ST "value" "[B" v0) (C : RoadKit.Fld Z h x ST "coder" "B" c0) (K : RoadKit.Arv Z h b kC .char N (cs.map Value.int) d) (S : RoadKit.Sta Z h ST "COMPACT_STRINGS" "Z" (.int z)) (hz : ¬ z = 0)
    (hn : cs.length = n) (hN : N = Int32.ofNat n) (l0 : 0 < n) (l2 : n ≤ 4000) (hp : ∀ c ∈ cs, ¬ c < 0 ∧ ¬ (255 : Int32) < c) (hb : bs = cs.map (fun c => c.toInt8.toInt32)) (hfr : 4 ≤ R.frames) (hlo : W + 65 ≤ R.locals) :
    Back l R p e below s args (⟨"java/lang/String", "<init>", "([C)V"⟩ : MethodName) len W (fun P a => a = #[.ref x, .ref b] ∧ P.U.heap = h ∧ P.cells + 1 ≤ R.cells ∧ P.slots + n ≤ R.slots)
      (fun P _ v B => ∃ L, QV Z x N bs h n0 v B.U.heap L ∧ B.locs = P.locs ++ L ∧ B.cells = P.cells + 1 ∧ B.slots = P.slots + n) := by
  subst hn hN hb
  refine Back.mono (backArv hZ hw wi E V C K S hz (n32 (by omega)) l0 (by omega) (fun c hc => (hp c hc).2) hfr hlo) (fun P a hp => hp) (fun P a v B hp hq => ?_)
  obtain ⟨L, ⟨q1, q2, q3, q4, q5, q6, q7, ⟨kb, v1, v2⟩, q9⟩, hl, hc, hs⟩ := hq
  exact ⟨L, ⟨q1, fun y hy => by rw [q2 y hy]; exact hx0, q3, q5, q7, h.size, kb, hh0, Nat.le_refl _, Nat.ne_of_gt E.lt, q6, by rw [List.map_map]; exact v2⟩, hl, hc, hs⟩
end StrChars.Road
end Jvm.Pilot.@@N@@
namespace Jvm.Pilot.@@N@@
open Jvm Jvm.ClassFile Sem Op Lib Jvm.Free Jvm.Stand Jvm.LawKit Jvm.RoadKit Bundle Jvm.Pilot.@@N@@.Jvm.D
theorem own_irem (x y : Int32) : x - (x / y) * y = x % y := by
  apply Int32.toInt_inj.mp
  have h1 := Int32.le_toInt (x % y)
  have h2 := Int32.toInt_lt (x % y)
  rw [Int32.toInt_sub, Int32.toInt_mul, Int32.toInt_div, Int.bmod_mul_bmod, Int.sub_bmod_bmod, Int.mul_comm (x.toInt.tdiv y.toInt), ← Int.tmod_def, ← Int32.toInt_mod]
  exact Int.bmod_eq_of_le_mul_two (by omega) (by omega)
/-- an index, told by its int -/
theorem own_ix {j : Int32} {n : Nat} (h0 : 0 ≤ j.toInt) (h1 : j.toInt < (n : Int)) : ¬ j < 0 ∧ j.toNatClampNeg < n := by
  rw [Int32.lt_iff_toInt_lt]
  have e0 : (0 : Int32).toInt = 0 := rfl
  have e1 : j.toNatClampNeg = j.toInt.toNat := rfl
  rw [e0, e1]; omega
theorem own_d8_0 : decode jdk_30_method_1_code 0 = .ok (.aload_n 0, 1) := by decide +kernel
theorem own_d8_1 : decode jdk_30_method_1_code 1 = .ok (.invokespecial 1, 3) := by decide +kernel
theorem own_d8_4 : decode jdk_30_method_1_code 4 = .ok (.return_, 1) := by decide +kernel
theorem own_pn0 : plainName "java/lang/Record" = true := by first | (simp [plainName, overriddenIn]; done) | decide +kernel
theorem own_ef8 (m : MethodId) (a0 : Addr) : entryFrame m #[(.ref a0)] 1 = mkF m 0 #[.val (.ref a0)] [] := by first | (simp [entryFrame, mkF, argsToLocals, Value.category]; done) | rfl
set_option maxRecDepth 65536 in
set_option maxHeartbeats 40000000 in
theorem own_rm8 (l : Launch) (Z : State) (aA : Array Value) (hw : ∀ d ∈ tables_1, d.before aA Z = true) (ws : List Jvm.Cond) (a0 : Addr)  (h0 : Heap) (n0 : Nat) (Z0 : n0 ≤ h0.size) :
    MetFree l (⟨"java/lang/Record", "<init>", "()V"⟩ : MethodName) (head1 (Jvm.Cond.code (⟨"java/lang/Record", "<init>", "()V"⟩ : MethodName) jdk_30_method_1_code 1 none :: ws) ({ frames := 1, cells := 0, slots := 0, locals := 12 } : Room)) (fun a U => a = #[(.ref a0)] ∧ Z.Warmed39 U.vm ∧ U.heap = h0) (fun _ _ _ _ _ => True) (fun _ U o U' => ∃ v L, o = .returned v ∧ (QN h0 n0) v U'.heap L ∧ FrameEnd U o U' L ({ frames := 1, cells := 0, slots := 0, locals := 12 } : Room).cells ({ frames := 1, cells := 0, slots := 0, locals := 12 } : Room).slots) := by
  refine MetFree.of_bodySF (plainFor_of_name own_pn0) hisR ?_
  intro p e s m args below meth c s₁ Bd hml0 hP hK
  obtain ⟨rfl, hZ, hh⟩ := hP
  have hx := Bd.exec
  have hby := Bd.bytes
  have hml : c.maxLocals = 1 := hml0
  have hown : s.vm.findClass "java/lang/Record" = some m.cls := findClass_of_methodNamed Bd.named
  have hnm := (name_of_methodNamed Bd.named Bd.method).1
  have X0 : Stand p l e ({ frames := 1, cells := 0, slots := 0, locals := 12 } : Room) s m #[(.ref a0)] below meth c s₁ [] 0 0 := Stand.of_body Bd
  have e0 : s₁.heap = h0 := by rw [← hh, Bd.state]; rfl
  have N0 := Fr.nil n0
  refine Owe.step (T := s₁) (T' := s₁) (g' := (mkF m 0 #[.val (.ref a0)] [])) (fun t k => castTop (own_ef8 m a0) k) ?_
  obtain ⟨T1, X1, e1, st1⟩ := initO X0 hx hZ hown (hw _ (List.mem_of_getElem? (i := 41) rfl)) (hw _ (List.mem_of_getElem? (i := 15) rfl)) (hw _ (List.mem_of_getElem? (i := 16) rfl)) e0 (g := (mkF m 1 #[.val (.ref a0)] [(.ref a0)])) rfl (by rw [hml]; rfl) rfl (hb hby own_d8_1) (by decide) (W := 0) (by show 2 * 0 + _ ≤ _; exact Nat.le_of_eq rfl) (by decide)
  refine Owe.step (T' := T1) (g' := (mkF m 4 #[.val (.ref a0)] [])) (fun t k => ?_) ?_
  · show Steps p.tables e below (s₁.setTop (mkF m 0 #[.val (.ref a0)] [])) t
    refine XS.aloadN X0.here hx rfl (hb hby own_d8_0) rfl rfl ?_
    show Steps p.tables e below (s₁.setTop (mkF m 1 #[.val (.ref a0)] [(.ref a0)])) t
    refine st1 _ ?_
    show Steps p.tables e below (T1.setTop (mkF m 4 #[.val (.ref a0)] [])) t
    exact k
  refine Owe.ret X1 Bd.notSynchronized (v := none) (fun _ => rfl) (fun fs hr => ?_) ⟨rfl, N0, e1⟩ (by decide) (by decide)
  show Steps p.tables e below (T1.setTop (mkF m 4 #[.val (.ref a0)] [])) _
  exact X1.returnOut hx Bd.returns (hb hby own_d8_4) hr
theorem own_d9_0 : decode jdk_31_method_11_code 0 = .ok (.aload_n 0, 1) := by decide +kernel
theorem own_d9_1 : decode jdk_31_method_11_code 1 = .ok (.ifnonnull 12, 3) := by decide +kernel
theorem own_d9_13 : decode jdk_31_method_11_code 13 = .ok (.aload_n 0, 1) := by decide +kernel
theorem own_d9_14 : decode jdk_31_method_11_code 14 = .ok (.areturn, 1) := by decide +kernel
theorem own_pn1 : plainName "java/util/Objects" = true := by first | (simp [plainName, overriddenIn]; done) | decide +kernel
theorem own_ef9 (m : MethodId) (a0 : Addr) (a1 : Addr) : entryFrame m #[(.ref a0), (.ref a1)] 2 = mkF m 0 #[.val (.ref a0), .val (.ref a1)] [] := by first | (simp [entryFrame, mkF, argsToLocals, Value.category]; done) | rfl
def own_f9_0 (a0 : Addr) : Addr := a0
set_option maxRecDepth 65536 in
set_option maxHeartbeats 40000000 in
theorem own_rm9 (l : Launch) (Z : State) (aA : Array Value) (hw : ∀ d ∈ tables_1, d.before aA Z = true) (ws : List Jvm.Cond) (a0 : Addr) (a1 : Addr)  (h0 : Heap) (n0 : Nat) (Z0 : n0 ≤ h0.size) :
    MetFree l (⟨"java/util/Objects", "requireNonNull", "(Ljava/lang/Object;Ljava/lang/String;)Ljava/lang/Object;"⟩ : MethodName) (head1 (Jvm.Cond.code (⟨"java/util/Objects", "requireNonNull", "(Ljava/lang/Object;Ljava/lang/String;)Ljava/lang/Object;"⟩ : MethodName) jdk_31_method_11_code 2 (some (.object "java/lang/Object")) :: ws) ({ frames := 0, cells := 0, slots := 0, locals := 0 } : Room)) (fun a U => a = #[(.ref a0), (.ref a1)] ∧ Z.Warmed39 U.vm ∧ U.heap = h0) (fun _ _ _ _ _ => True) (fun _ U o U' => ∃ v L, o = .returned v ∧ (QP (.ref (own_f9_0 a0)) h0 n0) v U'.heap L ∧ FrameEnd U o U' L ({ frames := 0, cells := 0, slots := 0, locals := 0 } : Room).cells ({ frames := 0, cells := 0, slots := 0, locals := 0 } : Room).slots) := by
  refine MetFree.of_bodySF (plainFor_of_name own_pn1) hisR ?_
  intro p e s m args below meth c s₁ Bd hml0 hP hK
  obtain ⟨rfl, hZ, hh⟩ := hP
  have hx := Bd.exec
  have hby := Bd.bytes
  have hml : c.maxLocals = 2 := hml0
  have hown : s.vm.findClass "java/util/Objects" = some m.cls := findClass_of_methodNamed Bd.named
  have hnm := (name_of_methodNamed Bd.named Bd.method).1
  have X0 : Stand p l e ({ frames := 0, cells := 0, slots := 0, locals := 0 } : Room) s m #[(.ref a0), (.ref a1)] below meth c s₁ [] 0 0 := Stand.of_body Bd
  have e0 : s₁.heap = h0 := by rw [← hh, Bd.state]; rfl
  have N0 := Fr.nil n0
  refine Owe.step (T := s₁) (T' := s₁) (g' := (mkF m 0 #[.val (.ref a0), .val (.ref a1)] [])) (fun t k => castTop (own_ef9 m a0 a1) k) ?_
  rw [show own_f9_0 a0 = a0 from rfl]
  refine Owe.ret X0 Bd.notSynchronized (v := (some (.ref a0))) (fun h => by rw [Bd.returns] at h; cases h) (fun fs hr => ?_) ⟨rfl, N0, e0⟩ (by decide) (by decide)
  show Steps p.tables e below (s₁.setTop (mkF m 0 #[.val (.ref a0), .val (.ref a1)] [])) _
  refine XS.aloadN X0.here hx rfl (hb hby own_d9_0) rfl rfl ?_
  show Steps p.tables e below (s₁.setTop (mkF m 1 #[.val (.ref a0), .val (.ref a1)] [(.ref a0)])) _
  refine XS.ifnonnullYes X0.here hx rfl (pc0 := 1) (pc' := 13) rfl (hb hby own_d9_1) rfl (by decide) (by decide) ?_
  show Steps p.tables e below (s₁.setTop (mkF m 13 #[.val (.ref a0), .val (.ref a1)] [])) _
  refine XS.aloadN X0.here hx rfl (hb hby own_d9_13) rfl rfl ?_
  show Steps p.tables e below (s₁.setTop (mkF m 14 #[.val (.ref a0), .val (.ref a1)] [(.ref a0)])) _
  exact retA X0 hx Bd.returns rfl rfl (hb hby own_d9_14) hr
theorem own_d7_0 : decode prog_55_method_1_code 0 = .ok (.aload_n 0, 1) := by decide +kernel
theorem own_d7_1 : decode prog_55_method_1_code 1 = .ok (.invokespecial 1, 3) := by decide +kernel
theorem own_d7_4 : decode prog_55_method_1_code 4 = .ok (.aload_n 1, 1) := by decide +kernel
theorem own_d7_5 : decode prog_55_method_1_code 5 = .ok (.ldc 7, 2) := by decide +kernel
theorem own_d7_7 : decode prog_55_method_1_code 7 = .ok (.invokestatic 9, 3) := by decide +kernel
theorem own_d7_10 : decode prog_55_method_1_code 10 = .ok (.pop, 1) := by decide +kernel
theorem own_d7_11 : decode prog_55_method_1_code 11 = .ok (.aload_n 0, 1) := by decide +kernel
theorem own_d7_12 : decode prog_55_method_1_code 12 = .ok (.aload_n 1, 1) := by decide +kernel
theorem own_d7_13 : decode prog_55_method_1_code 13 = .ok (.putfield 15, 3) := by decide +kernel
theorem own_d7_16 : decode prog_55_method_1_code 16 = .ok (.aload_n 0, 1) := by decide +kernel
theorem own_d7_17 : decode prog_55_method_1_code 17 = .ok (.iload_n 2, 1) := by decide +kernel
theorem own_d7_18 : decode prog_55_method_1_code 18 = .ok (.putfield 20, 3) := by decide +kernel
theorem own_d7_21 : decode prog_55_method_1_code 21 = .ok (.return_, 1) := by decide +kernel
theorem own_pd0 : parseMethodDescriptor "()V" = some ⟨[], none⟩ := by decide +kernel
theorem own_pd1 : parseMethodDescriptor "(Ljava/lang/Object;Ljava/lang/String;)Ljava/lang/Object;" = some ⟨[(.object "java/lang/Object"), (.object "java/lang/String")], some (.object "java/lang/Object")⟩ := by decide +kernel
theorem own_pn2 : plainName "com/example/privlint/privlint/model/DeclaredPermission" = true := by first | (simp [plainName, overriddenIn]; done) | decide +kernel
theorem own_ef7 (m : MethodId) (a0 : Addr) (a1 : Addr) (p2 : Int32) : entryFrame m #[(.ref a0), (.ref a1), (.int p2)] 3 = mkF m 0 #[.val (.ref a0), .val (.ref a1), .val (.int p2)] [] := by first | (simp [entryFrame, mkF, argsToLocals, Value.category]; done) | rfl
def own_Q7 (Z : State) (a0 : Addr) (a1 : Addr) (p2 : Int32) (h0 : Heap) (n0 : Nat) (v : Option Value) (h : Heap) (L : List Loc) : Prop := v = none ∧ Fr n0 L ∧ Keep h0 h [a0] ∧ Exa Z h a0 "com/example/privlint/privlint/model/DeclaredPermission" ∧ Fld Z h a0 "com/example/privlint/privlint/model/DeclaredPermission" "name" "Ljava/lang/String;" (.ref a1) ∧ Fld Z h a0 "com/example/privlint/privlint/model/DeclaredPermission" "protectionLevel" "I" (.int p2)
set_option maxRecDepth 65536 in
set_option maxHeartbeats 40000000 in
theorem own_rm7 (l : Launch) (Z : State) (aA : Array Value) (hw : ∀ d ∈ tables_1, d.before aA Z = true) (ws : List Jvm.Cond) (a0 : Addr) (a1 : Addr) (p2 : Int32)  (h0 : Heap) (n0 : Nat) (Z0 : n0 ≤ h0.size) (E_a0 : Exa Z h0 a0 "com/example/privlint/privlint/model/DeclaredPermission") (F_n : Fld Z h0 a0 "com/example/privlint/privlint/model/DeclaredPermission" "name" "Ljava/lang/String;" .null) (F_p : Fld Z h0 a0 "com/example/privlint/privlint/model/DeclaredPermission" "protectionLevel" "I" (.int (0 : Int32))) (g_a0 : n0 ≤ a0) :
    MetFree l (⟨"com/example/privlint/privlint/model/DeclaredPermission", "<init>", "(Ljava/lang/String;I)V"⟩ : MethodName) (head1 (Jvm.Cond.code (⟨"com/example/privlint/privlint/model/DeclaredPermission", "<init>", "(Ljava/lang/String;I)V"⟩ : MethodName) prog_55_method_1_code 3 none :: ws) ({ frames := 2, cells := 2, slots := 20, locals := 24 } : Room)) (fun a U => a = #[(.ref a0), (.ref a1), (.int p2)] ∧ Z.Warmed39 U.vm ∧ U.heap = h0) (fun _ _ _ _ _ => True) (fun _ U o U' => ∃ v L, o = .returned v ∧ (own_Q7 Z a0 a1 p2 h0 n0) v U'.heap L ∧ ReturnedEndW U o U' L ({ frames := 2, cells := 2, slots := 20, locals := 24 } : Room).cells ({ frames := 2, cells := 2, slots := 20, locals := 24 } : Room).slots) := by
  refine MetFree.of_bodySF (plainFor_of_name own_pn2) hisR ?_
  intro p e s m args below meth c s₁ Bd hml0 hP hK
  obtain ⟨rfl, hZ, hh⟩ := hP
  have hx := Bd.exec
  have hby := Bd.bytes
  have hml : c.maxLocals = 3 := hml0
  have hown : s.vm.findClass "com/example/privlint/privlint/model/DeclaredPermission" = some m.cls := findClass_of_methodNamed Bd.named
  have hnm := (name_of_methodNamed Bd.named Bd.method).1
  have X0 : Stand p l e ({ frames := 2, cells := 2, slots := 20, locals := 24 } : Room) s m #[(.ref a0), (.ref a1), (.int p2)] below meth c s₁ [] 0 0 := Stand.of_body Bd
  have e0 : s₁.heap = h0 := by rw [← hh, Bd.state]; rfl
  have N0 := Fr.nil n0
  refine OweW.step (T := s₁) (T' := s₁) (g' := (mkF m 0 #[.val (.ref a0), .val (.ref a1), .val (.int p2)] [])) (fun t k => castTop (own_ef7 m a0 a1 p2) k) ?_
  obtain ⟨_, _, ⟨T1, L1, k1, n1⟩, -, X1, ⟨Lc1, hQ1, l1, y1, z1⟩, st1⟩ := X0.specialBack hx (y := (⟨"java/lang/Record", "<init>", "()V"⟩ : MethodName)) rfl hown (mvT hZ (hw _ (List.mem_of_getElem? (i := 36) rfl))) (mvT hZ (hw _ (List.mem_of_getElem? (i := 37) rfl))) (mvT hZ (hw _ (List.mem_of_getElem? (i := 40) rfl))) (by decide) (backOf (W := 0) (own_rm8 l Z aA hw [] a0 h0 n0 Z0 ) hZ (hw _ (List.mem_of_getElem? (i := 40) rfl)) (hw _ (List.mem_of_getElem? (i := 39) rfl)) (by decide) (by decide)) (g := (mkF m 1 #[.val (.ref a0), .val (.ref a1), .val (.int p2)] [(.ref a0)])) rfl (by rw [hml]; rfl) (Steps.refl _) (a := a0) (argsL := []) (rest := []) (lenOf own_pd0 rfl) rfl (by show 2 * 0 + _ ≤ _; exact Nat.le_of_eq rfl) (hb hby own_d7_1) (fun _ _ => ⟨rfl, e0, (by decide : 0 + 0 ≤ _), (by decide : 0 + 0 ≤ _)⟩)
  dsimp only [Pt.U, Pt.locs, Pt.cells, Pt.slots] at X1 l1 y1 z1 st1 hQ1
  subst y1 z1
  obtain ⟨rfl, N1q, e1⟩ := hQ1
  have N1 : Fr n0 L1 := by rw [l1]; exact Fr.app N0 N1q
  have wS2 : ∀ d ∈ Bundle.stringAtoms, d.before aA Z = true := fun d hd => by
    simp only [Bundle.stringAtoms, List.mem_cons, List.not_mem_nil, or_false] at hd
    rcases hd with rfl | rfl | rfl | rfl | rfl | rfl | rfl
    · exact (hw _ (List.mem_of_getElem? (i := 6) rfl))
    · exact (hw _ (List.mem_of_getElem? (i := 5) rfl))
    · exact (hw _ (List.mem_of_getElem? (i := 22) rfl))
    · exact (hw _ (List.mem_of_getElem? (i := 32) rfl))
    · exact (hw _ (List.mem_of_getElem? (i := 30) rfl))
    · exact (hw _ (List.mem_of_getElem? (i := 43) rfl))
    · exact (hw _ (List.mem_of_getElem? (i := 44) rfl))
  obtain ⟨a2, T2, h2, k2, X2, e2, E2, S2, kh2, hZ, hown, st2⟩ := ldcS (s := s) (vm0 := s.vm) X1 hx hZ hown (hw _ (List.mem_of_getElem? (i := 42) rfl)) wS2 e1 (k0 := 0) (since0 s) (Nat.zero_le _) (g := (mkF m 5 #[.val (.ref a0), .val (.ref a1), .val (.int p2)] [(.ref a1)])) rfl (hb hby own_d7_5) (n := 16) (by decide) (by decide) (by decide) (by decide)
  have E_a0_x2 := E_a0.ext E2
  have F_n_x2 := F_n.ext E2
  have F_p_x2 := F_p.ext E2
  have K2 := (Keep.refl h0 [a0]).ext E2
  have Zn2 : n0 ≤ h2.size := Nat.le_trans Z0 E2.1
  obtain ⟨_, _, ⟨T3, L3, k3, n3⟩, -, X3, ⟨Lc3, hQ3, l3, y3, z3⟩, st3⟩ := Jvm.LawKit.callS X2 hx (y := (⟨"java/util/Objects", "requireNonNull", "(Ljava/lang/Object;Ljava/lang/String;)Ljava/lang/Object;"⟩ : MethodName)) hown (mvT hZ (hw _ (List.mem_of_getElem? (i := 45) rfl))) (mvT hZ (hw _ (List.mem_of_getElem? (i := 46) rfl))) (mvT hZ (hw _ (List.mem_of_getElem? (i := 47) rfl))) (mvT hZ (hw _ (List.mem_of_getElem? (i := 48) rfl))) (by decide) (backOf (W := 0) (own_rm9 l Z aA hw [] a1 a2 h2 n0 Zn2 ) hZ (hw _ (List.mem_of_getElem? (i := 48) rfl)) (hw _ (List.mem_of_getElem? (i := 47) rfl)) (by decide) (by decide)) (g := (mkF m 7 #[.val (.ref a0), .val (.ref a1), .val (.int p2)] [(.ref a2), (.ref a1)])) rfl (by rw [hml]; rfl) (argsL := [(.ref a1), (.ref a2)]) (rest := []) (lenOf own_pd1 rfl) rfl (by show 2 * 0 + _ ≤ _; exact Nat.le_of_eq rfl) (hb hby own_d7_7) (fun _ _ => ⟨rfl, e2, (by decide : 2 + 0 ≤ _), (by decide : 20 + 0 ≤ _)⟩)
  dsimp only [Pt.U, Pt.locs, Pt.cells, Pt.slots] at X3 l3 y3 z3 st3 hQ3
  subst y3 z3
  obtain ⟨rfl, N3q, e3⟩ := hQ3
  have N3 : Fr n0 L3 := by rw [l3]; exact Fr.app N1 N3q
  obtain ⟨T4, h4, X4, e4, W4, st4⟩ := putF X3 hx hZ hown (host := "") (Or.inl (hw _ (List.mem_of_getElem? (i := 49) rfl))) Via.refl e3 F_n_x2 E_a0_x2 (Or.inr ⟨(hw _ (List.mem_of_getElem? (i := 50) rfl)), rfl, hnm⟩) (hw _ (List.mem_of_getElem? (i := 2) rfl)) (ty := (.object "java/lang/String")) (by decide) rfl rfl (g := (mkF m 13 #[.val (.ref a0), .val (.ref a1), .val (.int p2)] [(.ref a1), (.ref a0)])) rfl rfl (hb hby own_d7_13)
  have Fn4 := F_n_x2.same W4
  have E_a0_w4 := E_a0_x2.wr W4
  have F_p_w4 := F_p_x2.other W4 (Or.inr (slot_ne (Or.inr (hw _ (List.mem_of_getElem? (i := 52) rfl))) (Or.inr (hw _ (List.mem_of_getElem? (i := 50) rfl))) (by decide) (t := .int) (t' := (.object "java/lang/String")) (by decide) (by decide)))
  have K4 := K2.wr W4 (Or.inl (List.mem_of_getElem? (i := 0) rfl))
  have N4 := Fr.snoc X4 N3 g_a0
  have Zn4 : n0 ≤ h4.size := Nat.le_trans Zn2 (Keep.of_wr W4).1
  have kh4 : k2 ≤ h4.size := Nat.le_trans kh2 (Keep.of_wr W4).1
  obtain ⟨T5, h5, X5, e5, W5, st5⟩ := putF X4 hx hZ hown (host := "") (Or.inl (hw _ (List.mem_of_getElem? (i := 51) rfl))) Via.refl e4 F_p_w4 E_a0_w4 (Or.inr ⟨(hw _ (List.mem_of_getElem? (i := 52) rfl)), rfl, hnm⟩) (hw _ (List.mem_of_getElem? (i := 2) rfl)) (ty := .int) (by decide) rfl rfl (g := (mkF m 18 #[.val (.ref a0), .val (.ref a1), .val (.int p2)] [(.int p2), (.ref a0)])) rfl rfl (hb hby own_d7_18)
  have Fn5 := F_p_w4.same W5
  have E_a0_w5 := E_a0_w4.wr W5
  have Fn4_w5 := Fn4.other W5 (Or.inr (slot_ne (Or.inr (hw _ (List.mem_of_getElem? (i := 50) rfl))) (Or.inr (hw _ (List.mem_of_getElem? (i := 52) rfl))) (by decide) (t := (.object "java/lang/String")) (t' := .int) (by decide) (by decide)))
  have K5 := K4.wr W5 (Or.inl (List.mem_of_getElem? (i := 0) rfl))
  have N5 := Fr.snoc X5 N4 g_a0
  have Zn5 : n0 ≤ h5.size := Nat.le_trans Zn4 (Keep.of_wr W5).1
  have kh5 : k2 ≤ h5.size := Nat.le_trans kh4 (Keep.of_wr W5).1
  refine OweW.step (T' := T5) (g' := (mkF m 21 #[.val (.ref a0), .val (.ref a1), .val (.int p2)] [])) (fun t k => ?_) ?_
  · show Steps p.tables e below (s₁.setTop (mkF m 0 #[.val (.ref a0), .val (.ref a1), .val (.int p2)] [])) t
    refine XS.aloadN X0.here hx rfl (hb hby own_d7_0) rfl rfl ?_
    show Steps p.tables e below (s₁.setTop (mkF m 1 #[.val (.ref a0), .val (.ref a1), .val (.int p2)] [(.ref a0)])) t
    refine st1.trans ?_
    show Steps p.tables e below (T1.setTop (mkF m 4 #[.val (.ref a0), .val (.ref a1), .val (.int p2)] [])) t
    refine XS.aloadN X1.here hx rfl (hb hby own_d7_4) rfl rfl ?_
    show Steps p.tables e below (T1.setTop (mkF m 5 #[.val (.ref a0), .val (.ref a1), .val (.int p2)] [(.ref a1)])) t
    refine st2 _ ?_
    show Steps p.tables e below (T2.setTop (mkF m 7 #[.val (.ref a0), .val (.ref a1), .val (.int p2)] [(.ref a2), (.ref a1)])) t
    refine st3 _ ?_
    show Steps p.tables e below (T3.setTop (mkF m 10 #[.val (.ref a0), .val (.ref a1), .val (.int p2)] [(.ref (own_f9_0 a1))])) t
    refine XS.pop X3.here hx rfl (hb hby own_d7_10) rfl rfl ?_
    show Steps p.tables e below (T3.setTop (mkF m 11 #[.val (.ref a0), .val (.ref a1), .val (.int p2)] [])) t
    refine XS.aloadN X3.here hx rfl (hb hby own_d7_11) rfl rfl ?_
    show Steps p.tables e below (T3.setTop (mkF m 12 #[.val (.ref a0), .val (.ref a1), .val (.int p2)] [(.ref a0)])) t
    refine XS.aloadN X3.here hx rfl (hb hby own_d7_12) rfl rfl ?_
    show Steps p.tables e below (T3.setTop (mkF m 13 #[.val (.ref a0), .val (.ref a1), .val (.int p2)] [(.ref a1), (.ref a0)])) t
    refine st4 _ ?_
    show Steps p.tables e below (T4.setTop (mkF m 16 #[.val (.ref a0), .val (.ref a1), .val (.int p2)] [])) t
    refine XS.aloadN X4.here hx rfl (hb hby own_d7_16) rfl rfl ?_
    show Steps p.tables e below (T4.setTop (mkF m 17 #[.val (.ref a0), .val (.ref a1), .val (.int p2)] [(.ref a0)])) t
    refine XS.iloadN X4.here hx rfl (hb hby own_d7_17) rfl ?_
    show Steps p.tables e below (T4.setTop (mkF m 18 #[.val (.ref a0), .val (.ref a1), .val (.int p2)] [(.int p2), (.ref a0)])) t
    refine st5 _ ?_
    show Steps p.tables e below (T5.setTop (mkF m 21 #[.val (.ref a0), .val (.ref a1), .val (.int p2)] [])) t
    exact k
  refine OweW.ret X5 S2 (by rw [e5]; exact kh5) Bd.notSynchronized (v := none) (fun _ => rfl) (fun fs hr => ?_) (by rw [e5]; exact ⟨rfl, N5, K5, E_a0_w5, Fn4_w5, Fn5⟩) (by decide) (by decide)
  show Steps p.tables e below (T5.setTop (mkF m 21 #[.val (.ref a0), .val (.ref a1), .val (.int p2)] [])) _
  exact X5.returnOut hx Bd.returns (hb hby own_d7_21) hr
theorem own_d10_0 : decode prog_55_method_2_code 0 = .ok (.aload_n 0, 1) := by decide +kernel
theorem own_d10_1 : decode prog_55_method_2_code 1 = .ok (.getfield 20, 3) := by decide +kernel
theorem own_d10_4 : decode prog_55_method_2_code 4 = .ok (.bipush 15, 2) := by decide +kernel
theorem own_d10_6 : decode prog_55_method_2_code 6 = .ok (.iand, 1) := by decide +kernel
theorem own_d10_7 : decode prog_55_method_2_code 7 = .ok (.iconst 2, 1) := by decide +kernel
theorem own_d10_8 : decode prog_55_method_2_code 8 = .ok (.if_icmp .ne 7, 3) := by decide +kernel
theorem own_d10_11 : decode prog_55_method_2_code 11 = .ok (.iconst 1, 1) := by decide +kernel
theorem own_d10_12 : decode prog_55_method_2_code 12 = .ok (.goto 4, 3) := by decide +kernel
theorem own_d10_15 : decode prog_55_method_2_code 15 = .ok (.iconst 0, 1) := by decide +kernel
theorem own_d10_16 : decode prog_55_method_2_code 16 = .ok (.istore_n 1, 1) := by decide +kernel
theorem own_d10_17 : decode prog_55_method_2_code 17 = .ok (.iload_n 1, 1) := by decide +kernel
theorem own_d10_18 : decode prog_55_method_2_code 18 = .ok (.ifCond .eq 13, 3) := by decide +kernel
theorem own_d10_21 : decode prog_55_method_2_code 21 = .ok (.aload_n 0, 1) := by decide +kernel
theorem own_d10_22 : decode prog_55_method_2_code 22 = .ok (.getfield 20, 3) := by decide +kernel
theorem own_d10_25 : decode prog_55_method_2_code 25 = .ok (.bipush 16, 2) := by decide +kernel
theorem own_d10_27 : decode prog_55_method_2_code 27 = .ok (.iand, 1) := by decide +kernel
theorem own_d10_28 : decode prog_55_method_2_code 28 = .ok (.ifCond .ne 11, 3) := by decide +kernel
theorem own_d10_31 : decode prog_55_method_2_code 31 = .ok (.aload_n 0, 1) := by decide +kernel
theorem own_d10_32 : decode prog_55_method_2_code 32 = .ok (.getfield 20, 3) := by decide +kernel
theorem own_d10_35 : decode prog_55_method_2_code 35 = .ok (.iconst 3, 1) := by decide +kernel
theorem own_d10_36 : decode prog_55_method_2_code 36 = .ok (.if_icmp .ne 7, 3) := by decide +kernel
theorem own_d10_39 : decode prog_55_method_2_code 39 = .ok (.iconst 1, 1) := by decide +kernel
theorem own_d10_40 : decode prog_55_method_2_code 40 = .ok (.goto 4, 3) := by decide +kernel
theorem own_d10_43 : decode prog_55_method_2_code 43 = .ok (.iconst 0, 1) := by decide +kernel
theorem own_d10_44 : decode prog_55_method_2_code 44 = .ok (.ireturn, 1) := by decide +kernel
theorem own_ef10 (m : MethodId) (a0 : Addr) : entryFrame m #[(.ref a0)] 2 = mkF m 0 #[.val (.ref a0), .unset] [] := by first | (simp [entryFrame, mkF, argsToLocals, Value.category]; done) | rfl
def own_f10_31 (w1 : Int32) : Int32 := (if w1 = (3 : Int32) then (1 : Int32) else (0 : Int32))
def own_f10_16 (w1 : Int32) (t16_0 : Int32) : Int32 := (if t16_0 = (0 : Int32) then (own_f10_31 w1) else (if (w1 &&& (16 : Int32)) = (0 : Int32) then (own_f10_31 w1) else (1 : Int32)))
def own_f10_0 (w1 : Int32) : Int32 := (if (w1 &&& (15 : Int32)) = (2 : Int32) then (own_f10_16 w1 (1 : Int32)) else (own_f10_16 w1 (0 : Int32)))
set_option maxRecDepth 65536 in
set_option maxHeartbeats 40000000 in
theorem own_rm10 (l : Launch) (Z : State) (aA : Array Value) (hw : ∀ d ∈ tables_1, d.before aA Z = true) (ws : List Jvm.Cond) (a0 : Addr) (w1 : Int32) (h0 : Heap) (n0 : Nat) (Z0 : n0 ≤ h0.size) (F1 : Fld Z h0 a0 "com/example/privlint/privlint/model/DeclaredPermission" "protectionLevel" "I" (.int w1)) :
    MetFree l (⟨"com/example/privlint/privlint/model/DeclaredPermission", "isPrivileged", "()Z"⟩ : MethodName) (head1 (Jvm.Cond.code (⟨"com/example/privlint/privlint/model/DeclaredPermission", "isPrivileged", "()Z"⟩ : MethodName) prog_55_method_2_code 2 (some .boolean) :: ws) ({ frames := 0, cells := 0, slots := 0, locals := 0 } : Room)) (fun a U => a = #[(.ref a0)] ∧ Z.Warmed39 U.vm ∧ U.heap = h0) (fun _ _ _ _ _ => True) (fun _ U o U' => ∃ v L, o = .returned v ∧ (QP (.int (own_f10_0 w1)) h0 n0) v U'.heap L ∧ FrameEnd U o U' L ({ frames := 0, cells := 0, slots := 0, locals := 0 } : Room).cells ({ frames := 0, cells := 0, slots := 0, locals := 0 } : Room).slots) := by
  refine MetFree.of_bodySF (plainFor_of_name own_pn2) hisR ?_
  intro p e s m args below meth c s₁ Bd hml0 hP hK
  obtain ⟨rfl, hZ, hh⟩ := hP
  have hx := Bd.exec
  have hby := Bd.bytes
  have hml : c.maxLocals = 2 := hml0
  have hown : s.vm.findClass "com/example/privlint/privlint/model/DeclaredPermission" = some m.cls := findClass_of_methodNamed Bd.named
  have hnm := (name_of_methodNamed Bd.named Bd.method).1
  have X0 : Stand p l e ({ frames := 0, cells := 0, slots := 0, locals := 0 } : Room) s m #[(.ref a0)] below meth c s₁ [] 0 0 := Stand.of_body Bd
  have e0 : s₁.heap = h0 := by rw [← hh, Bd.state]; rfl
  have N0 := Fr.nil n0
  refine Owe.step (T := s₁) (T' := s₁) (g' := (mkF m 0 #[.val (.ref a0), .unset] [])) (fun t k => castTop (own_ef10 m a0) k) ?_
  obtain ⟨T1, X1, e1, st1⟩ := getF X0 hx hZ hown (host := "") (Or.inl (hw _ (List.mem_of_getElem? (i := 51) rfl))) Via.refl e0 F1 (g := (mkF m 1 #[.val (.ref a0), .unset] [(.ref a0)])) rfl rfl (hb hby own_d10_1)
  refine Owe.step (T' := T1) (g' := (mkF m 8 #[.val (.ref a0), .unset] [(.int (2 : Int32)), (.int (w1 &&& (15 : Int32)))])) (fun t k => ?_) ?_
  · show Steps p.tables e below (s₁.setTop (mkF m 0 #[.val (.ref a0), .unset] [])) t
    refine XS.aloadN X0.here hx rfl (hb hby own_d10_0) rfl rfl ?_
    show Steps p.tables e below (s₁.setTop (mkF m 1 #[.val (.ref a0), .unset] [(.ref a0)])) t
    refine st1 _ ?_
    show Steps p.tables e below (T1.setTop (mkF m 4 #[.val (.ref a0), .unset] [(.int w1)])) t
    refine XS.bipush X1.here hx rfl (hb hby own_d10_4) ?_
    show Steps p.tables e below (T1.setTop (mkF m 6 #[.val (.ref a0), .unset] [(.int (15 : Int32)), (.int w1)])) t
    refine XS.iand X1.here hx rfl (hb hby own_d10_6) rfl ?_
    show Steps p.tables e below (T1.setTop (mkF m 7 #[.val (.ref a0), .unset] [(.int (w1 &&& (15 : Int32)))])) t
    refine XS.iconst X1.here hx rfl (hb hby own_d10_7) ?_
    show Steps p.tables e below (T1.setTop (mkF m 8 #[.val (.ref a0), .unset] [(.int (2 : Int32)), (.int (w1 &&& (15 : Int32)))])) t
    exact k
  have j16 : ∀ (T : State) (Lc : List Loc) (X : Stand p l e ({ frames := 0, cells := 0, slots := 0, locals := 0 } : Room) s m #[(.ref a0)] below meth c T Lc 0 0) (t16_0 : Int32) (eT : T.heap = h0) (N : Fr n0 Lc), Owe p e below s ({ frames := 0, cells := 0, slots := 0, locals := 0 } : Room).cells ({ frames := 0, cells := 0, slots := 0, locals := 0 } : Room).slots (QP (.int (own_f10_16 w1 t16_0)) h0 n0) T (mkF m 16 #[.val (.ref a0), .unset] [(.int t16_0)]) := by
    intro T16j Lc16j X16j t16_0 e16j N16j
    refine Owe.step (T' := T16j) (g' := (mkF m 18 #[.val (.ref a0), .val (.int t16_0)] [(.int t16_0)])) (fun t k => ?_) ?_
    · show Steps p.tables e below (T16j.setTop (mkF m 16 #[.val (.ref a0), .unset] [(.int t16_0)])) t
      refine XS.istoreN X16j.here hx rfl (hb hby own_d10_16) rfl (l' := #[.val (.ref a0), .val (.int t16_0)]) rfl ?_
      show Steps p.tables e below (T16j.setTop (mkF m 17 #[.val (.ref a0), .val (.int t16_0)] [])) t
      refine XS.iloadN X16j.here hx rfl (hb hby own_d10_17) rfl ?_
      show Steps p.tables e below (T16j.setTop (mkF m 18 #[.val (.ref a0), .val (.int t16_0)] [(.int t16_0)])) t
      exact k
    have j31 : ∀ (T : State) (Lc : List Loc) (X : Stand p l e ({ frames := 0, cells := 0, slots := 0, locals := 0 } : Room) s m #[(.ref a0)] below meth c T Lc 0 0) (eT : T.heap = h0) (N : Fr n0 Lc), Owe p e below s ({ frames := 0, cells := 0, slots := 0, locals := 0 } : Room).cells ({ frames := 0, cells := 0, slots := 0, locals := 0 } : Room).slots (QP (.int (own_f10_31 w1)) h0 n0) T (mkF m 31 #[.val (.ref a0), .val (.int t16_0)] []) := by
      intro T31j Lc31j X31j e31j N31j
      obtain ⟨T2, X2, e2, st2⟩ := getF X31j hx hZ hown (host := "") (Or.inl (hw _ (List.mem_of_getElem? (i := 51) rfl))) Via.refl e31j F1 (g := (mkF m 32 #[.val (.ref a0), .val (.int t16_0)] [(.ref a0)])) rfl rfl (hb hby own_d10_32)
      refine Owe.step (T' := T2) (g' := (mkF m 36 #[.val (.ref a0), .val (.int t16_0)] [(.int (3 : Int32)), (.int w1)])) (fun t k => ?_) ?_
      · show Steps p.tables e below (T31j.setTop (mkF m 31 #[.val (.ref a0), .val (.int t16_0)] [])) t
        refine XS.aloadN X31j.here hx rfl (hb hby own_d10_31) rfl rfl ?_
        show Steps p.tables e below (T31j.setTop (mkF m 32 #[.val (.ref a0), .val (.int t16_0)] [(.ref a0)])) t
        refine st2 _ ?_
        show Steps p.tables e below (T2.setTop (mkF m 35 #[.val (.ref a0), .val (.int t16_0)] [(.int w1)])) t
        refine XS.iconst X2.here hx rfl (hb hby own_d10_35) ?_
        show Steps p.tables e below (T2.setTop (mkF m 36 #[.val (.ref a0), .val (.int t16_0)] [(.int (3 : Int32)), (.int w1)])) t
        exact k
      by_cases hc36 : w1 = (3 : Int32)
      · refine Owe.step (T' := T2) (g' := (mkF m 39 #[.val (.ref a0), .val (.int t16_0)] [])) (fun t k => ?_) ?_
        · show Steps p.tables e below (T2.setTop (mkF m 36 #[.val (.ref a0), .val (.int t16_0)] [(.int (3 : Int32)), (.int w1)])) t
          refine XS.icmpNo X2.here hx rfl (hb hby own_d10_36) rfl (teq hc36).2 ?_
          show Steps p.tables e below (T2.setTop (mkF m 39 #[.val (.ref a0), .val (.int t16_0)] [])) t
          exact k
        rw [show own_f10_31 w1 = (1 : Int32) from (by rw [own_f10_31, if_pos hc36])]
        refine Owe.ret X2 Bd.notSynchronized (v := (some (.int (1 : Int32)))) (fun h => by rw [Bd.returns] at h; cases h) (fun fs hr => ?_) ⟨rfl, N31j, e2⟩ (by decide) (by decide)
        show Steps p.tables e below (T2.setTop (mkF m 39 #[.val (.ref a0), .val (.int t16_0)] [])) _
        refine XS.iconst X2.here hx rfl (hb hby own_d10_39) ?_
        show Steps p.tables e below (T2.setTop (mkF m 40 #[.val (.ref a0), .val (.int t16_0)] [(.int (1 : Int32))])) _
        refine XS.goto X2.here hx rfl (pc0 := 40) (pc' := 44) rfl (hb hby own_d10_40) (by decide) (by decide) ?_
        show Steps p.tables e below (T2.setTop (mkF m 44 #[.val (.ref a0), .val (.int t16_0)] [(.int (1 : Int32))])) _
        exact retN X2 hx (t := .boolean) Bd.returns (by simp) (hb hby own_d10_44) hr
      · refine Owe.step (T' := T2) (g' := (mkF m 43 #[.val (.ref a0), .val (.int t16_0)] [])) (fun t k => ?_) ?_
        · show Steps p.tables e below (T2.setTop (mkF m 36 #[.val (.ref a0), .val (.int t16_0)] [(.int (3 : Int32)), (.int w1)])) t
          refine XS.icmpYes X2.here hx rfl (pc0 := 36) (pc' := 43) rfl (hb hby own_d10_36) rfl (feq hc36).2 (by decide) (by decide) ?_
          show Steps p.tables e below (T2.setTop (mkF m 43 #[.val (.ref a0), .val (.int t16_0)] [])) t
          exact k
        rw [show own_f10_31 w1 = (0 : Int32) from (by rw [own_f10_31, if_neg hc36])]
        refine Owe.ret X2 Bd.notSynchronized (v := (some (.int (0 : Int32)))) (fun h => by rw [Bd.returns] at h; cases h) (fun fs hr => ?_) ⟨rfl, N31j, e2⟩ (by decide) (by decide)
        show Steps p.tables e below (T2.setTop (mkF m 43 #[.val (.ref a0), .val (.int t16_0)] [])) _
        refine XS.iconst X2.here hx rfl (hb hby own_d10_43) ?_
        show Steps p.tables e below (T2.setTop (mkF m 44 #[.val (.ref a0), .val (.int t16_0)] [(.int (0 : Int32))])) _
        exact retN X2 hx (t := .boolean) Bd.returns (by simp) (hb hby own_d10_44) hr
    by_cases hc18 : t16_0 = (0 : Int32)
    · refine Owe.step (T' := T16j) (g' := (mkF m 31 #[.val (.ref a0), .val (.int t16_0)] [])) (fun t k => ?_) ?_
      · show Steps p.tables e below (T16j.setTop (mkF m 18 #[.val (.ref a0), .val (.int t16_0)] [(.int t16_0)])) t
        refine XS.ifYes X16j.here hx rfl (pc0 := 18) (pc' := 31) rfl (hb hby own_d10_18) rfl ((if0 _ _).trans (teq hc18).1) (by decide) (by decide) ?_
        show Steps p.tables e below (T16j.setTop (mkF m 31 #[.val (.ref a0), .val (.int t16_0)] [])) t
        exact k
      rw [show own_f10_16 w1 t16_0 = (own_f10_31 w1) from (by rw [own_f10_16, if_pos hc18])]
      exact j31 T16j _ X16j e16j N16j
    · refine Owe.step (T' := T16j) (g' := (mkF m 21 #[.val (.ref a0), .val (.int t16_0)] [])) (fun t k => ?_) ?_
      · show Steps p.tables e below (T16j.setTop (mkF m 18 #[.val (.ref a0), .val (.int t16_0)] [(.int t16_0)])) t
        refine XS.ifNo X16j.here hx rfl (hb hby own_d10_18) rfl ((if0 _ _).trans (feq hc18).1) ?_
        show Steps p.tables e below (T16j.setTop (mkF m 21 #[.val (.ref a0), .val (.int t16_0)] [])) t
        exact k
      obtain ⟨T3, X3, e3, st3⟩ := getF X16j hx hZ hown (host := "") (Or.inl (hw _ (List.mem_of_getElem? (i := 51) rfl))) Via.refl e16j F1 (g := (mkF m 22 #[.val (.ref a0), .val (.int t16_0)] [(.ref a0)])) rfl rfl (hb hby own_d10_22)
      refine Owe.step (T' := T3) (g' := (mkF m 28 #[.val (.ref a0), .val (.int t16_0)] [(.int (w1 &&& (16 : Int32)))])) (fun t k => ?_) ?_
      · show Steps p.tables e below (T16j.setTop (mkF m 21 #[.val (.ref a0), .val (.int t16_0)] [])) t
        refine XS.aloadN X16j.here hx rfl (hb hby own_d10_21) rfl rfl ?_
        show Steps p.tables e below (T16j.setTop (mkF m 22 #[.val (.ref a0), .val (.int t16_0)] [(.ref a0)])) t
        refine st3 _ ?_
        show Steps p.tables e below (T3.setTop (mkF m 25 #[.val (.ref a0), .val (.int t16_0)] [(.int w1)])) t
        refine XS.bipush X3.here hx rfl (hb hby own_d10_25) ?_
        show Steps p.tables e below (T3.setTop (mkF m 27 #[.val (.ref a0), .val (.int t16_0)] [(.int (16 : Int32)), (.int w1)])) t
        refine XS.iand X3.here hx rfl (hb hby own_d10_27) rfl ?_
        show Steps p.tables e below (T3.setTop (mkF m 28 #[.val (.ref a0), .val (.int t16_0)] [(.int (w1 &&& (16 : Int32)))])) t
        exact k
      by_cases hc28 : (w1 &&& (16 : Int32)) = (0 : Int32)
      · refine Owe.step (T' := T3) (g' := (mkF m 31 #[.val (.ref a0), .val (.int t16_0)] [])) (fun t k => ?_) ?_
        · show Steps p.tables e below (T3.setTop (mkF m 28 #[.val (.ref a0), .val (.int t16_0)] [(.int (w1 &&& (16 : Int32)))])) t
          refine XS.ifNo X3.here hx rfl (hb hby own_d10_28) rfl ((if0 _ _).trans (teq hc28).2) ?_
          show Steps p.tables e below (T3.setTop (mkF m 31 #[.val (.ref a0), .val (.int t16_0)] [])) t
          exact k
        rw [show own_f10_16 w1 t16_0 = (own_f10_31 w1) from (by rw [own_f10_16, if_neg hc18, if_pos hc28])]
        exact j31 T3 _ X3 e3 N16j
      · refine Owe.step (T' := T3) (g' := (mkF m 39 #[.val (.ref a0), .val (.int t16_0)] [])) (fun t k => ?_) ?_
        · show Steps p.tables e below (T3.setTop (mkF m 28 #[.val (.ref a0), .val (.int t16_0)] [(.int (w1 &&& (16 : Int32)))])) t
          refine XS.ifYes X3.here hx rfl (pc0 := 28) (pc' := 39) rfl (hb hby own_d10_28) rfl ((if0 _ _).trans (feq hc28).2) (by decide) (by decide) ?_
          show Steps p.tables e below (T3.setTop (mkF m 39 #[.val (.ref a0), .val (.int t16_0)] [])) t
          exact k
        rw [show own_f10_16 w1 t16_0 = (1 : Int32) from (by rw [own_f10_16, if_neg hc18, if_neg hc28])]
        refine Owe.ret X3 Bd.notSynchronized (v := (some (.int (1 : Int32)))) (fun h => by rw [Bd.returns] at h; cases h) (fun fs hr => ?_) ⟨rfl, N16j, e3⟩ (by decide) (by decide)
        show Steps p.tables e below (T3.setTop (mkF m 39 #[.val (.ref a0), .val (.int t16_0)] [])) _
        refine XS.iconst X3.here hx rfl (hb hby own_d10_39) ?_
        show Steps p.tables e below (T3.setTop (mkF m 40 #[.val (.ref a0), .val (.int t16_0)] [(.int (1 : Int32))])) _
        refine XS.goto X3.here hx rfl (pc0 := 40) (pc' := 44) rfl (hb hby own_d10_40) (by decide) (by decide) ?_
        show Steps p.tables e below (T3.setTop (mkF m 44 #[.val (.ref a0), .val (.int t16_0)] [(.int (1 : Int32))])) _
        exact retN X3 hx (t := .boolean) Bd.returns (by simp) (hb hby own_d10_44) hr
  by_cases hc8 : (w1 &&& (15 : Int32)) = (2 : Int32)
  · refine Owe.step (T' := T1) (g' := (mkF m 11 #[.val (.ref a0), .unset] [])) (fun t k => ?_) ?_
    · show Steps p.tables e below (T1.setTop (mkF m 8 #[.val (.ref a0), .unset] [(.int (2 : Int32)), (.int (w1 &&& (15 : Int32)))])) t
      refine XS.icmpNo X1.here hx rfl (hb hby own_d10_8) rfl (teq hc8).2 ?_
      show Steps p.tables e below (T1.setTop (mkF m 11 #[.val (.ref a0), .unset] [])) t
      exact k
    refine Owe.step (T' := T1) (g' := (mkF m 16 #[.val (.ref a0), .unset] [(.int (1 : Int32))])) (fun t k => ?_) ?_
    · show Steps p.tables e below (T1.setTop (mkF m 11 #[.val (.ref a0), .unset] [])) t
      refine XS.iconst X1.here hx rfl (hb hby own_d10_11) ?_
      show Steps p.tables e below (T1.setTop (mkF m 12 #[.val (.ref a0), .unset] [(.int (1 : Int32))])) t
      refine XS.goto X1.here hx rfl (pc0 := 12) (pc' := 16) rfl (hb hby own_d10_12) (by decide) (by decide) ?_
      show Steps p.tables e below (T1.setTop (mkF m 16 #[.val (.ref a0), .unset] [(.int (1 : Int32))])) t
      exact k
    rw [show own_f10_0 w1 = (own_f10_16 w1 (1 : Int32)) from (by rw [own_f10_0, if_pos hc8])]
    exact j16 T1 _ X1 (1 : Int32) e1 N0
  · refine Owe.step (T' := T1) (g' := (mkF m 15 #[.val (.ref a0), .unset] [])) (fun t k => ?_) ?_
    · show Steps p.tables e below (T1.setTop (mkF m 8 #[.val (.ref a0), .unset] [(.int (2 : Int32)), (.int (w1 &&& (15 : Int32)))])) t
      refine XS.icmpYes X1.here hx rfl (pc0 := 8) (pc' := 15) rfl (hb hby own_d10_8) rfl (feq hc8).2 (by decide) (by decide) ?_
      show Steps p.tables e below (T1.setTop (mkF m 15 #[.val (.ref a0), .unset] [])) t
      exact k
    refine Owe.step (T' := T1) (g' := (mkF m 16 #[.val (.ref a0), .unset] [(.int (0 : Int32))])) (fun t k => ?_) ?_
    · show Steps p.tables e below (T1.setTop (mkF m 15 #[.val (.ref a0), .unset] [])) t
      refine XS.iconst X1.here hx rfl (hb hby own_d10_15) ?_
      show Steps p.tables e below (T1.setTop (mkF m 16 #[.val (.ref a0), .unset] [(.int (0 : Int32))])) t
      exact k
    rw [show own_f10_0 w1 = (own_f10_16 w1 (0 : Int32)) from (by rw [own_f10_0, if_neg hc8])]
    exact j16 T1 _ X1 (0 : Int32) e1 N0
theorem own_pd2 : parseMethodDescriptor "([C)V" = some ⟨[(.array .char)], none⟩ := by decide +kernel
theorem own_pd3 : parseMethodDescriptor "(Ljava/lang/String;I)V" = some ⟨[(.object "java/lang/String"), .int], none⟩ := by decide +kernel
theorem own_pd4 : parseMethodDescriptor "()Z" = some ⟨[], some .boolean⟩ := by decide +kernel
theorem own_pn3 : plainName "com/example/privlint/privlint/model/DeclaredPermissionIsPrivilegedPinLaw" = true := by first | (simp [plainName, overriddenIn]; done) | decide +kernel
theorem own_ef0 (m : MethodId) (p0 : Int32) (p1 : Int32) (p2 : Int32) (p3 : Int32) : entryFrame m #[(.int p0), (.int p1), (.int p2), (.int p3)] maxLocals = mkF m 0 #[.val (.int p0), .val (.int p1), .val (.int p2), .val (.int p3), .unset, .unset, .unset, .unset, .unset, .unset, .unset] [] := by first | (simp [entryFrame, mkF, argsToLocals, Value.category, maxLocals]; done) | rfl
def own_f0_113 (p0 : Int32) (p1 : Int32) (p2 : Int32) (v113_10 : Int32) : Int32 := (if (own_f10_0 (((p0 <<< ((5 : Int32) &&& 31)) ||| ((p1 &&& (1 : Int32)) <<< ((4 : Int32) &&& 31))) ||| (p2 &&& (15 : Int32)))) = v113_10 then (1 : Int32) else (0 : Int32))
def own_f0_79 (p0 : Int32) (p1 : Int32) (p2 : Int32) (t79_0 : Int32) : Int32 := (own_f0_113 p0 p1 p2 t79_0)
def own_f0_105 (p0 : Int32) (p1 : Int32) (p2 : Int32) (t105_0 : Int32) : Int32 := (own_f0_113 p0 p1 p2 t105_0)
def own_f0_104 (p0 : Int32) (p1 : Int32) (p2 : Int32) : Int32 := (own_f0_105 p0 p1 p2 (0 : Int32))
def own_f0_0 (p0 : Int32) (p1 : Int32) (p2 : Int32) : Int32 := (if (p2 &&& (15 : Int32)) = (2 : Int32) then (if (p1 &&& (1 : Int32)) = (1 : Int32) then (own_f0_79 p0 p1 p2 (1 : Int32)) else (own_f0_79 p0 p1 p2 (0 : Int32))) else (if (p2 &&& (15 : Int32)) = (3 : Int32) then (if (p1 &&& (1 : Int32)) = (0 : Int32) then (if (p0 <<< ((5 : Int32) &&& 31)) = (0 : Int32) then (own_f0_105 p0 p1 p2 (1 : Int32)) else (own_f0_104 p0 p1 p2)) else (own_f0_104 p0 p1 p2)) else (own_f0_113 p0 p1 p2 (0 : Int32))))
theorem own_lat (c0 : Int32) : ∀ c ∈ [(nar .char ((c0 &&& (255 : Int32)).toUInt32.toUInt16.toUInt32.toInt32))], ¬ c < 0 ∧ ¬ (255 : Int32) < c := by
  intro c hc
  obtain rfl := List.mem_singleton.mp hc
  rw [show nar .char ((c0 &&& (255 : Int32)).toUInt32.toUInt16.toUInt32.toInt32) = c0 &&& 255 from by simp only [nar, i2c_mask]]
  have h := c_mask c0 255 8 (by decide) (by decide)
  have e0 : (0 : Int32).toInt = 0 := rfl
  have e1 : (255 : Int32).toInt = 255 := by decide
  rw [Int32.lt_iff_toInt_lt, Int32.lt_iff_toInt_lt, e0, e1]
  omega
theorem own_m16 : ∀ i : Fin 32, (16#32).getLsbD i.val = decide (i.val = 4) := by decide
theorem own_m15 : ∀ i : Fin 32, (15#32).getLsbD i.val = decide (i.val < 4) := by decide
theorem own_m1 : ∀ i : Fin 32, (1#32).getLsbD i.val = decide (i.val = 0) := by decide
theorem own_b4 (U G B : BitVec 32) : (((U <<< 5) ||| ((G &&& 1#32) <<< 4)) ||| (B &&& 15#32)) &&& 16#32 = (G &&& 1#32) <<< 4 := by
  apply BitVec.eq_of_getLsbD_eq
  intro i hi
  rw [BitVec.getLsbD_and, own_m16 ⟨i, hi⟩, BitVec.getLsbD_or, BitVec.getLsbD_or, BitVec.getLsbD_and (x := B), own_m15 ⟨i, hi⟩, BitVec.getLsbD_shiftLeft, BitVec.getLsbD_shiftLeft, BitVec.getLsbD_and (x := G), own_m1 ⟨i - 4, by omega⟩]
  by_cases h : i = 4
  · subst h; simp
  · by_cases g : i < 4
    · simp [h, g]
    · have k : ¬ i - 4 = 0 := by omega
      simp [h, k]
theorem own_s5 (x : Int32) : (x <<< ((5 : Int32) &&& 31)).toBitVec = x.toBitVec <<< 5 := rfl
theorem own_s4 (x : Int32) : (x <<< ((4 : Int32) &&& 31)).toBitVec = x.toBitVec <<< 4 := rfl
def own_lv (p0 p1 p2 : Int32) : Int32 := (((p0 <<< ((5 : Int32) &&& 31)) ||| ((p1 &&& (1 : Int32)) <<< ((4 : Int32) &&& 31))) ||| (p2 &&& (15 : Int32)))
theorem own_l16 (p0 p1 p2 : Int32) : own_lv p0 p1 p2 &&& (16 : Int32) = (p1 &&& (1 : Int32)) <<< ((4 : Int32) &&& 31) := by
  unfold own_lv
  rw [← Int32.toBitVec_inj]
  simp only [Int32.toBitVec_and, Int32.toBitVec_or, own_s5, own_s4]
  exact own_b4 p0.toBitVec p1.toBitVec p2.toBitVec
theorem own_f01 (x : Int32) : x &&& (1 : Int32) = 0 ∨ x &&& (1 : Int32) = 1 := by
  have h := c_mask x 1 1 (by decide) (by decide)
  simp only [← Int32.toInt_inj, Int32.reduceToInt]
  omega
theorem own_sum (p0 p1 p2 : Int32) : (own_lv p0 p1 p2).toInt = (p0 <<< ((5 : Int32) &&& 31)).toInt + ((p1 &&& (1 : Int32)) <<< ((4 : Int32) &&& 31)).toInt + (p2 &&& (15 : Int32)).toInt ∧ (p0 <<< ((5 : Int32) &&& 31)).toInt % 32 = 0 ∧ 0 ≤ (p2 &&& (15 : Int32)).toInt ∧ (p2 &&& (15 : Int32)).toInt < 16 ∧ (((p1 &&& (1 : Int32)) <<< ((4 : Int32) &&& 31)).toInt = 0 ∨ ((p1 &&& (1 : Int32)) <<< ((4 : Int32) &&& 31)).toInt = 16) := by
  have hu := c_ishl p0 5 5 (by decide)
  have hb := c_mask p2 15 4 (by decide) (by decide)
  have hf : ((p1 &&& (1 : Int32)) <<< ((4 : Int32) &&& 31)).toInt = 0 ∨ ((p1 &&& (1 : Int32)) <<< ((4 : Int32) &&& 31)).toInt = 16 := by
    rcases own_f01 p1 with h | h <;> rw [h] <;> decide
  have ru := rng32 (p0 <<< ((5 : Int32) &&& 31))
  generalize hU : p0 <<< ((5 : Int32) &&& 31) = U at *
  generalize hF : (p1 &&& (1 : Int32)) <<< ((4 : Int32) &&& 31) = F at *
  generalize hB : p2 &&& (15 : Int32) = B at *
  have u32 : U.toInt % 32 = 0 := by omega
  have o1 := c_or U F 5 (by decide) 32 (by decide) u32 (by omega) (by omega)
  have r1 := rng32 (U ||| F)
  have o2 := c_or (U ||| F) B 4 (by decide) 16 (by decide) (by omega) (by omega) (by omega)
  have r2 := rng32 ((U ||| F) ||| B)
  unfold own_lv
  rw [hU, hF, hB]
  refine ⟨by omega, u32, by omega, by omega, hf⟩
theorem own_l15 (p0 p1 p2 : Int32) : own_lv p0 p1 p2 &&& (15 : Int32) = p2 &&& (15 : Int32) := by
  obtain ⟨h1, h2, h3, h4, h5⟩ := own_sum p0 p1 p2
  have h := c_mask (own_lv p0 p1 p2) 15 4 (by decide) (by decide)
  rw [← Int32.toInt_inj]
  omega
theorem own_pr (p0 p1 p2 : Int32) : own_f10_0 (own_lv p0 p1 p2) = if p2 &&& (15 : Int32) = 2 then (if p1 &&& (1 : Int32) = 1 then 1 else 0) else if p2 &&& (15 : Int32) = 3 ∧ p1 &&& (1 : Int32) = 0 ∧ p0 <<< ((5 : Int32) &&& 31) = 0 then 1 else 0 := by
  have z1 : ¬ ((1 : Int32) = 0) := by decide
  have z2 : ¬ ((0 : Int32) = 1) := by decide
  have e3 : own_lv p0 p1 p2 = 3 ↔ p2 &&& (15 : Int32) = 3 ∧ p1 &&& (1 : Int32) = 0 ∧ p0 <<< ((5 : Int32) &&& 31) = 0 := by
    obtain ⟨h1, h2, h3, h4, h5⟩ := own_sum p0 p1 p2
    have f0 : p1 &&& (1 : Int32) = 0 ↔ ((p1 &&& (1 : Int32)) <<< ((4 : Int32) &&& 31)).toInt = 0 := by
      rcases own_f01 p1 with h | h <;> rw [h] <;> decide
    rw [f0, ← Int32.toInt_inj, ← Int32.toInt_inj, ← Int32.toInt_inj (x := p0 <<< ((5 : Int32) &&& 31)), show (3 : Int32).toInt = 3 from rfl, show (0 : Int32).toInt = 0 from rfl]
    omega
  have e31 : own_f10_31 (own_lv p0 p1 p2) = if p2 &&& (15 : Int32) = 3 ∧ p1 &&& (1 : Int32) = 0 ∧ p0 <<< ((5 : Int32) &&& 31) = 0 then 1 else 0 := by
    unfold own_f10_31
    simp only [e3]
  unfold own_f10_0 own_f10_16
  rw [own_l15, own_l16, e31]
  by_cases a : p2 &&& (15 : Int32) = 2
  · rw [if_pos a, if_pos a, if_neg z1]
    have n3 : ¬ (p2 &&& (15 : Int32) = 3 ∧ p1 &&& (1 : Int32) = 0 ∧ p0 <<< ((5 : Int32) &&& 31) = 0) := fun q => absurd (a.symm.trans q.1) (by decide)
    rw [if_neg n3]
    rcases own_f01 p1 with h | h
    · rw [h, if_pos (by decide), if_neg z2]
    · rw [h, if_neg (by decide), if_pos rfl]
  · rw [if_neg a, if_neg a, if_pos rfl]
theorem own_law (p0 p1 p2 p3 : Int32) : own_f0_0 p0 p1 p2 = 1 := by
  have z2 : ¬ ((0 : Int32) = 1) := by decide
  have h := own_pr p0 p1 p2
  have k : ∀ t, (t = own_f10_0 (own_lv p0 p1 p2)) → own_f0_113 p0 p1 p2 t = 1 := fun t ht => by
    unfold own_f0_113
    rw [ht]
    exact if_pos rfl
  unfold own_f0_0 own_f0_79 own_f0_104 own_f0_105
  by_cases a : p2 &&& (15 : Int32) = 2
  · rw [if_pos a]
    rw [if_pos a] at h
    by_cases b : p1 &&& (1 : Int32) = 1
    · rw [if_pos b]; exact k _ (by rw [h, if_pos b])
    · rw [if_neg b]; exact k _ (by rw [h, if_neg b])
  · rw [if_neg a]
    rw [if_neg a] at h
    by_cases b : p2 &&& (15 : Int32) = 3
    · rw [if_pos b]
      by_cases c : p1 &&& (1 : Int32) = 0
      · rw [if_pos c]
        by_cases d : p0 <<< ((5 : Int32) &&& 31) = 0
        · rw [if_pos d]; exact k _ (by rw [h, if_pos ⟨b, c, d⟩])
        · rw [if_neg d]; exact k _ (by rw [h, if_neg (fun q => d q.2.2)])
      · rw [if_neg c]; exact k _ (by rw [h, if_neg (fun q => c q.2.1)])
    · rw [if_neg b]; exact k _ (by rw [h, if_neg (fun q => b q.1)])
set_option maxRecDepth 65536 in
set_option maxHeartbeats 40000000 in
theorem own_rm0 (l : Launch) (Z : State) (aA : Array Value) (hw : ∀ d ∈ tables_1, d.before aA Z = true) (ws : List Jvm.Cond) (p0 : Int32) (p1 : Int32) (p2 : Int32) (p3 : Int32) (G1 : Int32) (h0 : Heap) (n0 : Nat) (Z0 : n0 ≤ h0.size) (O2 : Sta Z Z.heap "java/lang/String" "COMPACT_STRINGS" "Z" (.int G1)) (P3 : ¬ G1 = (0 : Int32)) (X00 : Old Z n0 h0) :
    MetFree l x (head1 (Jvm.Cond.code x code maxLocals ret :: ws) room_1) (fun a U => a = #[(.int p0), (.int p1), (.int p2), (.int p3)] ∧ Z.Warmed39 U.vm ∧ U.heap = h0) (fun _ _ _ _ _ => True) (fun _ U o U' => ∃ v L, o = .returned v ∧ (QL (.int ((1 : Int32))) n0) v U'.heap L ∧ ReturnedEndW U o U' L 24 1152) := by
  refine MetFree.of_bodySF (plainFor_of_name own_pn3) hisR ?_
  intro p e s m args below meth c s₁ Bd hml0 hP hK
  obtain ⟨rfl, hZ, hh⟩ := hP
  have hx := Bd.exec
  have hby := Bd.bytes
  have hml : c.maxLocals = 11 := hml0
  have hown : s.vm.findClass "com/example/privlint/privlint/model/DeclaredPermissionIsPrivilegedPinLaw" = some m.cls := findClass_of_methodNamed Bd.named
  have hnm := (name_of_methodNamed Bd.named Bd.method).1
  have X0 : Stand p l e room_1 s m #[(.int p0), (.int p1), (.int p2), (.int p3)] below meth c s₁ [] 0 0 := Stand.of_body Bd
  have e0 : s₁.heap = h0 := by rw [← hh, Bd.state]; rfl
  have N0 := Fr.nil n0
  refine OweW.step (T := s₁) (T' := s₁) (g' := (mkF m 0 #[.val (.int p0), .val (.int p1), .val (.int p2), .val (.int p3), .unset, .unset, .unset, .unset, .unset, .unset, .unset] [])) (fun t k => castTop (own_ef0 m p0 p1 p2 p3) k) ?_
  obtain ⟨T1, h1, k1, X1, e1, E1, A1, st1⟩ := newP X0 hx hZ (hw _ (List.mem_of_getElem? (i := 0) rfl)) e0 (g := (mkF m 29 #[.val (.int p0), .val (.int p1), .val (.int p2), .val (.int p3), .val (.int (p1 &&& (1 : Int32))), .val (.int (p2 &&& (15 : Int32))), .val (.int (p0 <<< ((5 : Int32) &&& 31))), .val (.int (((p0 <<< ((5 : Int32) &&& 31)) ||| ((p1 &&& (1 : Int32)) <<< ((4 : Int32) &&& 31))) ||| (p2 &&& (15 : Int32)))), .unset, .unset, .unset] [(.int (1 : Int32))])) rfl (hb hby at_29) rfl (by decide) (cap := 1) (by decide) (by decide) (by decide) (by decide)
  obtain ⟨b1, g1⟩ : ∃ z, z = h0.size := ⟨_, rfl⟩
  rw [← g1] at A1 st1
  have g_b1 : n0 ≤ b1 := Nat.le_trans Z0 (Nat.le_of_eq g1.symm)
  have Zn1 : n0 ≤ h1.size := Nat.le_trans Z0 E1.1
  have Xo1 := X00.ext E1
  have V1 : AI Z h1 b1 .char 1 (fun _ => (0 : Int32)) := AV.new A1 (by decide)
  obtain ⟨T2, h2, X2, e2, W2, V2, st2⟩ := stAC X1 hx hZ e1 V1 (j := (0 : Int32)) (by decide) (by decide) (g := (mkF m 39 #[.val (.int p0), .val (.int p1), .val (.int p2), .val (.int p3), .val (.int (p1 &&& (1 : Int32))), .val (.int (p2 &&& (15 : Int32))), .val (.int (p0 <<< ((5 : Int32) &&& 31))), .val (.int (((p0 <<< ((5 : Int32) &&& 31)) ||| ((p1 &&& (1 : Int32)) <<< ((4 : Int32) &&& 31))) ||| (p2 &&& (15 : Int32)))), .unset, .unset, .unset] [(.int ((p3 &&& (255 : Int32)).toUInt32.toUInt16.toUInt32.toInt32)), (.int (0 : Int32)), (.ref b1), (.ref b1)])) rfl rfl (hb hby at_39)
  have N2 := Fr.snoc X2 N0 g_b1
  have Zn2 : n0 ≤ h2.size := Nat.le_trans Zn1 (Keep.of_wr W2).1
  have Xo2 := Xo1.wr W2 g_b1
  obtain ⟨T3, h3, X3, e3, E3, A3, D3, -, st3⟩ := newO X2 hx hZ hown (hw _ (List.mem_of_getElem? (i := 1) rfl)) (hw _ (List.mem_of_getElem? (i := 2) rfl)) (hw _ (List.mem_of_getElem? (i := 3) rfl)) e2 (g := (mkF m 42 #[.val (.int p0), .val (.int p1), .val (.int p2), .val (.int p3), .val (.int (p1 &&& (1 : Int32))), .val (.int (p2 &&& (15 : Int32))), .val (.int (p0 <<< ((5 : Int32) &&& 31))), .val (.int (((p0 <<< ((5 : Int32) &&& 31)) ||| ((p1 &&& (1 : Int32)) <<< ((4 : Int32) &&& 31))) ||| (p2 &&& (15 : Int32)))), .val (.ref b1), .unset, .unset] [])) rfl (hb hby at_42) (by decide) (by decide)
  obtain ⟨b3, g3⟩ : ∃ z, z = h2.size := ⟨_, rfl⟩
  rw [← g3] at A3 D3 st3
  have ne_b1_b3 : b1 ≠ b3 := Nat.ne_of_lt (Nat.lt_of_lt_of_le V2.lt (Nat.le_of_eq g3.symm))
  have g_b3 : n0 ≤ b3 := Nat.le_trans Zn2 (Nat.le_of_eq g3.symm)
  have V2_x3 := V2.ext E3
  have Zn3 : n0 ≤ h3.size := Nat.le_trans Zn2 E3.1
  have Xo3 := Xo2.ext E3
  have D3_50 : Fld Z h3 b3 "com/example/privlint/privlint/model/DeclaredPermission" "name" "Ljava/lang/String;" .null := D3 (Or.inr (hw _ (List.mem_of_getElem? (i := 50) rfl))) (ty := (.object "java/lang/String")) (by decide)
  have D3_52 : Fld Z h3 b3 "com/example/privlint/privlint/model/DeclaredPermission" "protectionLevel" "I" (.int (0 : Int32)) := D3 (Or.inr (hw _ (List.mem_of_getElem? (i := 52) rfl))) (ty := .int) (by decide)
  obtain ⟨T4, h4, X4, e4, E4, A4, D4, -, st4⟩ := newO X3 hx hZ hown (hw _ (List.mem_of_getElem? (i := 4) rfl)) (hw _ (List.mem_of_getElem? (i := 5) rfl)) (hw _ (List.mem_of_getElem? (i := 6) rfl)) e3 (g := (mkF m 46 #[.val (.int p0), .val (.int p1), .val (.int p2), .val (.int p3), .val (.int (p1 &&& (1 : Int32))), .val (.int (p2 &&& (15 : Int32))), .val (.int (p0 <<< ((5 : Int32) &&& 31))), .val (.int (((p0 <<< ((5 : Int32) &&& 31)) ||| ((p1 &&& (1 : Int32)) <<< ((4 : Int32) &&& 31))) ||| (p2 &&& (15 : Int32)))), .val (.ref b1), .unset, .unset] [(.ref b3), (.ref b3)])) rfl (hb hby at_46) (by decide) (by decide)
  obtain ⟨b4, g4⟩ : ∃ z, z = h3.size := ⟨_, rfl⟩
  rw [← g4] at A4 D4 st4
  have ne_b1_b4 : b1 ≠ b4 := Nat.ne_of_lt (Nat.lt_of_lt_of_le V2_x3.lt (Nat.le_of_eq g4.symm))
  have ne_b3_b4 : b3 ≠ b4 := Nat.ne_of_lt (Nat.lt_of_lt_of_le A3.lt (Nat.le_of_eq g4.symm))
  have g_b4 : n0 ≤ b4 := Nat.le_trans Zn3 (Nat.le_of_eq g4.symm)
  have V2_x4 := V2_x3.ext E4
  have A3_x4 := A3.ext E4
  have D3_50_x4 := D3_50.ext E4
  have D3_52_x4 := D3_52.ext E4
  have Zn4 : n0 ≤ h4.size := Nat.le_trans Zn3 E4.1
  have Xo4 := Xo3.ext E4
  have D4_30 : Fld Z h4 b4 "java/lang/String" "coder" "B" (.int (0 : Int32)) := D4 (Or.inr (hw _ (List.mem_of_getElem? (i := 30) rfl))) (ty := .byte) (by decide)
  have D4_32 : Fld Z h4 b4 "java/lang/String" "value" "[B" .null := D4 (Or.inr (hw _ (List.mem_of_getElem? (i := 32) rfl))) (ty := (.array .byte)) (by decide)
  have hws5 : ∀ d ∈ StrChars.Road.words, d.before aA Z = true := fun d hd => hw d ((by decide +kernel : ∀ d ∈ StrChars.Road.words, d ∈ tables_1) d hd)
  obtain ⟨kc5, Kc5⟩ := arv1 (c := (nar .char ((p3 &&& (255 : Int32)).toUInt32.toUInt16.toUInt32.toInt32))) V2_x4 (own_upd_same _ _ _) (fits_nar_char _)
  have hlat5 : ∀ c ∈ [(nar .char ((p3 &&& (255 : Int32)).toUInt32.toUInt16.toUInt32.toInt32))], ¬ c < 0 ∧ ¬ (255 : Int32) < c := own_lat p3
  obtain ⟨_, _, ⟨T5, L5, k5, n5⟩, -, X5, ⟨Lc5, hQ5, l5, y5, z5⟩, st5⟩ := X4.specialBack hx (y := (⟨"java/lang/String", "<init>", "([C)V"⟩ : MethodName)) rfl hown (mvT hZ (hw _ (List.mem_of_getElem? (i := 7) rfl))) (mvT hZ (hw _ (List.mem_of_getElem? (i := 8) rfl))) (mvT hZ (hw _ (List.mem_of_getElem? (i := 9) rfl))) (by decide) (StrChars.Road.backV (W := 3) hZ hws5 (kI := 4) (hw _ (List.mem_of_getElem? (i := 5) rfl)) (cs := [(nar .char ((p3 &&& (255 : Int32)).toUInt32.toUInt16.toUInt32.toInt32))]) (bs := [((nar .char ((p3 &&& (255 : Int32)).toUInt32.toUInt16.toUInt32.toInt32))).toInt8.toInt32]) (n := 1) g_b4 Zn4 A4 D4_32 D4_30 Kc5 (O2.ext Xo4.2) P3 rfl rfl (by decide) (by decide) hlat5 rfl (by decide) (by decide)) (g := (mkF m 52 #[.val (.int p0), .val (.int p1), .val (.int p2), .val (.int p3), .val (.int (p1 &&& (1 : Int32))), .val (.int (p2 &&& (15 : Int32))), .val (.int (p0 <<< ((5 : Int32) &&& 31))), .val (.int (((p0 <<< ((5 : Int32) &&& 31)) ||| ((p1 &&& (1 : Int32)) <<< ((4 : Int32) &&& 31))) ||| (p2 &&& (15 : Int32)))), .val (.ref b1), .unset, .unset] [(.ref b1), (.ref b4), (.ref b4), (.ref b3), (.ref b3)])) rfl (by rw [hml]; rfl) (Steps.refl _) (a := b4) (argsL := [(.ref b1)]) (rest := [(.ref b4), (.ref b3), (.ref b3)]) (lenOf own_pd2 rfl) rfl (by show 2 * 0 + _ ≤ _; exact Nat.le_of_eq rfl) (hb hby at_52) (fun _ _ => ⟨rfl, e4, (by decide : 3 + 1 ≤ _), (by decide : 7 + 1 ≤ _)⟩)
  dsimp only [Pt.U, Pt.locs, Pt.cells, Pt.slots] at X5 l5 y5 z5 st5 hQ5
  subst y5 z5
  obtain ⟨h5, eh5⟩ : ∃ z, T5.heap = z := ⟨_, rfl⟩
  rw [eh5] at hQ5
  obtain ⟨rfl, N5q, K5q, G5_0, G5_1⟩ := hQ5
  have N5 : Fr n0 L5 := by rw [l5]; exact Fr.app N2 N5q
  have V2_x4_k5 := V2_x4.keep K5q (by simp only [List.mem_cons, List.not_mem_nil, or_false, not_or, not_false_eq_true]; exact ne_b1_b4)
  have A3_x4_k5 := A3_x4.keep K5q
  have D3_50_x4_k5 := D3_50_x4.keep K5q (by simp only [List.mem_cons, List.not_mem_nil, or_false, not_or, not_false_eq_true]; exact ne_b3_b4)
  have D3_52_x4_k5 := D3_52_x4.keep K5q (by simp only [List.mem_cons, List.not_mem_nil, or_false, not_or, not_false_eq_true]; exact ne_b3_b4)
  have Zn5 : n0 ≤ h5.size := Nat.le_trans Zn4 K5q.1
  have Xo5 := Xo4.keep K5q (allS g_b4 all0)
  obtain ⟨_, _, ⟨T6, L6, k6, n6⟩, -, Xr6, Sr6, gr6, ⟨Lc6, hQ6, l6, y6, z6⟩, st6⟩ := X5.specialBackS hx (y := (⟨"com/example/privlint/privlint/model/DeclaredPermission", "<init>", "(Ljava/lang/String;I)V"⟩ : MethodName)) rfl hown (mvT hZ (hw _ (List.mem_of_getElem? (i := 33) rfl))) (mvT hZ (hw _ (List.mem_of_getElem? (i := 34) rfl))) (mvT hZ (hw _ (List.mem_of_getElem? (i := 35) rfl))) (by decide) (backOfS (W := 1) (own_rm7 l Z aA hw [] b3 b4 (((p0 <<< ((5 : Int32) &&& 31)) ||| ((p1 &&& (1 : Int32)) <<< ((4 : Int32) &&& 31))) ||| (p2 &&& (15 : Int32))) h5 n0 Zn5 A3_x4_k5 D3_50_x4_k5 D3_52_x4_k5 g_b3) hZ (hw _ (List.mem_of_getElem? (i := 35) rfl)) (hw _ (List.mem_of_getElem? (i := 3) rfl)) (by decide) (by decide)) (g := (mkF m 57 #[.val (.int p0), .val (.int p1), .val (.int p2), .val (.int p3), .val (.int (p1 &&& (1 : Int32))), .val (.int (p2 &&& (15 : Int32))), .val (.int (p0 <<< ((5 : Int32) &&& 31))), .val (.int (((p0 <<< ((5 : Int32) &&& 31)) ||| ((p1 &&& (1 : Int32)) <<< ((4 : Int32) &&& 31))) ||| (p2 &&& (15 : Int32)))), .val (.ref b1), .unset, .unset] [(.int (((p0 <<< ((5 : Int32) &&& 31)) ||| ((p1 &&& (1 : Int32)) <<< ((4 : Int32) &&& 31))) ||| (p2 &&& (15 : Int32)))), (.ref b4), (.ref b3), (.ref b3)])) rfl (by rw [hml]; rfl) (Steps.refl _) (a := b3) (argsL := [(.ref b4), (.int (((p0 <<< ((5 : Int32) &&& 31)) ||| ((p1 &&& (1 : Int32)) <<< ((4 : Int32) &&& 31))) ||| (p2 &&& (15 : Int32))))]) (rest := [(.ref b3)]) (lenOf own_pd3 rfl) rfl (by show 2 * 0 + _ ≤ _; exact Nat.le_of_eq rfl) (hb hby at_57) (fun _ _ => ⟨rfl, eh5, (by decide : 4 + 2 ≤ _), (by decide : 8 + 20 ≤ _)⟩)
  dsimp only [Pt.U, Pt.locs, Pt.cells, Pt.slots] at Xr6 Sr6 gr6 l6 y6 z6 st6 hQ6
  obtain ⟨X6, S6, hZ, hown⟩ := rebS (s := s) (vm0 := s.vm) (since0 s) (Nat.zero_le _) Xr6 Sr6 (by rw [eh5] at gr6; exact gr6) hZ hown
  subst y6 z6
  obtain ⟨h6, eh6⟩ : ∃ z, T6.heap = z := ⟨_, rfl⟩
  rw [eh6] at hQ6
  obtain ⟨rfl, N6q, K6q, G6_0, G6_1, G6_2⟩ := hQ6
  have N6 : Fr n0 L6 := by rw [l6]; exact Fr.app N5 N6q
  have V2_x4_k6 := V2_x4_k5.keep K6q (by simp only [List.mem_cons, List.not_mem_nil, or_false, not_or, not_false_eq_true]; exact ne_b1_b3)
  have G5_0_k6 := G5_0.keep K6q
  have Zn6 : n0 ≤ h6.size := Nat.le_trans Zn5 K6q.1
  have Xo6 := Xo5.keep K6q (allS g_b3 all0)
  have kh6 : 0 ≤ h6.size := Nat.le_trans (Nat.zero_le _) K6q.1
  have kh6 : T6.heap.size ≤ h6.size := Nat.le_of_eq (by rw [eh6])
  refine OweW.step (T' := T6) (g' := (mkF m 65 #[.val (.int p0), .val (.int p1), .val (.int p2), .val (.int p3), .val (.int (p1 &&& (1 : Int32))), .val (.int (p2 &&& (15 : Int32))), .val (.int (p0 <<< ((5 : Int32) &&& 31))), .val (.int (((p0 <<< ((5 : Int32) &&& 31)) ||| ((p1 &&& (1 : Int32)) <<< ((4 : Int32) &&& 31))) ||| (p2 &&& (15 : Int32)))), .val (.ref b1), .val (.ref b3), .unset] [(.int (2 : Int32)), (.int (p2 &&& (15 : Int32)))])) (fun t k => ?_) ?_
  · show Steps p.tables e below (s₁.setTop (mkF m 0 #[.val (.int p0), .val (.int p1), .val (.int p2), .val (.int p3), .unset, .unset, .unset, .unset, .unset, .unset, .unset] [])) t
    refine XS.iloadN X0.here hx rfl (hb hby at_0) rfl ?_
    show Steps p.tables e below (s₁.setTop (mkF m 1 #[.val (.int p0), .val (.int p1), .val (.int p2), .val (.int p3), .unset, .unset, .unset, .unset, .unset, .unset, .unset] [(.int p1)])) t
    refine XS.iconst X0.here hx rfl (hb hby at_1) ?_
    show Steps p.tables e below (s₁.setTop (mkF m 2 #[.val (.int p0), .val (.int p1), .val (.int p2), .val (.int p3), .unset, .unset, .unset, .unset, .unset, .unset, .unset] [(.int (1 : Int32)), (.int p1)])) t
    refine XS.iand X0.here hx rfl (hb hby at_2) rfl ?_
    show Steps p.tables e below (s₁.setTop (mkF m 3 #[.val (.int p0), .val (.int p1), .val (.int p2), .val (.int p3), .unset, .unset, .unset, .unset, .unset, .unset, .unset] [(.int (p1 &&& (1 : Int32)))])) t
    refine XS.istore X0.here hx rfl (hb hby at_3) rfl (l' := #[.val (.int p0), .val (.int p1), .val (.int p2), .val (.int p3), .val (.int (p1 &&& (1 : Int32))), .unset, .unset, .unset, .unset, .unset, .unset]) rfl ?_
    show Steps p.tables e below (s₁.setTop (mkF m 5 #[.val (.int p0), .val (.int p1), .val (.int p2), .val (.int p3), .val (.int (p1 &&& (1 : Int32))), .unset, .unset, .unset, .unset, .unset, .unset] [])) t
    refine XS.iloadN X0.here hx rfl (hb hby at_5) rfl ?_
    show Steps p.tables e below (s₁.setTop (mkF m 6 #[.val (.int p0), .val (.int p1), .val (.int p2), .val (.int p3), .val (.int (p1 &&& (1 : Int32))), .unset, .unset, .unset, .unset, .unset, .unset] [(.int p2)])) t
    refine XS.bipush X0.here hx rfl (hb hby at_6) ?_
    show Steps p.tables e below (s₁.setTop (mkF m 8 #[.val (.int p0), .val (.int p1), .val (.int p2), .val (.int p3), .val (.int (p1 &&& (1 : Int32))), .unset, .unset, .unset, .unset, .unset, .unset] [(.int (15 : Int32)), (.int p2)])) t
    refine XS.iand X0.here hx rfl (hb hby at_8) rfl ?_
    show Steps p.tables e below (s₁.setTop (mkF m 9 #[.val (.int p0), .val (.int p1), .val (.int p2), .val (.int p3), .val (.int (p1 &&& (1 : Int32))), .unset, .unset, .unset, .unset, .unset, .unset] [(.int (p2 &&& (15 : Int32)))])) t
    refine XS.istore X0.here hx rfl (hb hby at_9) rfl (l' := #[.val (.int p0), .val (.int p1), .val (.int p2), .val (.int p3), .val (.int (p1 &&& (1 : Int32))), .val (.int (p2 &&& (15 : Int32))), .unset, .unset, .unset, .unset, .unset]) rfl ?_
    show Steps p.tables e below (s₁.setTop (mkF m 11 #[.val (.int p0), .val (.int p1), .val (.int p2), .val (.int p3), .val (.int (p1 &&& (1 : Int32))), .val (.int (p2 &&& (15 : Int32))), .unset, .unset, .unset, .unset, .unset] [])) t
    refine XS.iloadN X0.here hx rfl (hb hby at_11) rfl ?_
    show Steps p.tables e below (s₁.setTop (mkF m 12 #[.val (.int p0), .val (.int p1), .val (.int p2), .val (.int p3), .val (.int (p1 &&& (1 : Int32))), .val (.int (p2 &&& (15 : Int32))), .unset, .unset, .unset, .unset, .unset] [(.int p0)])) t
    refine XS.iconst X0.here hx rfl (hb hby at_12) ?_
    show Steps p.tables e below (s₁.setTop (mkF m 13 #[.val (.int p0), .val (.int p1), .val (.int p2), .val (.int p3), .val (.int (p1 &&& (1 : Int32))), .val (.int (p2 &&& (15 : Int32))), .unset, .unset, .unset, .unset, .unset] [(.int (5 : Int32)), (.int p0)])) t
    refine XS.ishl X0.here hx rfl (hb hby at_13) rfl ?_
    show Steps p.tables e below (s₁.setTop (mkF m 14 #[.val (.int p0), .val (.int p1), .val (.int p2), .val (.int p3), .val (.int (p1 &&& (1 : Int32))), .val (.int (p2 &&& (15 : Int32))), .unset, .unset, .unset, .unset, .unset] [(.int (p0 <<< ((5 : Int32) &&& 31)))])) t
    refine XS.istore X0.here hx rfl (hb hby at_14) rfl (l' := #[.val (.int p0), .val (.int p1), .val (.int p2), .val (.int p3), .val (.int (p1 &&& (1 : Int32))), .val (.int (p2 &&& (15 : Int32))), .val (.int (p0 <<< ((5 : Int32) &&& 31))), .unset, .unset, .unset, .unset]) rfl ?_
    show Steps p.tables e below (s₁.setTop (mkF m 16 #[.val (.int p0), .val (.int p1), .val (.int p2), .val (.int p3), .val (.int (p1 &&& (1 : Int32))), .val (.int (p2 &&& (15 : Int32))), .val (.int (p0 <<< ((5 : Int32) &&& 31))), .unset, .unset, .unset, .unset] [])) t
    refine XS.iload X0.here hx rfl (hb hby at_16) rfl ?_
    show Steps p.tables e below (s₁.setTop (mkF m 18 #[.val (.int p0), .val (.int p1), .val (.int p2), .val (.int p3), .val (.int (p1 &&& (1 : Int32))), .val (.int (p2 &&& (15 : Int32))), .val (.int (p0 <<< ((5 : Int32) &&& 31))), .unset, .unset, .unset, .unset] [(.int (p0 <<< ((5 : Int32) &&& 31)))])) t
    refine XS.iload X0.here hx rfl (hb hby at_18) rfl ?_
    show Steps p.tables e below (s₁.setTop (mkF m 20 #[.val (.int p0), .val (.int p1), .val (.int p2), .val (.int p3), .val (.int (p1 &&& (1 : Int32))), .val (.int (p2 &&& (15 : Int32))), .val (.int (p0 <<< ((5 : Int32) &&& 31))), .unset, .unset, .unset, .unset] [(.int (p1 &&& (1 : Int32))), (.int (p0 <<< ((5 : Int32) &&& 31)))])) t
    refine XS.iconst X0.here hx rfl (hb hby at_20) ?_
    show Steps p.tables e below (s₁.setTop (mkF m 21 #[.val (.int p0), .val (.int p1), .val (.int p2), .val (.int p3), .val (.int (p1 &&& (1 : Int32))), .val (.int (p2 &&& (15 : Int32))), .val (.int (p0 <<< ((5 : Int32) &&& 31))), .unset, .unset, .unset, .unset] [(.int (4 : Int32)), (.int (p1 &&& (1 : Int32))), (.int (p0 <<< ((5 : Int32) &&& 31)))])) t
    refine XS.ishl X0.here hx rfl (hb hby at_21) rfl ?_
    show Steps p.tables e below (s₁.setTop (mkF m 22 #[.val (.int p0), .val (.int p1), .val (.int p2), .val (.int p3), .val (.int (p1 &&& (1 : Int32))), .val (.int (p2 &&& (15 : Int32))), .val (.int (p0 <<< ((5 : Int32) &&& 31))), .unset, .unset, .unset, .unset] [(.int ((p1 &&& (1 : Int32)) <<< ((4 : Int32) &&& 31))), (.int (p0 <<< ((5 : Int32) &&& 31)))])) t
    refine XS.ior X0.here hx rfl (hb hby at_22) rfl ?_
    show Steps p.tables e below (s₁.setTop (mkF m 23 #[.val (.int p0), .val (.int p1), .val (.int p2), .val (.int p3), .val (.int (p1 &&& (1 : Int32))), .val (.int (p2 &&& (15 : Int32))), .val (.int (p0 <<< ((5 : Int32) &&& 31))), .unset, .unset, .unset, .unset] [(.int ((p0 <<< ((5 : Int32) &&& 31)) ||| ((p1 &&& (1 : Int32)) <<< ((4 : Int32) &&& 31))))])) t
    refine XS.iload X0.here hx rfl (hb hby at_23) rfl ?_
    show Steps p.tables e below (s₁.setTop (mkF m 25 #[.val (.int p0), .val (.int p1), .val (.int p2), .val (.int p3), .val (.int (p1 &&& (1 : Int32))), .val (.int (p2 &&& (15 : Int32))), .val (.int (p0 <<< ((5 : Int32) &&& 31))), .unset, .unset, .unset, .unset] [(.int (p2 &&& (15 : Int32))), (.int ((p0 <<< ((5 : Int32) &&& 31)) ||| ((p1 &&& (1 : Int32)) <<< ((4 : Int32) &&& 31))))])) t
    refine XS.ior X0.here hx rfl (hb hby at_25) rfl ?_
    show Steps p.tables e below (s₁.setTop (mkF m 26 #[.val (.int p0), .val (.int p1), .val (.int p2), .val (.int p3), .val (.int (p1 &&& (1 : Int32))), .val (.int (p2 &&& (15 : Int32))), .val (.int (p0 <<< ((5 : Int32) &&& 31))), .unset, .unset, .unset, .unset] [(.int (((p0 <<< ((5 : Int32) &&& 31)) ||| ((p1 &&& (1 : Int32)) <<< ((4 : Int32) &&& 31))) ||| (p2 &&& (15 : Int32))))])) t
    refine XS.istore X0.here hx rfl (hb hby at_26) rfl (l' := #[.val (.int p0), .val (.int p1), .val (.int p2), .val (.int p3), .val (.int (p1 &&& (1 : Int32))), .val (.int (p2 &&& (15 : Int32))), .val (.int (p0 <<< ((5 : Int32) &&& 31))), .val (.int (((p0 <<< ((5 : Int32) &&& 31)) ||| ((p1 &&& (1 : Int32)) <<< ((4 : Int32) &&& 31))) ||| (p2 &&& (15 : Int32)))), .unset, .unset, .unset]) rfl ?_
    show Steps p.tables e below (s₁.setTop (mkF m 28 #[.val (.int p0), .val (.int p1), .val (.int p2), .val (.int p3), .val (.int (p1 &&& (1 : Int32))), .val (.int (p2 &&& (15 : Int32))), .val (.int (p0 <<< ((5 : Int32) &&& 31))), .val (.int (((p0 <<< ((5 : Int32) &&& 31)) ||| ((p1 &&& (1 : Int32)) <<< ((4 : Int32) &&& 31))) ||| (p2 &&& (15 : Int32)))), .unset, .unset, .unset] [])) t
    refine XS.iconst X0.here hx rfl (hb hby at_28) ?_
    show Steps p.tables e below (s₁.setTop (mkF m 29 #[.val (.int p0), .val (.int p1), .val (.int p2), .val (.int p3), .val (.int (p1 &&& (1 : Int32))), .val (.int (p2 &&& (15 : Int32))), .val (.int (p0 <<< ((5 : Int32) &&& 31))), .val (.int (((p0 <<< ((5 : Int32) &&& 31)) ||| ((p1 &&& (1 : Int32)) <<< ((4 : Int32) &&& 31))) ||| (p2 &&& (15 : Int32)))), .unset, .unset, .unset] [(.int (1 : Int32))])) t
    refine st1 _ ?_
    show Steps p.tables e below (T1.setTop (mkF m 31 #[.val (.int p0), .val (.int p1), .val (.int p2), .val (.int p3), .val (.int (p1 &&& (1 : Int32))), .val (.int (p2 &&& (15 : Int32))), .val (.int (p0 <<< ((5 : Int32) &&& 31))), .val (.int (((p0 <<< ((5 : Int32) &&& 31)) ||| ((p1 &&& (1 : Int32)) <<< ((4 : Int32) &&& 31))) ||| (p2 &&& (15 : Int32)))), .unset, .unset, .unset] [(.ref b1)])) t
    refine XS.dup X1.here hx rfl (hb hby at_31) rfl rfl ?_
    show Steps p.tables e below (T1.setTop (mkF m 32 #[.val (.int p0), .val (.int p1), .val (.int p2), .val (.int p3), .val (.int (p1 &&& (1 : Int32))), .val (.int (p2 &&& (15 : Int32))), .val (.int (p0 <<< ((5 : Int32) &&& 31))), .val (.int (((p0 <<< ((5 : Int32) &&& 31)) ||| ((p1 &&& (1 : Int32)) <<< ((4 : Int32) &&& 31))) ||| (p2 &&& (15 : Int32)))), .unset, .unset, .unset] [(.ref b1), (.ref b1)])) t
    refine XS.iconst X1.here hx rfl (hb hby at_32) ?_
    show Steps p.tables e below (T1.setTop (mkF m 33 #[.val (.int p0), .val (.int p1), .val (.int p2), .val (.int p3), .val (.int (p1 &&& (1 : Int32))), .val (.int (p2 &&& (15 : Int32))), .val (.int (p0 <<< ((5 : Int32) &&& 31))), .val (.int (((p0 <<< ((5 : Int32) &&& 31)) ||| ((p1 &&& (1 : Int32)) <<< ((4 : Int32) &&& 31))) ||| (p2 &&& (15 : Int32)))), .unset, .unset, .unset] [(.int (0 : Int32)), (.ref b1), (.ref b1)])) t
    refine XS.iloadN X1.here hx rfl (hb hby at_33) rfl ?_
    show Steps p.tables e below (T1.setTop (mkF m 34 #[.val (.int p0), .val (.int p1), .val (.int p2), .val (.int p3), .val (.int (p1 &&& (1 : Int32))), .val (.int (p2 &&& (15 : Int32))), .val (.int (p0 <<< ((5 : Int32) &&& 31))), .val (.int (((p0 <<< ((5 : Int32) &&& 31)) ||| ((p1 &&& (1 : Int32)) <<< ((4 : Int32) &&& 31))) ||| (p2 &&& (15 : Int32)))), .unset, .unset, .unset] [(.int p3), (.int (0 : Int32)), (.ref b1), (.ref b1)])) t
    refine XS.sipush X1.here hx rfl (hb hby at_34) ?_
    show Steps p.tables e below (T1.setTop (mkF m 37 #[.val (.int p0), .val (.int p1), .val (.int p2), .val (.int p3), .val (.int (p1 &&& (1 : Int32))), .val (.int (p2 &&& (15 : Int32))), .val (.int (p0 <<< ((5 : Int32) &&& 31))), .val (.int (((p0 <<< ((5 : Int32) &&& 31)) ||| ((p1 &&& (1 : Int32)) <<< ((4 : Int32) &&& 31))) ||| (p2 &&& (15 : Int32)))), .unset, .unset, .unset] [(.int (255 : Int32)), (.int p3), (.int (0 : Int32)), (.ref b1), (.ref b1)])) t
    refine XS.iand X1.here hx rfl (hb hby at_37) rfl ?_
    show Steps p.tables e below (T1.setTop (mkF m 38 #[.val (.int p0), .val (.int p1), .val (.int p2), .val (.int p3), .val (.int (p1 &&& (1 : Int32))), .val (.int (p2 &&& (15 : Int32))), .val (.int (p0 <<< ((5 : Int32) &&& 31))), .val (.int (((p0 <<< ((5 : Int32) &&& 31)) ||| ((p1 &&& (1 : Int32)) <<< ((4 : Int32) &&& 31))) ||| (p2 &&& (15 : Int32)))), .unset, .unset, .unset] [(.int (p3 &&& (255 : Int32))), (.int (0 : Int32)), (.ref b1), (.ref b1)])) t
    refine XS.i2c X1.here hx rfl (hb hby at_38) rfl ?_
    show Steps p.tables e below (T1.setTop (mkF m 39 #[.val (.int p0), .val (.int p1), .val (.int p2), .val (.int p3), .val (.int (p1 &&& (1 : Int32))), .val (.int (p2 &&& (15 : Int32))), .val (.int (p0 <<< ((5 : Int32) &&& 31))), .val (.int (((p0 <<< ((5 : Int32) &&& 31)) ||| ((p1 &&& (1 : Int32)) <<< ((4 : Int32) &&& 31))) ||| (p2 &&& (15 : Int32)))), .unset, .unset, .unset] [(.int ((p3 &&& (255 : Int32)).toUInt32.toUInt16.toUInt32.toInt32)), (.int (0 : Int32)), (.ref b1), (.ref b1)])) t
    refine st2 _ ?_
    show Steps p.tables e below (T2.setTop (mkF m 40 #[.val (.int p0), .val (.int p1), .val (.int p2), .val (.int p3), .val (.int (p1 &&& (1 : Int32))), .val (.int (p2 &&& (15 : Int32))), .val (.int (p0 <<< ((5 : Int32) &&& 31))), .val (.int (((p0 <<< ((5 : Int32) &&& 31)) ||| ((p1 &&& (1 : Int32)) <<< ((4 : Int32) &&& 31))) ||| (p2 &&& (15 : Int32)))), .unset, .unset, .unset] [(.ref b1)])) t
    refine XS.astore X2.here hx rfl (hb hby at_40) rfl rfl (l' := #[.val (.int p0), .val (.int p1), .val (.int p2), .val (.int p3), .val (.int (p1 &&& (1 : Int32))), .val (.int (p2 &&& (15 : Int32))), .val (.int (p0 <<< ((5 : Int32) &&& 31))), .val (.int (((p0 <<< ((5 : Int32) &&& 31)) ||| ((p1 &&& (1 : Int32)) <<< ((4 : Int32) &&& 31))) ||| (p2 &&& (15 : Int32)))), .val (.ref b1), .unset, .unset]) rfl ?_
    show Steps p.tables e below (T2.setTop (mkF m 42 #[.val (.int p0), .val (.int p1), .val (.int p2), .val (.int p3), .val (.int (p1 &&& (1 : Int32))), .val (.int (p2 &&& (15 : Int32))), .val (.int (p0 <<< ((5 : Int32) &&& 31))), .val (.int (((p0 <<< ((5 : Int32) &&& 31)) ||| ((p1 &&& (1 : Int32)) <<< ((4 : Int32) &&& 31))) ||| (p2 &&& (15 : Int32)))), .val (.ref b1), .unset, .unset] [])) t
    refine st3 _ ?_
    show Steps p.tables e below (T3.setTop (mkF m 45 #[.val (.int p0), .val (.int p1), .val (.int p2), .val (.int p3), .val (.int (p1 &&& (1 : Int32))), .val (.int (p2 &&& (15 : Int32))), .val (.int (p0 <<< ((5 : Int32) &&& 31))), .val (.int (((p0 <<< ((5 : Int32) &&& 31)) ||| ((p1 &&& (1 : Int32)) <<< ((4 : Int32) &&& 31))) ||| (p2 &&& (15 : Int32)))), .val (.ref b1), .unset, .unset] [(.ref b3)])) t
    refine XS.dup X3.here hx rfl (hb hby at_45) rfl rfl ?_
    show Steps p.tables e below (T3.setTop (mkF m 46 #[.val (.int p0), .val (.int p1), .val (.int p2), .val (.int p3), .val (.int (p1 &&& (1 : Int32))), .val (.int (p2 &&& (15 : Int32))), .val (.int (p0 <<< ((5 : Int32) &&& 31))), .val (.int (((p0 <<< ((5 : Int32) &&& 31)) ||| ((p1 &&& (1 : Int32)) <<< ((4 : Int32) &&& 31))) ||| (p2 &&& (15 : Int32)))), .val (.ref b1), .unset, .unset] [(.ref b3), (.ref b3)])) t
    refine st4 _ ?_
    show Steps p.tables e below (T4.setTop (mkF m 49 #[.val (.int p0), .val (.int p1), .val (.int p2), .val (.int p3), .val (.int (p1 &&& (1 : Int32))), .val (.int (p2 &&& (15 : Int32))), .val (.int (p0 <<< ((5 : Int32) &&& 31))), .val (.int (((p0 <<< ((5 : Int32) &&& 31)) ||| ((p1 &&& (1 : Int32)) <<< ((4 : Int32) &&& 31))) ||| (p2 &&& (15 : Int32)))), .val (.ref b1), .unset, .unset] [(.ref b4), (.ref b3), (.ref b3)])) t
    refine XS.dup X4.here hx rfl (hb hby at_49) rfl rfl ?_
    show Steps p.tables e below (T4.setTop (mkF m 50 #[.val (.int p0), .val (.int p1), .val (.int p2), .val (.int p3), .val (.int (p1 &&& (1 : Int32))), .val (.int (p2 &&& (15 : Int32))), .val (.int (p0 <<< ((5 : Int32) &&& 31))), .val (.int (((p0 <<< ((5 : Int32) &&& 31)) ||| ((p1 &&& (1 : Int32)) <<< ((4 : Int32) &&& 31))) ||| (p2 &&& (15 : Int32)))), .val (.ref b1), .unset, .unset] [(.ref b4), (.ref b4), (.ref b3), (.ref b3)])) t
    refine XS.aload X4.here hx rfl (hb hby at_50) rfl rfl ?_
    show Steps p.tables e below (T4.setTop (mkF m 52 #[.val (.int p0), .val (.int p1), .val (.int p2), .val (.int p3), .val (.int (p1 &&& (1 : Int32))), .val (.int (p2 &&& (15 : Int32))), .val (.int (p0 <<< ((5 : Int32) &&& 31))), .val (.int (((p0 <<< ((5 : Int32) &&& 31)) ||| ((p1 &&& (1 : Int32)) <<< ((4 : Int32) &&& 31))) ||| (p2 &&& (15 : Int32)))), .val (.ref b1), .unset, .unset] [(.ref b1), (.ref b4), (.ref b4), (.ref b3), (.ref b3)])) t
    refine st5.trans ?_
    show Steps p.tables e below (T5.setTop (mkF m 55 #[.val (.int p0), .val (.int p1), .val (.int p2), .val (.int p3), .val (.int (p1 &&& (1 : Int32))), .val (.int (p2 &&& (15 : Int32))), .val (.int (p0 <<< ((5 : Int32) &&& 31))), .val (.int (((p0 <<< ((5 : Int32) &&& 31)) ||| ((p1 &&& (1 : Int32)) <<< ((4 : Int32) &&& 31))) ||| (p2 &&& (15 : Int32)))), .val (.ref b1), .unset, .unset] [(.ref b4), (.ref b3), (.ref b3)])) t
    refine XS.iload X5.here hx rfl (hb hby at_55) rfl ?_
    show Steps p.tables e below (T5.setTop (mkF m 57 #[.val (.int p0), .val (.int p1), .val (.int p2), .val (.int p3), .val (.int (p1 &&& (1 : Int32))), .val (.int (p2 &&& (15 : Int32))), .val (.int (p0 <<< ((5 : Int32) &&& 31))), .val (.int (((p0 <<< ((5 : Int32) &&& 31)) ||| ((p1 &&& (1 : Int32)) <<< ((4 : Int32) &&& 31))) ||| (p2 &&& (15 : Int32)))), .val (.ref b1), .unset, .unset] [(.int (((p0 <<< ((5 : Int32) &&& 31)) ||| ((p1 &&& (1 : Int32)) <<< ((4 : Int32) &&& 31))) ||| (p2 &&& (15 : Int32)))), (.ref b4), (.ref b3), (.ref b3)])) t
    refine st6.trans ?_
    show Steps p.tables e below (T6.setTop (mkF m 60 #[.val (.int p0), .val (.int p1), .val (.int p2), .val (.int p3), .val (.int (p1 &&& (1 : Int32))), .val (.int (p2 &&& (15 : Int32))), .val (.int (p0 <<< ((5 : Int32) &&& 31))), .val (.int (((p0 <<< ((5 : Int32) &&& 31)) ||| ((p1 &&& (1 : Int32)) <<< ((4 : Int32) &&& 31))) ||| (p2 &&& (15 : Int32)))), .val (.ref b1), .unset, .unset] [(.ref b3)])) t
    refine XS.astore X6.here hx rfl (hb hby at_60) rfl rfl (l' := #[.val (.int p0), .val (.int p1), .val (.int p2), .val (.int p3), .val (.int (p1 &&& (1 : Int32))), .val (.int (p2 &&& (15 : Int32))), .val (.int (p0 <<< ((5 : Int32) &&& 31))), .val (.int (((p0 <<< ((5 : Int32) &&& 31)) ||| ((p1 &&& (1 : Int32)) <<< ((4 : Int32) &&& 31))) ||| (p2 &&& (15 : Int32)))), .val (.ref b1), .val (.ref b3), .unset]) rfl ?_
    show Steps p.tables e below (T6.setTop (mkF m 62 #[.val (.int p0), .val (.int p1), .val (.int p2), .val (.int p3), .val (.int (p1 &&& (1 : Int32))), .val (.int (p2 &&& (15 : Int32))), .val (.int (p0 <<< ((5 : Int32) &&& 31))), .val (.int (((p0 <<< ((5 : Int32) &&& 31)) ||| ((p1 &&& (1 : Int32)) <<< ((4 : Int32) &&& 31))) ||| (p2 &&& (15 : Int32)))), .val (.ref b1), .val (.ref b3), .unset] [])) t
    refine XS.iload X6.here hx rfl (hb hby at_62) rfl ?_
    show Steps p.tables e below (T6.setTop (mkF m 64 #[.val (.int p0), .val (.int p1), .val (.int p2), .val (.int p3), .val (.int (p1 &&& (1 : Int32))), .val (.int (p2 &&& (15 : Int32))), .val (.int (p0 <<< ((5 : Int32) &&& 31))), .val (.int (((p0 <<< ((5 : Int32) &&& 31)) ||| ((p1 &&& (1 : Int32)) <<< ((4 : Int32) &&& 31))) ||| (p2 &&& (15 : Int32)))), .val (.ref b1), .val (.ref b3), .unset] [(.int (p2 &&& (15 : Int32)))])) t
    refine XS.iconst X6.here hx rfl (hb hby at_64) ?_
    show Steps p.tables e below (T6.setTop (mkF m 65 #[.val (.int p0), .val (.int p1), .val (.int p2), .val (.int p3), .val (.int (p1 &&& (1 : Int32))), .val (.int (p2 &&& (15 : Int32))), .val (.int (p0 <<< ((5 : Int32) &&& 31))), .val (.int (((p0 <<< ((5 : Int32) &&& 31)) ||| ((p1 &&& (1 : Int32)) <<< ((4 : Int32) &&& 31))) ||| (p2 &&& (15 : Int32)))), .val (.ref b1), .val (.ref b3), .unset] [(.int (2 : Int32)), (.int (p2 &&& (15 : Int32)))])) t
    exact k
  have j113 : ∀ (T : State) (Lc : List Loc) (X : Stand p l e room_1 (s.setVm T6.vm) m #[(.int p0), (.int p1), (.int p2), (.int p3)] below meth c T Lc 6 28) (v113_10 : Int32) (eT : T.heap = h6) (N : Fr n0 Lc), OweW p e below s 24 1152 (QL (.int (own_f0_113 p0 p1 p2 v113_10)) n0) T (mkF m 113 #[.val (.int p0), .val (.int p1), .val (.int p2), .val (.int p3), .val (.int (p1 &&& (1 : Int32))), .val (.int (p2 &&& (15 : Int32))), .val (.int (p0 <<< ((5 : Int32) &&& 31))), .val (.int (((p0 <<< ((5 : Int32) &&& 31)) ||| ((p1 &&& (1 : Int32)) <<< ((4 : Int32) &&& 31))) ||| (p2 &&& (15 : Int32)))), .val (.ref b1), .val (.ref b3), .val (.int v113_10)] []) := by
    intro T113j Lc113j X113j v113_10 e113j N113j
    obtain ⟨cq7, kq7, q7a, q7b, q7c⟩ := isOf hZ e113j G6_0
    obtain ⟨_, _, ⟨T7, L7, k7, n7⟩, -, X7, ⟨Lc7, hQ7, l7, y7, z7⟩, st7⟩ := X113j.virtualBack hx (y := (⟨"com/example/privlint/privlint/model/DeclaredPermission", "isPrivileged", "()Z"⟩ : MethodName)) (z := (⟨"com/example/privlint/privlint/model/DeclaredPermission", "isPrivileged", "()Z"⟩ : MethodName)) hown (mvT hZ (hw _ (List.mem_of_getElem? (i := 53) rfl))) (mvT hZ (hw _ (List.mem_of_getElem? (i := 54) rfl))) (notFace_of_selects (args := #[]) (mvT hZ (hw _ (List.mem_of_getElem? (i := 56) rfl)))) (mvT hZ (hw _ (List.mem_of_getElem? (i := 56) rfl))) (mvT hZ (hw _ (List.mem_of_getElem? (i := 55) rfl))) (by decide) (backOf (W := 0) (own_rm10 l Z aA hw [] b3 (((p0 <<< ((5 : Int32) &&& 31)) ||| ((p1 &&& (1 : Int32)) <<< ((4 : Int32) &&& 31))) ||| (p2 &&& (15 : Int32))) h6 n0 Zn6 G6_2) hZ (hw _ (List.mem_of_getElem? (i := 57) rfl)) (hw _ (List.mem_of_getElem? (i := 3) rfl)) (by decide) (by decide)) q7a q7c (g := (mkF m 115 #[.val (.int p0), .val (.int p1), .val (.int p2), .val (.int p3), .val (.int (p1 &&& (1 : Int32))), .val (.int (p2 &&& (15 : Int32))), .val (.int (p0 <<< ((5 : Int32) &&& 31))), .val (.int (((p0 <<< ((5 : Int32) &&& 31)) ||| ((p1 &&& (1 : Int32)) <<< ((4 : Int32) &&& 31))) ||| (p2 &&& (15 : Int32)))), .val (.ref b1), .val (.ref b3), .val (.int v113_10)] [(.ref b3)])) rfl (by rw [hml]; rfl) (Steps.refl _) (argsL := []) (rest := []) (lenOf own_pd4 rfl) rfl (by show 2 * 0 + _ ≤ _; exact Nat.le_of_eq rfl) (hb hby at_115) (fun _ _ => ⟨rfl, e113j, (by decide : 6 + 0 ≤ _), (by decide : 28 + 0 ≤ _)⟩)
    dsimp only [Pt.U, Pt.locs, Pt.cells, Pt.slots] at X7 l7 y7 z7 st7 hQ7
    subst y7 z7
    obtain ⟨rfl, N7q, e7⟩ := hQ7
    have N7 : Fr n0 L7 := by rw [l7]; exact Fr.app N113j N7q
    refine OweW.step (T' := T7) (g' := (mkF m 120 #[.val (.int p0), .val (.int p1), .val (.int p2), .val (.int p3), .val (.int (p1 &&& (1 : Int32))), .val (.int (p2 &&& (15 : Int32))), .val (.int (p0 <<< ((5 : Int32) &&& 31))), .val (.int (((p0 <<< ((5 : Int32) &&& 31)) ||| ((p1 &&& (1 : Int32)) <<< ((4 : Int32) &&& 31))) ||| (p2 &&& (15 : Int32)))), .val (.ref b1), .val (.ref b3), .val (.int v113_10)] [(.int v113_10), (.int (own_f10_0 (((p0 <<< ((5 : Int32) &&& 31)) ||| ((p1 &&& (1 : Int32)) <<< ((4 : Int32) &&& 31))) ||| (p2 &&& (15 : Int32)))))])) (fun t k => ?_) ?_
    · show Steps p.tables e below (T113j.setTop (mkF m 113 #[.val (.int p0), .val (.int p1), .val (.int p2), .val (.int p3), .val (.int (p1 &&& (1 : Int32))), .val (.int (p2 &&& (15 : Int32))), .val (.int (p0 <<< ((5 : Int32) &&& 31))), .val (.int (((p0 <<< ((5 : Int32) &&& 31)) ||| ((p1 &&& (1 : Int32)) <<< ((4 : Int32) &&& 31))) ||| (p2 &&& (15 : Int32)))), .val (.ref b1), .val (.ref b3), .val (.int v113_10)] [])) t
      refine XS.aload X113j.here hx rfl (hb hby at_113) rfl rfl ?_
      show Steps p.tables e below (T113j.setTop (mkF m 115 #[.val (.int p0), .val (.int p1), .val (.int p2), .val (.int p3), .val (.int (p1 &&& (1 : Int32))), .val (.int (p2 &&& (15 : Int32))), .val (.int (p0 <<< ((5 : Int32) &&& 31))), .val (.int (((p0 <<< ((5 : Int32) &&& 31)) ||| ((p1 &&& (1 : Int32)) <<< ((4 : Int32) &&& 31))) ||| (p2 &&& (15 : Int32)))), .val (.ref b1), .val (.ref b3), .val (.int v113_10)] [(.ref b3)])) t
      refine st7.trans ?_
      show Steps p.tables e below (T7.setTop (mkF m 118 #[.val (.int p0), .val (.int p1), .val (.int p2), .val (.int p3), .val (.int (p1 &&& (1 : Int32))), .val (.int (p2 &&& (15 : Int32))), .val (.int (p0 <<< ((5 : Int32) &&& 31))), .val (.int (((p0 <<< ((5 : Int32) &&& 31)) ||| ((p1 &&& (1 : Int32)) <<< ((4 : Int32) &&& 31))) ||| (p2 &&& (15 : Int32)))), .val (.ref b1), .val (.ref b3), .val (.int v113_10)] [(.int (own_f10_0 (((p0 <<< ((5 : Int32) &&& 31)) ||| ((p1 &&& (1 : Int32)) <<< ((4 : Int32) &&& 31))) ||| (p2 &&& (15 : Int32)))))])) t
      refine XS.iload X7.here hx rfl (hb hby at_118) rfl ?_
      show Steps p.tables e below (T7.setTop (mkF m 120 #[.val (.int p0), .val (.int p1), .val (.int p2), .val (.int p3), .val (.int (p1 &&& (1 : Int32))), .val (.int (p2 &&& (15 : Int32))), .val (.int (p0 <<< ((5 : Int32) &&& 31))), .val (.int (((p0 <<< ((5 : Int32) &&& 31)) ||| ((p1 &&& (1 : Int32)) <<< ((4 : Int32) &&& 31))) ||| (p2 &&& (15 : Int32)))), .val (.ref b1), .val (.ref b3), .val (.int v113_10)] [(.int v113_10), (.int (own_f10_0 (((p0 <<< ((5 : Int32) &&& 31)) ||| ((p1 &&& (1 : Int32)) <<< ((4 : Int32) &&& 31))) ||| (p2 &&& (15 : Int32)))))])) t
      exact k
    by_cases hc120 : (own_f10_0 (((p0 <<< ((5 : Int32) &&& 31)) ||| ((p1 &&& (1 : Int32)) <<< ((4 : Int32) &&& 31))) ||| (p2 &&& (15 : Int32)))) = v113_10
    · refine OweW.step (T' := T7) (g' := (mkF m 123 #[.val (.int p0), .val (.int p1), .val (.int p2), .val (.int p3), .val (.int (p1 &&& (1 : Int32))), .val (.int (p2 &&& (15 : Int32))), .val (.int (p0 <<< ((5 : Int32) &&& 31))), .val (.int (((p0 <<< ((5 : Int32) &&& 31)) ||| ((p1 &&& (1 : Int32)) <<< ((4 : Int32) &&& 31))) ||| (p2 &&& (15 : Int32)))), .val (.ref b1), .val (.ref b3), .val (.int v113_10)] [])) (fun t k => ?_) ?_
      · show Steps p.tables e below (T7.setTop (mkF m 120 #[.val (.int p0), .val (.int p1), .val (.int p2), .val (.int p3), .val (.int (p1 &&& (1 : Int32))), .val (.int (p2 &&& (15 : Int32))), .val (.int (p0 <<< ((5 : Int32) &&& 31))), .val (.int (((p0 <<< ((5 : Int32) &&& 31)) ||| ((p1 &&& (1 : Int32)) <<< ((4 : Int32) &&& 31))) ||| (p2 &&& (15 : Int32)))), .val (.ref b1), .val (.ref b3), .val (.int v113_10)] [(.int v113_10), (.int (own_f10_0 (((p0 <<< ((5 : Int32) &&& 31)) ||| ((p1 &&& (1 : Int32)) <<< ((4 : Int32) &&& 31))) ||| (p2 &&& (15 : Int32)))))])) t
        refine XS.icmpNo X7.here hx rfl (hb hby at_120) rfl (teq hc120).2 ?_
        show Steps p.tables e below (T7.setTop (mkF m 123 #[.val (.int p0), .val (.int p1), .val (.int p2), .val (.int p3), .val (.int (p1 &&& (1 : Int32))), .val (.int (p2 &&& (15 : Int32))), .val (.int (p0 <<< ((5 : Int32) &&& 31))), .val (.int (((p0 <<< ((5 : Int32) &&& 31)) ||| ((p1 &&& (1 : Int32)) <<< ((4 : Int32) &&& 31))) ||| (p2 &&& (15 : Int32)))), .val (.ref b1), .val (.ref b3), .val (.int v113_10)] [])) t
        exact k
      rw [show own_f0_113 p0 p1 p2 v113_10 = (1 : Int32) from (by rw [own_f0_113, if_pos hc120])]
      refine OweW.ret X7 S6 (by rw [e7]; exact kh6) Bd.notSynchronized (v := (some (.int (1 : Int32)))) (fun h => by rw [Bd.returns] at h; cases h) (fun fs hr => ?_) ⟨rfl, N7⟩ (by decide) (by decide)
      show Steps p.tables e below (T7.setTop (mkF m 123 #[.val (.int p0), .val (.int p1), .val (.int p2), .val (.int p3), .val (.int (p1 &&& (1 : Int32))), .val (.int (p2 &&& (15 : Int32))), .val (.int (p0 <<< ((5 : Int32) &&& 31))), .val (.int (((p0 <<< ((5 : Int32) &&& 31)) ||| ((p1 &&& (1 : Int32)) <<< ((4 : Int32) &&& 31))) ||| (p2 &&& (15 : Int32)))), .val (.ref b1), .val (.ref b3), .val (.int v113_10)] [])) _
      refine XS.iconst X7.here hx rfl (hb hby at_123) ?_
      show Steps p.tables e below (T7.setTop (mkF m 124 #[.val (.int p0), .val (.int p1), .val (.int p2), .val (.int p3), .val (.int (p1 &&& (1 : Int32))), .val (.int (p2 &&& (15 : Int32))), .val (.int (p0 <<< ((5 : Int32) &&& 31))), .val (.int (((p0 <<< ((5 : Int32) &&& 31)) ||| ((p1 &&& (1 : Int32)) <<< ((4 : Int32) &&& 31))) ||| (p2 &&& (15 : Int32)))), .val (.ref b1), .val (.ref b3), .val (.int v113_10)] [(.int (1 : Int32))])) _
      refine XS.goto X7.here hx rfl (pc0 := 124) (pc' := 128) rfl (hb hby at_124) (by decide) (by decide) ?_
      show Steps p.tables e below (T7.setTop (mkF m 128 #[.val (.int p0), .val (.int p1), .val (.int p2), .val (.int p3), .val (.int (p1 &&& (1 : Int32))), .val (.int (p2 &&& (15 : Int32))), .val (.int (p0 <<< ((5 : Int32) &&& 31))), .val (.int (((p0 <<< ((5 : Int32) &&& 31)) ||| ((p1 &&& (1 : Int32)) <<< ((4 : Int32) &&& 31))) ||| (p2 &&& (15 : Int32)))), .val (.ref b1), .val (.ref b3), .val (.int v113_10)] [(.int (1 : Int32))])) _
      exact retN X7 hx (t := .boolean) Bd.returns (by simp) (hb hby at_128) hr
    · refine OweW.step (T' := T7) (g' := (mkF m 127 #[.val (.int p0), .val (.int p1), .val (.int p2), .val (.int p3), .val (.int (p1 &&& (1 : Int32))), .val (.int (p2 &&& (15 : Int32))), .val (.int (p0 <<< ((5 : Int32) &&& 31))), .val (.int (((p0 <<< ((5 : Int32) &&& 31)) ||| ((p1 &&& (1 : Int32)) <<< ((4 : Int32) &&& 31))) ||| (p2 &&& (15 : Int32)))), .val (.ref b1), .val (.ref b3), .val (.int v113_10)] [])) (fun t k => ?_) ?_
      · show Steps p.tables e below (T7.setTop (mkF m 120 #[.val (.int p0), .val (.int p1), .val (.int p2), .val (.int p3), .val (.int (p1 &&& (1 : Int32))), .val (.int (p2 &&& (15 : Int32))), .val (.int (p0 <<< ((5 : Int32) &&& 31))), .val (.int (((p0 <<< ((5 : Int32) &&& 31)) ||| ((p1 &&& (1 : Int32)) <<< ((4 : Int32) &&& 31))) ||| (p2 &&& (15 : Int32)))), .val (.ref b1), .val (.ref b3), .val (.int v113_10)] [(.int v113_10), (.int (own_f10_0 (((p0 <<< ((5 : Int32) &&& 31)) ||| ((p1 &&& (1 : Int32)) <<< ((4 : Int32) &&& 31))) ||| (p2 &&& (15 : Int32)))))])) t
        refine XS.icmpYes X7.here hx rfl (pc0 := 120) (pc' := 127) rfl (hb hby at_120) rfl (feq hc120).2 (by decide) (by decide) ?_
        show Steps p.tables e below (T7.setTop (mkF m 127 #[.val (.int p0), .val (.int p1), .val (.int p2), .val (.int p3), .val (.int (p1 &&& (1 : Int32))), .val (.int (p2 &&& (15 : Int32))), .val (.int (p0 <<< ((5 : Int32) &&& 31))), .val (.int (((p0 <<< ((5 : Int32) &&& 31)) ||| ((p1 &&& (1 : Int32)) <<< ((4 : Int32) &&& 31))) ||| (p2 &&& (15 : Int32)))), .val (.ref b1), .val (.ref b3), .val (.int v113_10)] [])) t
        exact k
      rw [show own_f0_113 p0 p1 p2 v113_10 = (0 : Int32) from (by rw [own_f0_113, if_neg hc120])]
      refine OweW.ret X7 S6 (by rw [e7]; exact kh6) Bd.notSynchronized (v := (some (.int (0 : Int32)))) (fun h => by rw [Bd.returns] at h; cases h) (fun fs hr => ?_) ⟨rfl, N7⟩ (by decide) (by decide)
      show Steps p.tables e below (T7.setTop (mkF m 127 #[.val (.int p0), .val (.int p1), .val (.int p2), .val (.int p3), .val (.int (p1 &&& (1 : Int32))), .val (.int (p2 &&& (15 : Int32))), .val (.int (p0 <<< ((5 : Int32) &&& 31))), .val (.int (((p0 <<< ((5 : Int32) &&& 31)) ||| ((p1 &&& (1 : Int32)) <<< ((4 : Int32) &&& 31))) ||| (p2 &&& (15 : Int32)))), .val (.ref b1), .val (.ref b3), .val (.int v113_10)] [])) _
      refine XS.iconst X7.here hx rfl (hb hby at_127) ?_
      show Steps p.tables e below (T7.setTop (mkF m 128 #[.val (.int p0), .val (.int p1), .val (.int p2), .val (.int p3), .val (.int (p1 &&& (1 : Int32))), .val (.int (p2 &&& (15 : Int32))), .val (.int (p0 <<< ((5 : Int32) &&& 31))), .val (.int (((p0 <<< ((5 : Int32) &&& 31)) ||| ((p1 &&& (1 : Int32)) <<< ((4 : Int32) &&& 31))) ||| (p2 &&& (15 : Int32)))), .val (.ref b1), .val (.ref b3), .val (.int v113_10)] [(.int (0 : Int32))])) _
      exact retN X7 hx (t := .boolean) Bd.returns (by simp) (hb hby at_128) hr
  by_cases hc65 : (p2 &&& (15 : Int32)) = (2 : Int32)
  · refine OweW.step (T' := T6) (g' := (mkF m 68 #[.val (.int p0), .val (.int p1), .val (.int p2), .val (.int p3), .val (.int (p1 &&& (1 : Int32))), .val (.int (p2 &&& (15 : Int32))), .val (.int (p0 <<< ((5 : Int32) &&& 31))), .val (.int (((p0 <<< ((5 : Int32) &&& 31)) ||| ((p1 &&& (1 : Int32)) <<< ((4 : Int32) &&& 31))) ||| (p2 &&& (15 : Int32)))), .val (.ref b1), .val (.ref b3), .unset] [])) (fun t k => ?_) ?_
    · show Steps p.tables e below (T6.setTop (mkF m 65 #[.val (.int p0), .val (.int p1), .val (.int p2), .val (.int p3), .val (.int (p1 &&& (1 : Int32))), .val (.int (p2 &&& (15 : Int32))), .val (.int (p0 <<< ((5 : Int32) &&& 31))), .val (.int (((p0 <<< ((5 : Int32) &&& 31)) ||| ((p1 &&& (1 : Int32)) <<< ((4 : Int32) &&& 31))) ||| (p2 &&& (15 : Int32)))), .val (.ref b1), .val (.ref b3), .unset] [(.int (2 : Int32)), (.int (p2 &&& (15 : Int32)))])) t
      refine XS.icmpNo X6.here hx rfl (hb hby at_65) rfl (teq hc65).2 ?_
      show Steps p.tables e below (T6.setTop (mkF m 68 #[.val (.int p0), .val (.int p1), .val (.int p2), .val (.int p3), .val (.int (p1 &&& (1 : Int32))), .val (.int (p2 &&& (15 : Int32))), .val (.int (p0 <<< ((5 : Int32) &&& 31))), .val (.int (((p0 <<< ((5 : Int32) &&& 31)) ||| ((p1 &&& (1 : Int32)) <<< ((4 : Int32) &&& 31))) ||| (p2 &&& (15 : Int32)))), .val (.ref b1), .val (.ref b3), .unset] [])) t
      exact k
    refine OweW.step (T' := T6) (g' := (mkF m 71 #[.val (.int p0), .val (.int p1), .val (.int p2), .val (.int p3), .val (.int (p1 &&& (1 : Int32))), .val (.int (p2 &&& (15 : Int32))), .val (.int (p0 <<< ((5 : Int32) &&& 31))), .val (.int (((p0 <<< ((5 : Int32) &&& 31)) ||| ((p1 &&& (1 : Int32)) <<< ((4 : Int32) &&& 31))) ||| (p2 &&& (15 : Int32)))), .val (.ref b1), .val (.ref b3), .unset] [(.int (1 : Int32)), (.int (p1 &&& (1 : Int32)))])) (fun t k => ?_) ?_
    · show Steps p.tables e below (T6.setTop (mkF m 68 #[.val (.int p0), .val (.int p1), .val (.int p2), .val (.int p3), .val (.int (p1 &&& (1 : Int32))), .val (.int (p2 &&& (15 : Int32))), .val (.int (p0 <<< ((5 : Int32) &&& 31))), .val (.int (((p0 <<< ((5 : Int32) &&& 31)) ||| ((p1 &&& (1 : Int32)) <<< ((4 : Int32) &&& 31))) ||| (p2 &&& (15 : Int32)))), .val (.ref b1), .val (.ref b3), .unset] [])) t
      refine XS.iload X6.here hx rfl (hb hby at_68) rfl ?_
      show Steps p.tables e below (T6.setTop (mkF m 70 #[.val (.int p0), .val (.int p1), .val (.int p2), .val (.int p3), .val (.int (p1 &&& (1 : Int32))), .val (.int (p2 &&& (15 : Int32))), .val (.int (p0 <<< ((5 : Int32) &&& 31))), .val (.int (((p0 <<< ((5 : Int32) &&& 31)) ||| ((p1 &&& (1 : Int32)) <<< ((4 : Int32) &&& 31))) ||| (p2 &&& (15 : Int32)))), .val (.ref b1), .val (.ref b3), .unset] [(.int (p1 &&& (1 : Int32)))])) t
      refine XS.iconst X6.here hx rfl (hb hby at_70) ?_
      show Steps p.tables e below (T6.setTop (mkF m 71 #[.val (.int p0), .val (.int p1), .val (.int p2), .val (.int p3), .val (.int (p1 &&& (1 : Int32))), .val (.int (p2 &&& (15 : Int32))), .val (.int (p0 <<< ((5 : Int32) &&& 31))), .val (.int (((p0 <<< ((5 : Int32) &&& 31)) ||| ((p1 &&& (1 : Int32)) <<< ((4 : Int32) &&& 31))) ||| (p2 &&& (15 : Int32)))), .val (.ref b1), .val (.ref b3), .unset] [(.int (1 : Int32)), (.int (p1 &&& (1 : Int32)))])) t
      exact k
    have j79 : ∀ (T : State) (Lc : List Loc) (X : Stand p l e room_1 (s.setVm T6.vm) m #[(.int p0), (.int p1), (.int p2), (.int p3)] below meth c T Lc 6 28) (t79_0 : Int32) (eT : T.heap = h6) (N : Fr n0 Lc), OweW p e below s 24 1152 (QL (.int (own_f0_79 p0 p1 p2 t79_0)) n0) T (mkF m 79 #[.val (.int p0), .val (.int p1), .val (.int p2), .val (.int p3), .val (.int (p1 &&& (1 : Int32))), .val (.int (p2 &&& (15 : Int32))), .val (.int (p0 <<< ((5 : Int32) &&& 31))), .val (.int (((p0 <<< ((5 : Int32) &&& 31)) ||| ((p1 &&& (1 : Int32)) <<< ((4 : Int32) &&& 31))) ||| (p2 &&& (15 : Int32)))), .val (.ref b1), .val (.ref b3), .unset] [(.int t79_0)]) := by
      intro T79j Lc79j X79j t79_0 e79j N79j
      refine OweW.step (T' := T79j) (g' := (mkF m 113 #[.val (.int p0), .val (.int p1), .val (.int p2), .val (.int p3), .val (.int (p1 &&& (1 : Int32))), .val (.int (p2 &&& (15 : Int32))), .val (.int (p0 <<< ((5 : Int32) &&& 31))), .val (.int (((p0 <<< ((5 : Int32) &&& 31)) ||| ((p1 &&& (1 : Int32)) <<< ((4 : Int32) &&& 31))) ||| (p2 &&& (15 : Int32)))), .val (.ref b1), .val (.ref b3), .val (.int t79_0)] [])) (fun t k => ?_) ?_
      · show Steps p.tables e below (T79j.setTop (mkF m 79 #[.val (.int p0), .val (.int p1), .val (.int p2), .val (.int p3), .val (.int (p1 &&& (1 : Int32))), .val (.int (p2 &&& (15 : Int32))), .val (.int (p0 <<< ((5 : Int32) &&& 31))), .val (.int (((p0 <<< ((5 : Int32) &&& 31)) ||| ((p1 &&& (1 : Int32)) <<< ((4 : Int32) &&& 31))) ||| (p2 &&& (15 : Int32)))), .val (.ref b1), .val (.ref b3), .unset] [(.int t79_0)])) t
        refine XS.istore X79j.here hx rfl (hb hby at_79) rfl (l' := #[.val (.int p0), .val (.int p1), .val (.int p2), .val (.int p3), .val (.int (p1 &&& (1 : Int32))), .val (.int (p2 &&& (15 : Int32))), .val (.int (p0 <<< ((5 : Int32) &&& 31))), .val (.int (((p0 <<< ((5 : Int32) &&& 31)) ||| ((p1 &&& (1 : Int32)) <<< ((4 : Int32) &&& 31))) ||| (p2 &&& (15 : Int32)))), .val (.ref b1), .val (.ref b3), .val (.int t79_0)]) rfl ?_
        show Steps p.tables e below (T79j.setTop (mkF m 81 #[.val (.int p0), .val (.int p1), .val (.int p2), .val (.int p3), .val (.int (p1 &&& (1 : Int32))), .val (.int (p2 &&& (15 : Int32))), .val (.int (p0 <<< ((5 : Int32) &&& 31))), .val (.int (((p0 <<< ((5 : Int32) &&& 31)) ||| ((p1 &&& (1 : Int32)) <<< ((4 : Int32) &&& 31))) ||| (p2 &&& (15 : Int32)))), .val (.ref b1), .val (.ref b3), .val (.int t79_0)] [])) t
        refine XS.goto X79j.here hx rfl (pc0 := 81) (pc' := 113) rfl (hb hby at_81) (by decide) (by decide) ?_
        show Steps p.tables e below (T79j.setTop (mkF m 113 #[.val (.int p0), .val (.int p1), .val (.int p2), .val (.int p3), .val (.int (p1 &&& (1 : Int32))), .val (.int (p2 &&& (15 : Int32))), .val (.int (p0 <<< ((5 : Int32) &&& 31))), .val (.int (((p0 <<< ((5 : Int32) &&& 31)) ||| ((p1 &&& (1 : Int32)) <<< ((4 : Int32) &&& 31))) ||| (p2 &&& (15 : Int32)))), .val (.ref b1), .val (.ref b3), .val (.int t79_0)] [])) t
        exact k
      rw [show own_f0_79 p0 p1 p2 t79_0 = (own_f0_113 p0 p1 p2 t79_0) from rfl]
      exact j113 T79j _ X79j t79_0 e79j N79j
    by_cases hc71 : (p1 &&& (1 : Int32)) = (1 : Int32)
    · refine OweW.step (T' := T6) (g' := (mkF m 74 #[.val (.int p0), .val (.int p1), .val (.int p2), .val (.int p3), .val (.int (p1 &&& (1 : Int32))), .val (.int (p2 &&& (15 : Int32))), .val (.int (p0 <<< ((5 : Int32) &&& 31))), .val (.int (((p0 <<< ((5 : Int32) &&& 31)) ||| ((p1 &&& (1 : Int32)) <<< ((4 : Int32) &&& 31))) ||| (p2 &&& (15 : Int32)))), .val (.ref b1), .val (.ref b3), .unset] [])) (fun t k => ?_) ?_
      · show Steps p.tables e below (T6.setTop (mkF m 71 #[.val (.int p0), .val (.int p1), .val (.int p2), .val (.int p3), .val (.int (p1 &&& (1 : Int32))), .val (.int (p2 &&& (15 : Int32))), .val (.int (p0 <<< ((5 : Int32) &&& 31))), .val (.int (((p0 <<< ((5 : Int32) &&& 31)) ||| ((p1 &&& (1 : Int32)) <<< ((4 : Int32) &&& 31))) ||| (p2 &&& (15 : Int32)))), .val (.ref b1), .val (.ref b3), .unset] [(.int (1 : Int32)), (.int (p1 &&& (1 : Int32)))])) t
        refine XS.icmpNo X6.here hx rfl (hb hby at_71) rfl (teq hc71).2 ?_
        show Steps p.tables e below (T6.setTop (mkF m 74 #[.val (.int p0), .val (.int p1), .val (.int p2), .val (.int p3), .val (.int (p1 &&& (1 : Int32))), .val (.int (p2 &&& (15 : Int32))), .val (.int (p0 <<< ((5 : Int32) &&& 31))), .val (.int (((p0 <<< ((5 : Int32) &&& 31)) ||| ((p1 &&& (1 : Int32)) <<< ((4 : Int32) &&& 31))) ||| (p2 &&& (15 : Int32)))), .val (.ref b1), .val (.ref b3), .unset] [])) t
        exact k
      refine OweW.step (T' := T6) (g' := (mkF m 79 #[.val (.int p0), .val (.int p1), .val (.int p2), .val (.int p3), .val (.int (p1 &&& (1 : Int32))), .val (.int (p2 &&& (15 : Int32))), .val (.int (p0 <<< ((5 : Int32) &&& 31))), .val (.int (((p0 <<< ((5 : Int32) &&& 31)) ||| ((p1 &&& (1 : Int32)) <<< ((4 : Int32) &&& 31))) ||| (p2 &&& (15 : Int32)))), .val (.ref b1), .val (.ref b3), .unset] [(.int (1 : Int32))])) (fun t k => ?_) ?_
      · show Steps p.tables e below (T6.setTop (mkF m 74 #[.val (.int p0), .val (.int p1), .val (.int p2), .val (.int p3), .val (.int (p1 &&& (1 : Int32))), .val (.int (p2 &&& (15 : Int32))), .val (.int (p0 <<< ((5 : Int32) &&& 31))), .val (.int (((p0 <<< ((5 : Int32) &&& 31)) ||| ((p1 &&& (1 : Int32)) <<< ((4 : Int32) &&& 31))) ||| (p2 &&& (15 : Int32)))), .val (.ref b1), .val (.ref b3), .unset] [])) t
        refine XS.iconst X6.here hx rfl (hb hby at_74) ?_
        show Steps p.tables e below (T6.setTop (mkF m 75 #[.val (.int p0), .val (.int p1), .val (.int p2), .val (.int p3), .val (.int (p1 &&& (1 : Int32))), .val (.int (p2 &&& (15 : Int32))), .val (.int (p0 <<< ((5 : Int32) &&& 31))), .val (.int (((p0 <<< ((5 : Int32) &&& 31)) ||| ((p1 &&& (1 : Int32)) <<< ((4 : Int32) &&& 31))) ||| (p2 &&& (15 : Int32)))), .val (.ref b1), .val (.ref b3), .unset] [(.int (1 : Int32))])) t
        refine XS.goto X6.here hx rfl (pc0 := 75) (pc' := 79) rfl (hb hby at_75) (by decide) (by decide) ?_
        show Steps p.tables e below (T6.setTop (mkF m 79 #[.val (.int p0), .val (.int p1), .val (.int p2), .val (.int p3), .val (.int (p1 &&& (1 : Int32))), .val (.int (p2 &&& (15 : Int32))), .val (.int (p0 <<< ((5 : Int32) &&& 31))), .val (.int (((p0 <<< ((5 : Int32) &&& 31)) ||| ((p1 &&& (1 : Int32)) <<< ((4 : Int32) &&& 31))) ||| (p2 &&& (15 : Int32)))), .val (.ref b1), .val (.ref b3), .unset] [(.int (1 : Int32))])) t
        exact k
      refine OweW.cast (show (own_f0_79 p0 p1 p2 (1 : Int32)) = (1 : Int32) from (show own_f0_0 p0 p1 p2 = (own_f0_79 p0 p1 p2 (1 : Int32)) from (by rw [own_f0_0, if_pos hc65, if_pos hc71])).symm.trans (own_law p0 p1 p2 p3 )) ?_
      exact j79 T6 _ X6 (1 : Int32) eh6 N6
    · refine OweW.step (T' := T6) (g' := (mkF m 78 #[.val (.int p0), .val (.int p1), .val (.int p2), .val (.int p3), .val (.int (p1 &&& (1 : Int32))), .val (.int (p2 &&& (15 : Int32))), .val (.int (p0 <<< ((5 : Int32) &&& 31))), .val (.int (((p0 <<< ((5 : Int32) &&& 31)) ||| ((p1 &&& (1 : Int32)) <<< ((4 : Int32) &&& 31))) ||| (p2 &&& (15 : Int32)))), .val (.ref b1), .val (.ref b3), .unset] [])) (fun t k => ?_) ?_
      · show Steps p.tables e below (T6.setTop (mkF m 71 #[.val (.int p0), .val (.int p1), .val (.int p2), .val (.int p3), .val (.int (p1 &&& (1 : Int32))), .val (.int (p2 &&& (15 : Int32))), .val (.int (p0 <<< ((5 : Int32) &&& 31))), .val (.int (((p0 <<< ((5 : Int32) &&& 31)) ||| ((p1 &&& (1 : Int32)) <<< ((4 : Int32) &&& 31))) ||| (p2 &&& (15 : Int32)))), .val (.ref b1), .val (.ref b3), .unset] [(.int (1 : Int32)), (.int (p1 &&& (1 : Int32)))])) t
        refine XS.icmpYes X6.here hx rfl (pc0 := 71) (pc' := 78) rfl (hb hby at_71) rfl (feq hc71).2 (by decide) (by decide) ?_
        show Steps p.tables e below (T6.setTop (mkF m 78 #[.val (.int p0), .val (.int p1), .val (.int p2), .val (.int p3), .val (.int (p1 &&& (1 : Int32))), .val (.int (p2 &&& (15 : Int32))), .val (.int (p0 <<< ((5 : Int32) &&& 31))), .val (.int (((p0 <<< ((5 : Int32) &&& 31)) ||| ((p1 &&& (1 : Int32)) <<< ((4 : Int32) &&& 31))) ||| (p2 &&& (15 : Int32)))), .val (.ref b1), .val (.ref b3), .unset] [])) t
        exact k
      refine OweW.step (T' := T6) (g' := (mkF m 79 #[.val (.int p0), .val (.int p1), .val (.int p2), .val (.int p3), .val (.int (p1 &&& (1 : Int32))), .val (.int (p2 &&& (15 : Int32))), .val (.int (p0 <<< ((5 : Int32) &&& 31))), .val (.int (((p0 <<< ((5 : Int32) &&& 31)) ||| ((p1 &&& (1 : Int32)) <<< ((4 : Int32) &&& 31))) ||| (p2 &&& (15 : Int32)))), .val (.ref b1), .val (.ref b3), .unset] [(.int (0 : Int32))])) (fun t k => ?_) ?_
      · show Steps p.tables e below (T6.setTop (mkF m 78 #[.val (.int p0), .val (.int p1), .val (.int p2), .val (.int p3), .val (.int (p1 &&& (1 : Int32))), .val (.int (p2 &&& (15 : Int32))), .val (.int (p0 <<< ((5 : Int32) &&& 31))), .val (.int (((p0 <<< ((5 : Int32) &&& 31)) ||| ((p1 &&& (1 : Int32)) <<< ((4 : Int32) &&& 31))) ||| (p2 &&& (15 : Int32)))), .val (.ref b1), .val (.ref b3), .unset] [])) t
        refine XS.iconst X6.here hx rfl (hb hby at_78) ?_
        show Steps p.tables e below (T6.setTop (mkF m 79 #[.val (.int p0), .val (.int p1), .val (.int p2), .val (.int p3), .val (.int (p1 &&& (1 : Int32))), .val (.int (p2 &&& (15 : Int32))), .val (.int (p0 <<< ((5 : Int32) &&& 31))), .val (.int (((p0 <<< ((5 : Int32) &&& 31)) ||| ((p1 &&& (1 : Int32)) <<< ((4 : Int32) &&& 31))) ||| (p2 &&& (15 : Int32)))), .val (.ref b1), .val (.ref b3), .unset] [(.int (0 : Int32))])) t
        exact k
      refine OweW.cast (show (own_f0_79 p0 p1 p2 (0 : Int32)) = (1 : Int32) from (show own_f0_0 p0 p1 p2 = (own_f0_79 p0 p1 p2 (0 : Int32)) from (by rw [own_f0_0, if_pos hc65, if_neg hc71])).symm.trans (own_law p0 p1 p2 p3 )) ?_
      exact j79 T6 _ X6 (0 : Int32) eh6 N6
  · refine OweW.step (T' := T6) (g' := (mkF m 84 #[.val (.int p0), .val (.int p1), .val (.int p2), .val (.int p3), .val (.int (p1 &&& (1 : Int32))), .val (.int (p2 &&& (15 : Int32))), .val (.int (p0 <<< ((5 : Int32) &&& 31))), .val (.int (((p0 <<< ((5 : Int32) &&& 31)) ||| ((p1 &&& (1 : Int32)) <<< ((4 : Int32) &&& 31))) ||| (p2 &&& (15 : Int32)))), .val (.ref b1), .val (.ref b3), .unset] [])) (fun t k => ?_) ?_
    · show Steps p.tables e below (T6.setTop (mkF m 65 #[.val (.int p0), .val (.int p1), .val (.int p2), .val (.int p3), .val (.int (p1 &&& (1 : Int32))), .val (.int (p2 &&& (15 : Int32))), .val (.int (p0 <<< ((5 : Int32) &&& 31))), .val (.int (((p0 <<< ((5 : Int32) &&& 31)) ||| ((p1 &&& (1 : Int32)) <<< ((4 : Int32) &&& 31))) ||| (p2 &&& (15 : Int32)))), .val (.ref b1), .val (.ref b3), .unset] [(.int (2 : Int32)), (.int (p2 &&& (15 : Int32)))])) t
      refine XS.icmpYes X6.here hx rfl (pc0 := 65) (pc' := 84) rfl (hb hby at_65) rfl (feq hc65).2 (by decide) (by decide) ?_
      show Steps p.tables e below (T6.setTop (mkF m 84 #[.val (.int p0), .val (.int p1), .val (.int p2), .val (.int p3), .val (.int (p1 &&& (1 : Int32))), .val (.int (p2 &&& (15 : Int32))), .val (.int (p0 <<< ((5 : Int32) &&& 31))), .val (.int (((p0 <<< ((5 : Int32) &&& 31)) ||| ((p1 &&& (1 : Int32)) <<< ((4 : Int32) &&& 31))) ||| (p2 &&& (15 : Int32)))), .val (.ref b1), .val (.ref b3), .unset] [])) t
      exact k
    refine OweW.step (T' := T6) (g' := (mkF m 87 #[.val (.int p0), .val (.int p1), .val (.int p2), .val (.int p3), .val (.int (p1 &&& (1 : Int32))), .val (.int (p2 &&& (15 : Int32))), .val (.int (p0 <<< ((5 : Int32) &&& 31))), .val (.int (((p0 <<< ((5 : Int32) &&& 31)) ||| ((p1 &&& (1 : Int32)) <<< ((4 : Int32) &&& 31))) ||| (p2 &&& (15 : Int32)))), .val (.ref b1), .val (.ref b3), .unset] [(.int (3 : Int32)), (.int (p2 &&& (15 : Int32)))])) (fun t k => ?_) ?_
    · show Steps p.tables e below (T6.setTop (mkF m 84 #[.val (.int p0), .val (.int p1), .val (.int p2), .val (.int p3), .val (.int (p1 &&& (1 : Int32))), .val (.int (p2 &&& (15 : Int32))), .val (.int (p0 <<< ((5 : Int32) &&& 31))), .val (.int (((p0 <<< ((5 : Int32) &&& 31)) ||| ((p1 &&& (1 : Int32)) <<< ((4 : Int32) &&& 31))) ||| (p2 &&& (15 : Int32)))), .val (.ref b1), .val (.ref b3), .unset] [])) t
      refine XS.iload X6.here hx rfl (hb hby at_84) rfl ?_
      show Steps p.tables e below (T6.setTop (mkF m 86 #[.val (.int p0), .val (.int p1), .val (.int p2), .val (.int p3), .val (.int (p1 &&& (1 : Int32))), .val (.int (p2 &&& (15 : Int32))), .val (.int (p0 <<< ((5 : Int32) &&& 31))), .val (.int (((p0 <<< ((5 : Int32) &&& 31)) ||| ((p1 &&& (1 : Int32)) <<< ((4 : Int32) &&& 31))) ||| (p2 &&& (15 : Int32)))), .val (.ref b1), .val (.ref b3), .unset] [(.int (p2 &&& (15 : Int32)))])) t
      refine XS.iconst X6.here hx rfl (hb hby at_86) ?_
      show Steps p.tables e below (T6.setTop (mkF m 87 #[.val (.int p0), .val (.int p1), .val (.int p2), .val (.int p3), .val (.int (p1 &&& (1 : Int32))), .val (.int (p2 &&& (15 : Int32))), .val (.int (p0 <<< ((5 : Int32) &&& 31))), .val (.int (((p0 <<< ((5 : Int32) &&& 31)) ||| ((p1 &&& (1 : Int32)) <<< ((4 : Int32) &&& 31))) ||| (p2 &&& (15 : Int32)))), .val (.ref b1), .val (.ref b3), .unset] [(.int (3 : Int32)), (.int (p2 &&& (15 : Int32)))])) t
      exact k
    by_cases hc87 : (p2 &&& (15 : Int32)) = (3 : Int32)
    · refine OweW.step (T' := T6) (g' := (mkF m 90 #[.val (.int p0), .val (.int p1), .val (.int p2), .val (.int p3), .val (.int (p1 &&& (1 : Int32))), .val (.int (p2 &&& (15 : Int32))), .val (.int (p0 <<< ((5 : Int32) &&& 31))), .val (.int (((p0 <<< ((5 : Int32) &&& 31)) ||| ((p1 &&& (1 : Int32)) <<< ((4 : Int32) &&& 31))) ||| (p2 &&& (15 : Int32)))), .val (.ref b1), .val (.ref b3), .unset] [])) (fun t k => ?_) ?_
      · show Steps p.tables e below (T6.setTop (mkF m 87 #[.val (.int p0), .val (.int p1), .val (.int p2), .val (.int p3), .val (.int (p1 &&& (1 : Int32))), .val (.int (p2 &&& (15 : Int32))), .val (.int (p0 <<< ((5 : Int32) &&& 31))), .val (.int (((p0 <<< ((5 : Int32) &&& 31)) ||| ((p1 &&& (1 : Int32)) <<< ((4 : Int32) &&& 31))) ||| (p2 &&& (15 : Int32)))), .val (.ref b1), .val (.ref b3), .unset] [(.int (3 : Int32)), (.int (p2 &&& (15 : Int32)))])) t
        refine XS.icmpNo X6.here hx rfl (hb hby at_87) rfl (teq hc87).2 ?_
        show Steps p.tables e below (T6.setTop (mkF m 90 #[.val (.int p0), .val (.int p1), .val (.int p2), .val (.int p3), .val (.int (p1 &&& (1 : Int32))), .val (.int (p2 &&& (15 : Int32))), .val (.int (p0 <<< ((5 : Int32) &&& 31))), .val (.int (((p0 <<< ((5 : Int32) &&& 31)) ||| ((p1 &&& (1 : Int32)) <<< ((4 : Int32) &&& 31))) ||| (p2 &&& (15 : Int32)))), .val (.ref b1), .val (.ref b3), .unset] [])) t
        exact k
      refine OweW.step (T' := T6) (g' := (mkF m 92 #[.val (.int p0), .val (.int p1), .val (.int p2), .val (.int p3), .val (.int (p1 &&& (1 : Int32))), .val (.int (p2 &&& (15 : Int32))), .val (.int (p0 <<< ((5 : Int32) &&& 31))), .val (.int (((p0 <<< ((5 : Int32) &&& 31)) ||| ((p1 &&& (1 : Int32)) <<< ((4 : Int32) &&& 31))) ||| (p2 &&& (15 : Int32)))), .val (.ref b1), .val (.ref b3), .unset] [(.int (p1 &&& (1 : Int32)))])) (fun t k => ?_) ?_
      · show Steps p.tables e below (T6.setTop (mkF m 90 #[.val (.int p0), .val (.int p1), .val (.int p2), .val (.int p3), .val (.int (p1 &&& (1 : Int32))), .val (.int (p2 &&& (15 : Int32))), .val (.int (p0 <<< ((5 : Int32) &&& 31))), .val (.int (((p0 <<< ((5 : Int32) &&& 31)) ||| ((p1 &&& (1 : Int32)) <<< ((4 : Int32) &&& 31))) ||| (p2 &&& (15 : Int32)))), .val (.ref b1), .val (.ref b3), .unset] [])) t
        refine XS.iload X6.here hx rfl (hb hby at_90) rfl ?_
        show Steps p.tables e below (T6.setTop (mkF m 92 #[.val (.int p0), .val (.int p1), .val (.int p2), .val (.int p3), .val (.int (p1 &&& (1 : Int32))), .val (.int (p2 &&& (15 : Int32))), .val (.int (p0 <<< ((5 : Int32) &&& 31))), .val (.int (((p0 <<< ((5 : Int32) &&& 31)) ||| ((p1 &&& (1 : Int32)) <<< ((4 : Int32) &&& 31))) ||| (p2 &&& (15 : Int32)))), .val (.ref b1), .val (.ref b3), .unset] [(.int (p1 &&& (1 : Int32)))])) t
        exact k
      have j105 : ∀ (T : State) (Lc : List Loc) (X : Stand p l e room_1 (s.setVm T6.vm) m #[(.int p0), (.int p1), (.int p2), (.int p3)] below meth c T Lc 6 28) (t105_0 : Int32) (eT : T.heap = h6) (N : Fr n0 Lc), OweW p e below s 24 1152 (QL (.int (own_f0_105 p0 p1 p2 t105_0)) n0) T (mkF m 105 #[.val (.int p0), .val (.int p1), .val (.int p2), .val (.int p3), .val (.int (p1 &&& (1 : Int32))), .val (.int (p2 &&& (15 : Int32))), .val (.int (p0 <<< ((5 : Int32) &&& 31))), .val (.int (((p0 <<< ((5 : Int32) &&& 31)) ||| ((p1 &&& (1 : Int32)) <<< ((4 : Int32) &&& 31))) ||| (p2 &&& (15 : Int32)))), .val (.ref b1), .val (.ref b3), .unset] [(.int t105_0)]) := by
        intro T105j Lc105j X105j t105_0 e105j N105j
        refine OweW.step (T' := T105j) (g' := (mkF m 113 #[.val (.int p0), .val (.int p1), .val (.int p2), .val (.int p3), .val (.int (p1 &&& (1 : Int32))), .val (.int (p2 &&& (15 : Int32))), .val (.int (p0 <<< ((5 : Int32) &&& 31))), .val (.int (((p0 <<< ((5 : Int32) &&& 31)) ||| ((p1 &&& (1 : Int32)) <<< ((4 : Int32) &&& 31))) ||| (p2 &&& (15 : Int32)))), .val (.ref b1), .val (.ref b3), .val (.int t105_0)] [])) (fun t k => ?_) ?_
        · show Steps p.tables e below (T105j.setTop (mkF m 105 #[.val (.int p0), .val (.int p1), .val (.int p2), .val (.int p3), .val (.int (p1 &&& (1 : Int32))), .val (.int (p2 &&& (15 : Int32))), .val (.int (p0 <<< ((5 : Int32) &&& 31))), .val (.int (((p0 <<< ((5 : Int32) &&& 31)) ||| ((p1 &&& (1 : Int32)) <<< ((4 : Int32) &&& 31))) ||| (p2 &&& (15 : Int32)))), .val (.ref b1), .val (.ref b3), .unset] [(.int t105_0)])) t
          refine XS.istore X105j.here hx rfl (hb hby at_105) rfl (l' := #[.val (.int p0), .val (.int p1), .val (.int p2), .val (.int p3), .val (.int (p1 &&& (1 : Int32))), .val (.int (p2 &&& (15 : Int32))), .val (.int (p0 <<< ((5 : Int32) &&& 31))), .val (.int (((p0 <<< ((5 : Int32) &&& 31)) ||| ((p1 &&& (1 : Int32)) <<< ((4 : Int32) &&& 31))) ||| (p2 &&& (15 : Int32)))), .val (.ref b1), .val (.ref b3), .val (.int t105_0)]) rfl ?_
          show Steps p.tables e below (T105j.setTop (mkF m 107 #[.val (.int p0), .val (.int p1), .val (.int p2), .val (.int p3), .val (.int (p1 &&& (1 : Int32))), .val (.int (p2 &&& (15 : Int32))), .val (.int (p0 <<< ((5 : Int32) &&& 31))), .val (.int (((p0 <<< ((5 : Int32) &&& 31)) ||| ((p1 &&& (1 : Int32)) <<< ((4 : Int32) &&& 31))) ||| (p2 &&& (15 : Int32)))), .val (.ref b1), .val (.ref b3), .val (.int t105_0)] [])) t
          refine XS.goto X105j.here hx rfl (pc0 := 107) (pc' := 113) rfl (hb hby at_107) (by decide) (by decide) ?_
          show Steps p.tables e below (T105j.setTop (mkF m 113 #[.val (.int p0), .val (.int p1), .val (.int p2), .val (.int p3), .val (.int (p1 &&& (1 : Int32))), .val (.int (p2 &&& (15 : Int32))), .val (.int (p0 <<< ((5 : Int32) &&& 31))), .val (.int (((p0 <<< ((5 : Int32) &&& 31)) ||| ((p1 &&& (1 : Int32)) <<< ((4 : Int32) &&& 31))) ||| (p2 &&& (15 : Int32)))), .val (.ref b1), .val (.ref b3), .val (.int t105_0)] [])) t
          exact k
        rw [show own_f0_105 p0 p1 p2 t105_0 = (own_f0_113 p0 p1 p2 t105_0) from rfl]
        exact j113 T105j _ X105j t105_0 e105j N105j
      have j104 : ∀ (T : State) (Lc : List Loc) (X : Stand p l e room_1 (s.setVm T6.vm) m #[(.int p0), (.int p1), (.int p2), (.int p3)] below meth c T Lc 6 28) (eT : T.heap = h6) (N : Fr n0 Lc), OweW p e below s 24 1152 (QL (.int (own_f0_104 p0 p1 p2)) n0) T (mkF m 104 #[.val (.int p0), .val (.int p1), .val (.int p2), .val (.int p3), .val (.int (p1 &&& (1 : Int32))), .val (.int (p2 &&& (15 : Int32))), .val (.int (p0 <<< ((5 : Int32) &&& 31))), .val (.int (((p0 <<< ((5 : Int32) &&& 31)) ||| ((p1 &&& (1 : Int32)) <<< ((4 : Int32) &&& 31))) ||| (p2 &&& (15 : Int32)))), .val (.ref b1), .val (.ref b3), .unset] []) := by
        intro T104j Lc104j X104j e104j N104j
        refine OweW.step (T' := T104j) (g' := (mkF m 105 #[.val (.int p0), .val (.int p1), .val (.int p2), .val (.int p3), .val (.int (p1 &&& (1 : Int32))), .val (.int (p2 &&& (15 : Int32))), .val (.int (p0 <<< ((5 : Int32) &&& 31))), .val (.int (((p0 <<< ((5 : Int32) &&& 31)) ||| ((p1 &&& (1 : Int32)) <<< ((4 : Int32) &&& 31))) ||| (p2 &&& (15 : Int32)))), .val (.ref b1), .val (.ref b3), .unset] [(.int (0 : Int32))])) (fun t k => ?_) ?_
        · show Steps p.tables e below (T104j.setTop (mkF m 104 #[.val (.int p0), .val (.int p1), .val (.int p2), .val (.int p3), .val (.int (p1 &&& (1 : Int32))), .val (.int (p2 &&& (15 : Int32))), .val (.int (p0 <<< ((5 : Int32) &&& 31))), .val (.int (((p0 <<< ((5 : Int32) &&& 31)) ||| ((p1 &&& (1 : Int32)) <<< ((4 : Int32) &&& 31))) ||| (p2 &&& (15 : Int32)))), .val (.ref b1), .val (.ref b3), .unset] [])) t
          refine XS.iconst X104j.here hx rfl (hb hby at_104) ?_
          show Steps p.tables e below (T104j.setTop (mkF m 105 #[.val (.int p0), .val (.int p1), .val (.int p2), .val (.int p3), .val (.int (p1 &&& (1 : Int32))), .val (.int (p2 &&& (15 : Int32))), .val (.int (p0 <<< ((5 : Int32) &&& 31))), .val (.int (((p0 <<< ((5 : Int32) &&& 31)) ||| ((p1 &&& (1 : Int32)) <<< ((4 : Int32) &&& 31))) ||| (p2 &&& (15 : Int32)))), .val (.ref b1), .val (.ref b3), .unset] [(.int (0 : Int32))])) t
          exact k
        rw [show own_f0_104 p0 p1 p2 = (own_f0_105 p0 p1 p2 (0 : Int32)) from rfl]
        exact j105 T104j _ X104j (0 : Int32) e104j N104j
      by_cases hc92 : (p1 &&& (1 : Int32)) = (0 : Int32)
      · refine OweW.step (T' := T6) (g' := (mkF m 95 #[.val (.int p0), .val (.int p1), .val (.int p2), .val (.int p3), .val (.int (p1 &&& (1 : Int32))), .val (.int (p2 &&& (15 : Int32))), .val (.int (p0 <<< ((5 : Int32) &&& 31))), .val (.int (((p0 <<< ((5 : Int32) &&& 31)) ||| ((p1 &&& (1 : Int32)) <<< ((4 : Int32) &&& 31))) ||| (p2 &&& (15 : Int32)))), .val (.ref b1), .val (.ref b3), .unset] [])) (fun t k => ?_) ?_
        · show Steps p.tables e below (T6.setTop (mkF m 92 #[.val (.int p0), .val (.int p1), .val (.int p2), .val (.int p3), .val (.int (p1 &&& (1 : Int32))), .val (.int (p2 &&& (15 : Int32))), .val (.int (p0 <<< ((5 : Int32) &&& 31))), .val (.int (((p0 <<< ((5 : Int32) &&& 31)) ||| ((p1 &&& (1 : Int32)) <<< ((4 : Int32) &&& 31))) ||| (p2 &&& (15 : Int32)))), .val (.ref b1), .val (.ref b3), .unset] [(.int (p1 &&& (1 : Int32)))])) t
          refine XS.ifNo X6.here hx rfl (hb hby at_92) rfl ((if0 _ _).trans (teq hc92).2) ?_
          show Steps p.tables e below (T6.setTop (mkF m 95 #[.val (.int p0), .val (.int p1), .val (.int p2), .val (.int p3), .val (.int (p1 &&& (1 : Int32))), .val (.int (p2 &&& (15 : Int32))), .val (.int (p0 <<< ((5 : Int32) &&& 31))), .val (.int (((p0 <<< ((5 : Int32) &&& 31)) ||| ((p1 &&& (1 : Int32)) <<< ((4 : Int32) &&& 31))) ||| (p2 &&& (15 : Int32)))), .val (.ref b1), .val (.ref b3), .unset] [])) t
          exact k
        refine OweW.step (T' := T6) (g' := (mkF m 97 #[.val (.int p0), .val (.int p1), .val (.int p2), .val (.int p3), .val (.int (p1 &&& (1 : Int32))), .val (.int (p2 &&& (15 : Int32))), .val (.int (p0 <<< ((5 : Int32) &&& 31))), .val (.int (((p0 <<< ((5 : Int32) &&& 31)) ||| ((p1 &&& (1 : Int32)) <<< ((4 : Int32) &&& 31))) ||| (p2 &&& (15 : Int32)))), .val (.ref b1), .val (.ref b3), .unset] [(.int (p0 <<< ((5 : Int32) &&& 31)))])) (fun t k => ?_) ?_
        · show Steps p.tables e below (T6.setTop (mkF m 95 #[.val (.int p0), .val (.int p1), .val (.int p2), .val (.int p3), .val (.int (p1 &&& (1 : Int32))), .val (.int (p2 &&& (15 : Int32))), .val (.int (p0 <<< ((5 : Int32) &&& 31))), .val (.int (((p0 <<< ((5 : Int32) &&& 31)) ||| ((p1 &&& (1 : Int32)) <<< ((4 : Int32) &&& 31))) ||| (p2 &&& (15 : Int32)))), .val (.ref b1), .val (.ref b3), .unset] [])) t
          refine XS.iload X6.here hx rfl (hb hby at_95) rfl ?_
          show Steps p.tables e below (T6.setTop (mkF m 97 #[.val (.int p0), .val (.int p1), .val (.int p2), .val (.int p3), .val (.int (p1 &&& (1 : Int32))), .val (.int (p2 &&& (15 : Int32))), .val (.int (p0 <<< ((5 : Int32) &&& 31))), .val (.int (((p0 <<< ((5 : Int32) &&& 31)) ||| ((p1 &&& (1 : Int32)) <<< ((4 : Int32) &&& 31))) ||| (p2 &&& (15 : Int32)))), .val (.ref b1), .val (.ref b3), .unset] [(.int (p0 <<< ((5 : Int32) &&& 31)))])) t
          exact k
        by_cases hc97 : (p0 <<< ((5 : Int32) &&& 31)) = (0 : Int32)
        · refine OweW.step (T' := T6) (g' := (mkF m 100 #[.val (.int p0), .val (.int p1), .val (.int p2), .val (.int p3), .val (.int (p1 &&& (1 : Int32))), .val (.int (p2 &&& (15 : Int32))), .val (.int (p0 <<< ((5 : Int32) &&& 31))), .val (.int (((p0 <<< ((5 : Int32) &&& 31)) ||| ((p1 &&& (1 : Int32)) <<< ((4 : Int32) &&& 31))) ||| (p2 &&& (15 : Int32)))), .val (.ref b1), .val (.ref b3), .unset] [])) (fun t k => ?_) ?_
          · show Steps p.tables e below (T6.setTop (mkF m 97 #[.val (.int p0), .val (.int p1), .val (.int p2), .val (.int p3), .val (.int (p1 &&& (1 : Int32))), .val (.int (p2 &&& (15 : Int32))), .val (.int (p0 <<< ((5 : Int32) &&& 31))), .val (.int (((p0 <<< ((5 : Int32) &&& 31)) ||| ((p1 &&& (1 : Int32)) <<< ((4 : Int32) &&& 31))) ||| (p2 &&& (15 : Int32)))), .val (.ref b1), .val (.ref b3), .unset] [(.int (p0 <<< ((5 : Int32) &&& 31)))])) t
            refine XS.ifNo X6.here hx rfl (hb hby at_97) rfl ((if0 _ _).trans (teq hc97).2) ?_
            show Steps p.tables e below (T6.setTop (mkF m 100 #[.val (.int p0), .val (.int p1), .val (.int p2), .val (.int p3), .val (.int (p1 &&& (1 : Int32))), .val (.int (p2 &&& (15 : Int32))), .val (.int (p0 <<< ((5 : Int32) &&& 31))), .val (.int (((p0 <<< ((5 : Int32) &&& 31)) ||| ((p1 &&& (1 : Int32)) <<< ((4 : Int32) &&& 31))) ||| (p2 &&& (15 : Int32)))), .val (.ref b1), .val (.ref b3), .unset] [])) t
            exact k
          refine OweW.step (T' := T6) (g' := (mkF m 105 #[.val (.int p0), .val (.int p1), .val (.int p2), .val (.int p3), .val (.int (p1 &&& (1 : Int32))), .val (.int (p2 &&& (15 : Int32))), .val (.int (p0 <<< ((5 : Int32) &&& 31))), .val (.int (((p0 <<< ((5 : Int32) &&& 31)) ||| ((p1 &&& (1 : Int32)) <<< ((4 : Int32) &&& 31))) ||| (p2 &&& (15 : Int32)))), .val (.ref b1), .val (.ref b3), .unset] [(.int (1 : Int32))])) (fun t k => ?_) ?_
          · show Steps p.tables e below (T6.setTop (mkF m 100 #[.val (.int p0), .val (.int p1), .val (.int p2), .val (.int p3), .val (.int (p1 &&& (1 : Int32))), .val (.int (p2 &&& (15 : Int32))), .val (.int (p0 <<< ((5 : Int32) &&& 31))), .val (.int (((p0 <<< ((5 : Int32) &&& 31)) ||| ((p1 &&& (1 : Int32)) <<< ((4 : Int32) &&& 31))) ||| (p2 &&& (15 : Int32)))), .val (.ref b1), .val (.ref b3), .unset] [])) t
            refine XS.iconst X6.here hx rfl (hb hby at_100) ?_
            show Steps p.tables e below (T6.setTop (mkF m 101 #[.val (.int p0), .val (.int p1), .val (.int p2), .val (.int p3), .val (.int (p1 &&& (1 : Int32))), .val (.int (p2 &&& (15 : Int32))), .val (.int (p0 <<< ((5 : Int32) &&& 31))), .val (.int (((p0 <<< ((5 : Int32) &&& 31)) ||| ((p1 &&& (1 : Int32)) <<< ((4 : Int32) &&& 31))) ||| (p2 &&& (15 : Int32)))), .val (.ref b1), .val (.ref b3), .unset] [(.int (1 : Int32))])) t
            refine XS.goto X6.here hx rfl (pc0 := 101) (pc' := 105) rfl (hb hby at_101) (by decide) (by decide) ?_
            show Steps p.tables e below (T6.setTop (mkF m 105 #[.val (.int p0), .val (.int p1), .val (.int p2), .val (.int p3), .val (.int (p1 &&& (1 : Int32))), .val (.int (p2 &&& (15 : Int32))), .val (.int (p0 <<< ((5 : Int32) &&& 31))), .val (.int (((p0 <<< ((5 : Int32) &&& 31)) ||| ((p1 &&& (1 : Int32)) <<< ((4 : Int32) &&& 31))) ||| (p2 &&& (15 : Int32)))), .val (.ref b1), .val (.ref b3), .unset] [(.int (1 : Int32))])) t
            exact k
          refine OweW.cast (show (own_f0_105 p0 p1 p2 (1 : Int32)) = (1 : Int32) from (show own_f0_0 p0 p1 p2 = (own_f0_105 p0 p1 p2 (1 : Int32)) from (by rw [own_f0_0, if_neg hc65, if_pos hc87, if_pos hc92, if_pos hc97])).symm.trans (own_law p0 p1 p2 p3 )) ?_
          exact j105 T6 _ X6 (1 : Int32) eh6 N6
        · refine OweW.step (T' := T6) (g' := (mkF m 104 #[.val (.int p0), .val (.int p1), .val (.int p2), .val (.int p3), .val (.int (p1 &&& (1 : Int32))), .val (.int (p2 &&& (15 : Int32))), .val (.int (p0 <<< ((5 : Int32) &&& 31))), .val (.int (((p0 <<< ((5 : Int32) &&& 31)) ||| ((p1 &&& (1 : Int32)) <<< ((4 : Int32) &&& 31))) ||| (p2 &&& (15 : Int32)))), .val (.ref b1), .val (.ref b3), .unset] [])) (fun t k => ?_) ?_
          · show Steps p.tables e below (T6.setTop (mkF m 97 #[.val (.int p0), .val (.int p1), .val (.int p2), .val (.int p3), .val (.int (p1 &&& (1 : Int32))), .val (.int (p2 &&& (15 : Int32))), .val (.int (p0 <<< ((5 : Int32) &&& 31))), .val (.int (((p0 <<< ((5 : Int32) &&& 31)) ||| ((p1 &&& (1 : Int32)) <<< ((4 : Int32) &&& 31))) ||| (p2 &&& (15 : Int32)))), .val (.ref b1), .val (.ref b3), .unset] [(.int (p0 <<< ((5 : Int32) &&& 31)))])) t
            refine XS.ifYes X6.here hx rfl (pc0 := 97) (pc' := 104) rfl (hb hby at_97) rfl ((if0 _ _).trans (feq hc97).2) (by decide) (by decide) ?_
            show Steps p.tables e below (T6.setTop (mkF m 104 #[.val (.int p0), .val (.int p1), .val (.int p2), .val (.int p3), .val (.int (p1 &&& (1 : Int32))), .val (.int (p2 &&& (15 : Int32))), .val (.int (p0 <<< ((5 : Int32) &&& 31))), .val (.int (((p0 <<< ((5 : Int32) &&& 31)) ||| ((p1 &&& (1 : Int32)) <<< ((4 : Int32) &&& 31))) ||| (p2 &&& (15 : Int32)))), .val (.ref b1), .val (.ref b3), .unset] [])) t
            exact k
          refine OweW.cast (show (own_f0_104 p0 p1 p2) = (1 : Int32) from (show own_f0_0 p0 p1 p2 = (own_f0_104 p0 p1 p2) from (by rw [own_f0_0, if_neg hc65, if_pos hc87, if_pos hc92, if_neg hc97])).symm.trans (own_law p0 p1 p2 p3 )) ?_
          exact j104 T6 _ X6 eh6 N6
      · refine OweW.step (T' := T6) (g' := (mkF m 104 #[.val (.int p0), .val (.int p1), .val (.int p2), .val (.int p3), .val (.int (p1 &&& (1 : Int32))), .val (.int (p2 &&& (15 : Int32))), .val (.int (p0 <<< ((5 : Int32) &&& 31))), .val (.int (((p0 <<< ((5 : Int32) &&& 31)) ||| ((p1 &&& (1 : Int32)) <<< ((4 : Int32) &&& 31))) ||| (p2 &&& (15 : Int32)))), .val (.ref b1), .val (.ref b3), .unset] [])) (fun t k => ?_) ?_
        · show Steps p.tables e below (T6.setTop (mkF m 92 #[.val (.int p0), .val (.int p1), .val (.int p2), .val (.int p3), .val (.int (p1 &&& (1 : Int32))), .val (.int (p2 &&& (15 : Int32))), .val (.int (p0 <<< ((5 : Int32) &&& 31))), .val (.int (((p0 <<< ((5 : Int32) &&& 31)) ||| ((p1 &&& (1 : Int32)) <<< ((4 : Int32) &&& 31))) ||| (p2 &&& (15 : Int32)))), .val (.ref b1), .val (.ref b3), .unset] [(.int (p1 &&& (1 : Int32)))])) t
          refine XS.ifYes X6.here hx rfl (pc0 := 92) (pc' := 104) rfl (hb hby at_92) rfl ((if0 _ _).trans (feq hc92).2) (by decide) (by decide) ?_
          show Steps p.tables e below (T6.setTop (mkF m 104 #[.val (.int p0), .val (.int p1), .val (.int p2), .val (.int p3), .val (.int (p1 &&& (1 : Int32))), .val (.int (p2 &&& (15 : Int32))), .val (.int (p0 <<< ((5 : Int32) &&& 31))), .val (.int (((p0 <<< ((5 : Int32) &&& 31)) ||| ((p1 &&& (1 : Int32)) <<< ((4 : Int32) &&& 31))) ||| (p2 &&& (15 : Int32)))), .val (.ref b1), .val (.ref b3), .unset] [])) t
          exact k
        refine OweW.cast (show (own_f0_104 p0 p1 p2) = (1 : Int32) from (show own_f0_0 p0 p1 p2 = (own_f0_104 p0 p1 p2) from (by rw [own_f0_0, if_neg hc65, if_pos hc87, if_neg hc92])).symm.trans (own_law p0 p1 p2 p3 )) ?_
        exact j104 T6 _ X6 eh6 N6
    · refine OweW.step (T' := T6) (g' := (mkF m 110 #[.val (.int p0), .val (.int p1), .val (.int p2), .val (.int p3), .val (.int (p1 &&& (1 : Int32))), .val (.int (p2 &&& (15 : Int32))), .val (.int (p0 <<< ((5 : Int32) &&& 31))), .val (.int (((p0 <<< ((5 : Int32) &&& 31)) ||| ((p1 &&& (1 : Int32)) <<< ((4 : Int32) &&& 31))) ||| (p2 &&& (15 : Int32)))), .val (.ref b1), .val (.ref b3), .unset] [])) (fun t k => ?_) ?_
      · show Steps p.tables e below (T6.setTop (mkF m 87 #[.val (.int p0), .val (.int p1), .val (.int p2), .val (.int p3), .val (.int (p1 &&& (1 : Int32))), .val (.int (p2 &&& (15 : Int32))), .val (.int (p0 <<< ((5 : Int32) &&& 31))), .val (.int (((p0 <<< ((5 : Int32) &&& 31)) ||| ((p1 &&& (1 : Int32)) <<< ((4 : Int32) &&& 31))) ||| (p2 &&& (15 : Int32)))), .val (.ref b1), .val (.ref b3), .unset] [(.int (3 : Int32)), (.int (p2 &&& (15 : Int32)))])) t
        refine XS.icmpYes X6.here hx rfl (pc0 := 87) (pc' := 110) rfl (hb hby at_87) rfl (feq hc87).2 (by decide) (by decide) ?_
        show Steps p.tables e below (T6.setTop (mkF m 110 #[.val (.int p0), .val (.int p1), .val (.int p2), .val (.int p3), .val (.int (p1 &&& (1 : Int32))), .val (.int (p2 &&& (15 : Int32))), .val (.int (p0 <<< ((5 : Int32) &&& 31))), .val (.int (((p0 <<< ((5 : Int32) &&& 31)) ||| ((p1 &&& (1 : Int32)) <<< ((4 : Int32) &&& 31))) ||| (p2 &&& (15 : Int32)))), .val (.ref b1), .val (.ref b3), .unset] [])) t
        exact k
      refine OweW.step (T' := T6) (g' := (mkF m 113 #[.val (.int p0), .val (.int p1), .val (.int p2), .val (.int p3), .val (.int (p1 &&& (1 : Int32))), .val (.int (p2 &&& (15 : Int32))), .val (.int (p0 <<< ((5 : Int32) &&& 31))), .val (.int (((p0 <<< ((5 : Int32) &&& 31)) ||| ((p1 &&& (1 : Int32)) <<< ((4 : Int32) &&& 31))) ||| (p2 &&& (15 : Int32)))), .val (.ref b1), .val (.ref b3), .val (.int (0 : Int32))] [])) (fun t k => ?_) ?_
      · show Steps p.tables e below (T6.setTop (mkF m 110 #[.val (.int p0), .val (.int p1), .val (.int p2), .val (.int p3), .val (.int (p1 &&& (1 : Int32))), .val (.int (p2 &&& (15 : Int32))), .val (.int (p0 <<< ((5 : Int32) &&& 31))), .val (.int (((p0 <<< ((5 : Int32) &&& 31)) ||| ((p1 &&& (1 : Int32)) <<< ((4 : Int32) &&& 31))) ||| (p2 &&& (15 : Int32)))), .val (.ref b1), .val (.ref b3), .unset] [])) t
        refine XS.iconst X6.here hx rfl (hb hby at_110) ?_
        show Steps p.tables e below (T6.setTop (mkF m 111 #[.val (.int p0), .val (.int p1), .val (.int p2), .val (.int p3), .val (.int (p1 &&& (1 : Int32))), .val (.int (p2 &&& (15 : Int32))), .val (.int (p0 <<< ((5 : Int32) &&& 31))), .val (.int (((p0 <<< ((5 : Int32) &&& 31)) ||| ((p1 &&& (1 : Int32)) <<< ((4 : Int32) &&& 31))) ||| (p2 &&& (15 : Int32)))), .val (.ref b1), .val (.ref b3), .unset] [(.int (0 : Int32))])) t
        refine XS.istore X6.here hx rfl (hb hby at_111) rfl (l' := #[.val (.int p0), .val (.int p1), .val (.int p2), .val (.int p3), .val (.int (p1 &&& (1 : Int32))), .val (.int (p2 &&& (15 : Int32))), .val (.int (p0 <<< ((5 : Int32) &&& 31))), .val (.int (((p0 <<< ((5 : Int32) &&& 31)) ||| ((p1 &&& (1 : Int32)) <<< ((4 : Int32) &&& 31))) ||| (p2 &&& (15 : Int32)))), .val (.ref b1), .val (.ref b3), .val (.int (0 : Int32))]) rfl ?_
        show Steps p.tables e below (T6.setTop (mkF m 113 #[.val (.int p0), .val (.int p1), .val (.int p2), .val (.int p3), .val (.int (p1 &&& (1 : Int32))), .val (.int (p2 &&& (15 : Int32))), .val (.int (p0 <<< ((5 : Int32) &&& 31))), .val (.int (((p0 <<< ((5 : Int32) &&& 31)) ||| ((p1 &&& (1 : Int32)) <<< ((4 : Int32) &&& 31))) ||| (p2 &&& (15 : Int32)))), .val (.ref b1), .val (.ref b3), .val (.int (0 : Int32))] [])) t
        exact k
      refine OweW.cast (show (own_f0_113 p0 p1 p2 (0 : Int32)) = (1 : Int32) from (show own_f0_0 p0 p1 p2 = (own_f0_113 p0 p1 p2 (0 : Int32)) from (by rw [own_f0_0, if_neg hc65, if_neg hc87])).symm.trans (own_law p0 p1 p2 p3 )) ?_
      exact j113 T6 _ X6 (0 : Int32) eh6 N6
set_option maxRecDepth 65536 in
set_option maxHeartbeats 40000000 in
theorem comes_1 {Post : Tables → Env → Array Value → State → Outcome → State → Prop} (hpost : ∀ tb e args s v u, (limb_1_1.after args s (.returned v) u = true ∧ limb_1_2.after args s (.returned v) u = true ∧ True) → ReturnedEndW s (.returned v) u (Jvm.fieldLocs frame_1_writes args s ++ Jvm.arrayLocs frame_1_arrays args s ++ Jvm.staticLocs frame_1_statics s) 24 1152 → Post tb e args s (.returned v) u) :
    ArmFor flags0 classFile x code maxLocals ret World_1 tables_1 room_1 Calls_1 rest_1 Pre_1 Post := by
  intro l hfl _ _ p e ha hc hk s m args below hf hA hF happ hP
  obtain ⟨hcalls, hrest, hpre⟩ := hP
  obtain ⟨-, -, -, hnamed, -, -, -, hat⟩ := (Spec.applies_iff hf).mp happ
  obtain ⟨hg, hn⟩ := and_e (Cond.before_iff.mp (show (Jvm.Cond.and given_1 narrow_1).before args s = true from hpre))
  obtain ⟨ga1, gb1⟩ := and_e hg
  obtain ⟨ga2, gb2⟩ := and_e gb1
  obtain ⟨ga3, gb3⟩ := and_e gb2
  obtain ⟨ga4, gb4⟩ := and_e gb3
  obtain ⟨w0, w1, w2, w3, rfl⟩ : ∃ w0 w1 w2 w3 : Value, args = #[w0, w1, w2, w3] := by
    have hs : args.size = 4 := by simpa [Cond.value, given_1] using ga1
    obtain ⟨L⟩ := args
    match L, hs with
    | [w0, w1, w2, w3], _ => exact ⟨w0, w1, w2, w3, rfl⟩
  have hw := fun d (hd : d ∈ tables_1) => atoms_spec (ws := Jvm.Cond.code x code maxLocals ret :: tables_1) hat d (List.mem_cons_of_mem _ hd)
  obtain ⟨hsets, hown0⟩ := atoms_of _ (rest_1_c_eq ▸ (show rest_1_c.before _ s = true from hrest))
  obtain ⟨i0, ei0⟩ := is_v ga2
  obtain rfl : w0 = (.int i0) := Option.some.inj ei0
  obtain ⟨i1, ei1⟩ := is_v ga3
  obtain rfl : w1 = (.int i1) := Option.some.inj ei1
  obtain ⟨i2, ei2⟩ := is_v ga4
  obtain rfl : w2 = (.int i2) := Option.some.inj ei2
  obtain ⟨i3, ei3⟩ := is_v gb4
  obtain rfl : w3 = (.int i3) := Option.some.inj ei3
  have n3 := not_v (Cond.before_iff.mp (hsets _ (List.mem_of_getElem? (i := 2) rfl)))
  obtain ⟨g1, eg1⟩ := is_v (Cond.before_iff.mp (hsets _ (List.mem_of_getElem? (i := 1) rfl)))
  have S8 : Sta s s.heap "java/lang/String" "COMPACT_STRINGS" "Z" (.int g1) := Sta.start eg1 (Or.inl (hsets _ (List.mem_of_getElem? (i := 0) rfl)))
  have c9 : ¬ (g1 = (0 : Int32)) := gotF (Cond.eq_ints eg1 (Term.int_eval (0))) n3
  obtain ⟨n, o, h1, h2, h3, _, L, rfl, ⟨rfl, N⟩, hq⟩ := own_rm0 l s _ hw tables_1 i0 i1 i2 i3 g1 s.heap s.heap.size (Nat.le_refl _) S8 c9 (Old.start s) p e ha hc hk s m _ below hf ((Spec.applies_iff_loose hf).mp happ).1 ⟨rfl, State.Warmed39.refl s, rfl⟩ trivial
  refine ⟨n, _, h1, h2, h3, hpost _ _ _ _ _ _ ⟨Cond.after_iff.mpr rfl, Cond.after_iff.mpr (eq_i res_at (Term.int_eval (1)) rfl), trivial⟩ ⟨hq.1, hq.2.1, hq.2.2.1, (hq.2.2.2.sift fun y hy => Or.inr (N y hy)).mono (by decide) (by decide)⟩⟩
theorem main_1_1 : Claimed_1_1 := comes_1 fun _ _ _ _ _ _ h hF => ⟨h.1, hF⟩
theorem main_1_2 : Claimed_1_2 := comes_1 fun _ _ _ _ _ _ h hF => ⟨h.2.1, hF⟩
end Jvm.Pilot.@@N@@
namespace Jvm.Pilot.@@N@@
open Jvm Jvm.ClassFile Sem Op Lib Jvm.Free Jvm.Stand Jvm.Pilot.@@N@@.Jvm.D
/-! MADE BY PROGRAM (witnessworld.py) out of the Statement's table words and the real class files: 22 classes; the members and pool entries that the words name. The judged class is class 1, her method 1. -/
namespace start1
open Jvm.ClassFile
def u (s : String) : CpInfo := .utf8 (stringToUtf16 s)
/-- a pool by its gaps: so many unusable entries, then the entry; so many at the end -/
def gap : Nat → List CpInfo → List CpInfo
  | 0, r => r
  | n + 1, r => .unusable :: gap n r
def poolList (es : List (Nat × CpInfo)) (last : Nat) : List CpInfo := es.foldr (fun e r => gap e.1 (e.2 :: r)) (gap last [])
def pool (es : List (Nat × CpInfo)) (last : Nat) : Array CpInfo := ⟨poolList es last⟩
def fileOf (pool : Array CpInfo) (this : Nat) (attrs : Array Attribute := #[]) (ms : Array MethodInfo := #[]) (fl : Nat := 33) (sup : Nat := 0) (ifs : Array Nat := #[]) (fds : Array FieldInfo := #[]) : ClassFile where
  minorVersion := 0
  majorVersion := 65
  constantPool := pool
  accessFlags := fl
  thisClass := this
  superClass := sup
  interfaces := ifs
  fields := fds
  methods := ms
  attributes := attrs
def plain (name : String) (sup : Option ClassId) : Class where
  name := name
  kind := .ordinary
  loader := none
  accessFlags := 33
  super := sup
  interfaces := #[]
  cf := none
  fields := #[]
  methods := #[]
  instanceTypes := #[]
  staticTypes := #[]
  resolved := #[]
  callSites := []
  init := .initialized
  statics := none
  mirror := none

def pool0 : Array CpInfo := pool [(5, u "<init>"), (0, u "()V"), (1, .class_ 10), (1, u "java/lang/Object")] 113

def k0c0 : Code := { maxStack := 0, maxLocals := 1, code := object_method_1_code, exceptionTable := #[], attributes := #[] }
def k0m0 : Method := { name := "<init>", desc := "()V", sig := { parameters := [], returnType := none }, accessFlags := 1, code := some k0c0 }
/-- java/lang/Object -/
def k0 : Class := { plain "java/lang/Object" none with
  accessFlags := 33
  interfaces := #[]
  cf := some (fileOf pool0 8 #[] #[{ accessFlags := 1, nameIndex := 5, descriptorIndex := 6, attributes := #[] }] 33 0 #[] #[])
  fields := #[]
  methods := #[k0m0]
  instanceTypes := #[]
  staticTypes := #[]
  resolved := Array.replicate 124 none
  statics := none }

def pool1 : Array CpInfo := pool [(2, .class_ 4), (1, u "java/lang/Object"), (0, u "<init>"), (0, u "()V"), (0, .class_ 8), (0, u "com/example/privlint/privlint/model/DeclaredPermission"), (0, .class_ 10), (0, u "java/lang/String"), (0, .methodref 9 12), (0, .nameAndType 5 13), (0, u "([C)V"), (0, .methodref 7 15), (0, .nameAndType 5 16), (0, u "(Ljava/lang/String;I)V"), (0, .methodref 7 18), (0, .nameAndType 19 20), (0, u "isPrivileged"), (0, u "()Z"), (0, .class_ 22), (0, u "com/example/privlint/privlint/model/DeclaredPermissionIsPrivilegedPinLaw"), (2, u "law"), (0, u "(IIII)Z")] 5

def k1m0 : Method := { name := "<init>", desc := "()V", sig := { parameters := [], returnType := none }, accessFlags := 1, code := none }
def k1c1 : Code := { maxStack := 5, maxLocals := 11, code := code, exceptionTable := #[], attributes := #[] }
def k1m1 : Method := { name := "law", desc := "(IIII)Z", sig := { parameters := [.int, .int, .int, .int], returnType := some .boolean }, accessFlags := 9, code := some k1c1 }
/-- com/example/privlint/privlint/model/DeclaredPermissionIsPrivilegedPinLaw -/
def k1 : Class := { plain "com/example/privlint/privlint/model/DeclaredPermissionIsPrivilegedPinLaw" (some 0) with
  accessFlags := 49
  interfaces := #[]
  cf := some (fileOf pool1 21 #[] #[{ accessFlags := 1, nameIndex := 5, descriptorIndex := 6, attributes := #[] }, { accessFlags := 9, nameIndex := 25, descriptorIndex := 26, attributes := #[] }] 49 2 #[] #[])
  fields := #[]
  methods := #[k1m0, k1m1]
  instanceTypes := #[]
  staticTypes := #[]
  resolved := Array.replicate 32 none
  statics := none }

def pool2 : Array CpInfo := pool [(1, .methodref 2 3), (0, .class_ 4), (0, .nameAndType 5 6), (0, u "java/lang/Object"), (0, u "<init>"), (0, u "()V"), (0, .class_ 8), (0, u "java/lang/Record")] 13

def k2c0 : Code := { maxStack := 1, maxLocals := 1, code := jdk_30_method_1_code, exceptionTable := #[], attributes := #[] }
def k2m0 : Method := { name := "<init>", desc := "()V", sig := { parameters := [], returnType := none }, accessFlags := 4, code := some k2c0 }
/-- java/lang/Record -/
def k2 : Class := { plain "java/lang/Record" (some 0) with
  accessFlags := 1057
  interfaces := #[]
  cf := some (fileOf pool2 7 #[] #[{ accessFlags := 4, nameIndex := 5, descriptorIndex := 6, attributes := #[] }] 1057 2 #[] #[])
  fields := #[]
  methods := #[k2m0]
  instanceTypes := #[]
  staticTypes := #[]
  resolved := Array.replicate 22 none
  statics := none }

def pool3 : Array CpInfo := pool [(1, .methodref 2 3), (0, .class_ 4), (0, .nameAndType 5 6), (0, u "java/lang/Record"), (0, u "<init>"), (0, u "()V"), (0, .string 8), (0, u "name"), (0, .methodref 10 11), (0, .class_ 12), (0, .nameAndType 13 14), (0, u "java/util/Objects"), (0, u "requireNonNull"), (0, u "(Ljava/lang/Object;Ljava/lang/String;)Ljava/lang/Object;"), (0, .fieldref 16 17), (0, .class_ 18), (0, .nameAndType 8 19), (0, u "com/example/privlint/privlint/model/DeclaredPermission"), (0, u "Ljava/lang/String;"), (0, .fieldref 16 21), (0, .nameAndType 22 23), (0, u "protectionLevel"), (0, u "I"), (12, u "MASK_BASE"), (2, u "BASE_SIGNATURE"), (1, u "FLAG_PRIVILEGED"), (1, u "SIGNATURE_OR_SYSTEM"), (1, u "(Ljava/lang/String;I)V"), (3, u "isPrivileged"), (0, u "()Z")] 25

def k3c0 : Code := { maxStack := 2, maxLocals := 3, code := prog_55_method_1_code, exceptionTable := #[], attributes := #[] }
def k3m0 : Method := { name := "<init>", desc := "(Ljava/lang/String;I)V", sig := { parameters := [(.object "java/lang/String"), .int], returnType := none }, accessFlags := 1, code := some k3c0 }
def k3c1 : Code := { maxStack := 2, maxLocals := 2, code := prog_55_method_2_code, exceptionTable := #[], attributes := #[] }
def k3m1 : Method := { name := "isPrivileged", desc := "()Z", sig := { parameters := [], returnType := some .boolean }, accessFlags := 1, code := some k3c1 }
/-- com/example/privlint/privlint/model/DeclaredPermission -/
def k3 : Class := { plain "com/example/privlint/privlint/model/DeclaredPermission" (some 2) with
  accessFlags := 49
  interfaces := #[]
  cf := some (fileOf pool3 16 #[] #[{ accessFlags := 1, nameIndex := 5, descriptorIndex := 45, attributes := #[] }, { accessFlags := 1, nameIndex := 49, descriptorIndex := 50, attributes := #[] }] 49 2 #[] #[{ accessFlags := 18, nameIndex := 8, descriptorIndex := 19, attributes := #[] }, { accessFlags := 18, nameIndex := 22, descriptorIndex := 23, attributes := #[] }, { accessFlags := 26, nameIndex := 36, descriptorIndex := 23, attributes := #[] }, { accessFlags := 26, nameIndex := 39, descriptorIndex := 23, attributes := #[] }, { accessFlags := 26, nameIndex := 41, descriptorIndex := 23, attributes := #[] }, { accessFlags := 26, nameIndex := 43, descriptorIndex := 23, attributes := #[] }])
  fields := #[{ name := "name", type := (.object "java/lang/String"), accessFlags := 18, slot := 0, constantValue := 0 }, { name := "protectionLevel", type := .int, accessFlags := 18, slot := 1, constantValue := 0 }, { name := "MASK_BASE", type := .int, accessFlags := 26, slot := 0, constantValue := 0 }, { name := "BASE_SIGNATURE", type := .int, accessFlags := 26, slot := 1, constantValue := 0 }, { name := "FLAG_PRIVILEGED", type := .int, accessFlags := 26, slot := 2, constantValue := 0 }, { name := "SIGNATURE_OR_SYSTEM", type := .int, accessFlags := 26, slot := 3, constantValue := 0 }]
  methods := #[k3m0, k3m1]
  instanceTypes := #[(.object "java/lang/String"), .int]
  staticTypes := #[.int, .int, .int, .int]
  resolved := Array.replicate 76 none
  statics := none }

def pool4 : Array CpInfo := pool [(1, .class_ 2), (0, u "java/io/Serializable"), (0, .class_ 4), (0, u "java/lang/Object")] 2

/-- java/io/Serializable -/
def k4 : Class := { plain "java/io/Serializable" (some 0) with
  accessFlags := 1537
  interfaces := #[]
  cf := some (fileOf pool4 1 #[] #[] 1537 3 #[] #[])
  fields := #[]
  methods := #[]
  instanceTypes := #[]
  staticTypes := #[]
  resolved := Array.replicate 7 none
  statics := none }

def pool5 : Array CpInfo := pool [(1, .class_ 2), (0, u "java/lang/Comparable"), (0, .class_ 4), (0, u "java/lang/Object")] 7

/-- java/lang/Comparable -/
def k5 : Class := { plain "java/lang/Comparable" (some 0) with
  accessFlags := 1537
  interfaces := #[]
  cf := some (fileOf pool5 1 #[] #[] 1537 3 #[] #[])
  fields := #[]
  methods := #[]
  instanceTypes := #[]
  staticTypes := #[]
  resolved := Array.replicate 12 none
  statics := none }

def pool6 : Array CpInfo := pool [(2, .class_ 4), (1, u "java/lang/CharSequence"), (42, .class_ 48), (0, u "java/lang/CharSequence$1CodePointIterator"), (10, .class_ 60), (0, u "java/lang/CharSequence$1CharIterator"), (5, .class_ 67), (0, u "java/lang/Object")] 63

/-- java/lang/CharSequence -/
def k6 : Class := { plain "java/lang/CharSequence" (some 0) with
  accessFlags := 1537
  interfaces := #[]
  cf := some (fileOf pool6 2 #[.nestMembers #[47, 59]] #[] 1537 66 #[] #[])
  fields := #[]
  methods := #[]
  instanceTypes := #[]
  staticTypes := #[]
  resolved := Array.replicate 131 none
  statics := none }

def pool7 : Array CpInfo := pool [(1, .class_ 2), (0, u "java/lang/constant/Constable"), (0, .class_ 4), (0, u "java/lang/Object")] 6

/-- java/lang/constant/Constable -/
def k7 : Class := { plain "java/lang/constant/Constable" (some 0) with
  accessFlags := 1537
  interfaces := #[]
  cf := some (fileOf pool7 1 #[] #[] 1537 3 #[] #[])
  fields := #[]
  methods := #[]
  instanceTypes := #[]
  staticTypes := #[]
  resolved := Array.replicate 11 none
  statics := none }

def pool8 : Array CpInfo := pool [(1, .class_ 2), (0, u "java/lang/constant/ConstantDesc"), (0, .class_ 4), (0, u "java/lang/Object")] 32

/-- java/lang/constant/ConstantDesc -/
def k8 : Class := { plain "java/lang/constant/ConstantDesc" (some 0) with
  accessFlags := 1537
  interfaces := #[]
  cf := some (fileOf pool8 1 #[] #[] 1537 3 #[] #[])
  fields := #[]
  methods := #[]
  instanceTypes := #[]
  staticTypes := #[]
  resolved := Array.replicate 37 none
  statics := none }

def pool9 : Array CpInfo := pool [(1, .methodref 2 3), (0, .class_ 4), (0, .nameAndType 5 6), (0, u "java/lang/Object"), (0, u "<init>"), (0, u "()V"), (2, .fieldref 10 11), (0, .class_ 12), (0, .nameAndType 13 14), (0, u "java/lang/String"), (0, u "value"), (0, u "[B"), (0, .fieldref 10 16), (0, .nameAndType 17 18), (0, u "coder"), (0, u "B"), (2, u "hash"), (0, u "I"), (2, u "hashIsZero"), (0, u "Z"), (0, .methodref 10 28), (0, .nameAndType 5 29), (0, u "([CIILjava/lang/Void;)V"), (8, .fieldref 10 39), (0, .nameAndType 40 26), (0, u "COMPACT_STRINGS"), (1, .class_ 44), (1, u "java/lang/StringUTF16"), (0, u "compress"), (1, .methodref 42 48), (0, .nameAndType 49 50), (0, u "coderFromArrayLen"), (0, u "([BI)B"), (126, .methodref 42 178), (0, .nameAndType 45 179), (0, u "([CII)[B"), (395, .class_ 576), (0, u "java/lang/CharSequence"), (22, u "CASE_INSENSITIVE_ORDER"), (0, u "Ljava/util/Comparator;"), (409, u "([C)V"), (90, u "serialPersistentFields"), (0, u "[Ljava/io/ObjectStreamField;"), (0, .class_ 1104), (0, u "java/lang/String$CaseInsensitiveComparator"), (1, .class_ 1107), (0, u "java/io/Serializable"), (0, .class_ 1109), (0, u "java/lang/Comparable"), (0, .class_ 1111), (0, u "java/lang/constant/Constable"), (0, .class_ 1113), (0, u "java/lang/constant/ConstantDesc"), (2, u "serialVersionUID"), (0, u "J"), (3, u "REPL"), (0, u "C"), (2, u "LATIN1"), (1, u "UTF16")] 323

def k9m0 : Method := { name := "<init>", desc := "()V", sig := { parameters := [], returnType := none }, accessFlags := 1, code := none }
def k9c1 : Code := { maxStack := 5, maxLocals := 2, code := jdk_42_method_3_code, exceptionTable := #[], attributes := #[] }
def k9m1 : Method := { name := "<init>", desc := "([C)V", sig := { parameters := [(.array .char)], returnType := none }, accessFlags := 1, code := some k9c1 }
def k9c2 : Code := { maxStack := 4, maxLocals := 6, code := jdk_42_method_149_code, exceptionTable := #[], attributes := #[] }
def k9m2 : Method := { name := "<init>", desc := "([CIILjava/lang/Void;)V", sig := { parameters := [(.array .char), .int, .int, (.object "java/lang/Void")], returnType := none }, accessFlags := 2, code := some k9c2 }
/-- java/lang/String -/
def k9 : Class := { plain "java/lang/String" (some 0) with
  accessFlags := 49
  interfaces := #[4, 5, 6, 7, 8]
  cf := some (fileOf pool9 10 #[.nestMembers #[1103]] #[{ accessFlags := 1, nameIndex := 5, descriptorIndex := 6, attributes := #[] }, { accessFlags := 1, nameIndex := 5, descriptorIndex := 1010, attributes := #[] }, { accessFlags := 2, nameIndex := 5, descriptorIndex := 29, attributes := #[] }] 49 2 #[1106, 1108, 575, 1110, 1112] #[{ accessFlags := 18, nameIndex := 13, descriptorIndex := 14, attributes := #[] }, { accessFlags := 18, nameIndex := 17, descriptorIndex := 18, attributes := #[] }, { accessFlags := 2, nameIndex := 21, descriptorIndex := 22, attributes := #[] }, { accessFlags := 2, nameIndex := 25, descriptorIndex := 26, attributes := #[] }, { accessFlags := 26, nameIndex := 1116, descriptorIndex := 1117, attributes := #[] }, { accessFlags := 24, nameIndex := 40, descriptorIndex := 26, attributes := #[] }, { accessFlags := 26, nameIndex := 1101, descriptorIndex := 1102, attributes := #[] }, { accessFlags := 26, nameIndex := 1121, descriptorIndex := 1122, attributes := #[] }, { accessFlags := 25, nameIndex := 599, descriptorIndex := 600, attributes := #[] }, { accessFlags := 24, nameIndex := 1125, descriptorIndex := 18, attributes := #[] }, { accessFlags := 24, nameIndex := 1127, descriptorIndex := 18, attributes := #[] }])
  fields := #[{ name := "value", type := (.array .byte), accessFlags := 18, slot := 0, constantValue := 0 }, { name := "coder", type := .byte, accessFlags := 18, slot := 1, constantValue := 0 }, { name := "hash", type := .int, accessFlags := 2, slot := 2, constantValue := 0 }, { name := "hashIsZero", type := .boolean, accessFlags := 2, slot := 3, constantValue := 0 }, { name := "serialVersionUID", type := .long, accessFlags := 26, slot := 0, constantValue := 0 }, { name := "COMPACT_STRINGS", type := .boolean, accessFlags := 24, slot := 1, constantValue := 0 }, { name := "serialPersistentFields", type := (.array (.object "java/io/ObjectStreamField")), accessFlags := 26, slot := 2, constantValue := 0 }, { name := "REPL", type := .char, accessFlags := 26, slot := 3, constantValue := 0 }, { name := "CASE_INSENSITIVE_ORDER", type := (.object "java/util/Comparator"), accessFlags := 25, slot := 4, constantValue := 0 }, { name := "LATIN1", type := .byte, accessFlags := 24, slot := 5, constantValue := 0 }, { name := "UTF16", type := .byte, accessFlags := 24, slot := 6, constantValue := 0 }]
  methods := #[k9m0, k9m1, k9m2]
  instanceTypes := #[(.array .byte), .byte, .int, .boolean]
  staticTypes := #[.long, .boolean, (.array (.object "java/io/ObjectStreamField")), .char, (.object "java/util/Comparator"), .byte, .byte]
  resolved := Array.replicate 1451 none
  statics := some 0 }

def pool10 : Array CpInfo := pool [(6, .class_ 8), (1, u "java/lang/Object"), (0, u "<init>"), (0, u "()V"), (1, .class_ 14), (1, u "java/lang/StringUTF16"), (31, u "$assertionsDisabled"), (0, u "Z"), (13, u "HI_BYTE_SHIFT"), (0, u "I"), (2, u "LO_BYTE_SHIFT"), (49, .methodref 12 116), (0, .nameAndType 117 118), (0, u "compress"), (0, u "([CI[BII)I"), (3, u "([CII)[B"), (138, u "coderFromArrayLen"), (0, u "([BI)B"), (106, .class_ 371), (1, u "java/lang/StringUTF16$LinesSpliterator"), (58, u "MAX_LENGTH"), (196, .class_ 628), (0, u "java/lang/StringUTF16$CodePointsSpliterator"), (0, .class_ 630), (0, u "java/lang/StringUTF16$CharsSpliterator")] 4

def k10m0 : Method := { name := "<init>", desc := "()V", sig := { parameters := [], returnType := none }, accessFlags := 0, code := none }
def k10c1 : Code := { maxStack := 2, maxLocals := 2, code := jdk_52_method_15_code, exceptionTable := #[], attributes := #[] }
def k10m1 : Method := { name := "coderFromArrayLen", desc := "([BI)B", sig := { parameters := [(.array .byte), .int], returnType := some .byte }, accessFlags := 8, code := some k10c1 }
def k10c2 : Code := { maxStack := 5, maxLocals := 6, code := jdk_52_method_16_code, exceptionTable := #[], attributes := #[] }
def k10m2 : Method := { name := "compress", desc := "([CII)[B", sig := { parameters := [(.array .char), .int, .int], returnType := some (.array .byte) }, accessFlags := 9, code := some k10c2 }
def k10c3 : Code := { maxStack := 3, maxLocals := 7, code := jdk_52_method_21_code, exceptionTable := #[], attributes := #[] }
def k10m3 : Method := { name := "compress", desc := "([CI[BII)I", sig := { parameters := [(.array .char), .int, (.array .byte), .int, .int], returnType := some .int }, accessFlags := 9, code := some k10c3 }
/-- java/lang/StringUTF16 -/
def k10 : Class := { plain "java/lang/StringUTF16" (some 0) with
  accessFlags := 48
  interfaces := #[]
  cf := some (fileOf pool10 12 #[.nestMembers #[627, 629, 369]] #[{ accessFlags := 0, nameIndex := 9, descriptorIndex := 10, attributes := #[] }, { accessFlags := 8, nameIndex := 261, descriptorIndex := 262, attributes := #[] }, { accessFlags := 9, nameIndex := 117, descriptorIndex := 122, attributes := #[] }, { accessFlags := 9, nameIndex := 117, descriptorIndex := 118, attributes := #[] }] 48 6 #[] #[{ accessFlags := 26, nameIndex := 61, descriptorIndex := 62, attributes := #[] }, { accessFlags := 26, nameIndex := 65, descriptorIndex := 62, attributes := #[] }, { accessFlags := 24, nameIndex := 430, descriptorIndex := 62, attributes := #[] }, { accessFlags := 4120, nameIndex := 46, descriptorIndex := 47, attributes := #[] }])
  fields := #[{ name := "HI_BYTE_SHIFT", type := .int, accessFlags := 26, slot := 0, constantValue := 0 }, { name := "LO_BYTE_SHIFT", type := .int, accessFlags := 26, slot := 1, constantValue := 0 }, { name := "MAX_LENGTH", type := .int, accessFlags := 24, slot := 2, constantValue := 0 }, { name := "$assertionsDisabled", type := .boolean, accessFlags := 4120, slot := 3, constantValue := 0 }]
  methods := #[k10m0, k10m1, k10m2, k10m3]
  instanceTypes := #[]
  staticTypes := #[.int, .int, .int, .boolean]
  resolved := Array.replicate 635 none
  statics := none }

def pool11 : Array CpInfo := pool [(2, .class_ 4), (1, u "java/lang/Object"), (0, u "<init>"), (0, u "()V"), (35, .class_ 44), (1, u "java/util/Objects"), (0, u "requireNonNull"), (48, u "(Ljava/lang/Object;Ljava/lang/String;)Ljava/lang/Object;")] 89

def k11m0 : Method := { name := "<init>", desc := "()V", sig := { parameters := [], returnType := none }, accessFlags := 2, code := none }
def k11c1 : Code := { maxStack := 3, maxLocals := 2, code := jdk_31_method_11_code, exceptionTable := #[], attributes := #[] }
def k11m1 : Method := { name := "requireNonNull", desc := "(Ljava/lang/Object;Ljava/lang/String;)Ljava/lang/Object;", sig := { parameters := [(.object "java/lang/Object"), (.object "java/lang/String")], returnType := some (.object "java/lang/Object") }, accessFlags := 9, code := some k11c1 }
/-- java/util/Objects -/
def k11 : Class := { plain "java/util/Objects" (some 0) with
  accessFlags := 49
  interfaces := #[]
  cf := some (fileOf pool11 42 #[] #[{ accessFlags := 2, nameIndex := 5, descriptorIndex := 6, attributes := #[] }, { accessFlags := 9, nameIndex := 45, descriptorIndex := 94, attributes := #[] }] 49 2 #[] #[])
  fields := #[]
  methods := #[k11m0, k11m1]
  instanceTypes := #[]
  staticTypes := #[]
  resolved := Array.replicate 184 none
  statics := none }

def pool12 : Array CpInfo := pool [(4, .class_ 6), (1, u "java/lang/Object"), (0, u "<init>"), (0, u "()V"), (5, .class_ 16), (1, u "java/lang/StringLatin1"), (104, u "$assertionsDisabled"), (0, u "Z"), (98, .class_ 223), (1, u "java/lang/StringLatin1$LinesSpliterator"), (166, .class_ 391), (0, u "java/lang/StringLatin1$CharsSpliterator")] 3

def k12m0 : Method := { name := "<init>", desc := "()V", sig := { parameters := [], returnType := none }, accessFlags := 0, code := none }
/-- java/lang/StringLatin1 -/
def k12 : Class := { plain "java/lang/StringLatin1" (some 0) with
  accessFlags := 48
  interfaces := #[]
  cf := some (fileOf pool12 14 #[.nestMembers #[390, 221]] #[{ accessFlags := 0, nameIndex := 7, descriptorIndex := 8, attributes := #[] }] 48 4 #[] #[{ accessFlags := 4120, nameIndex := 121, descriptorIndex := 122, attributes := #[] }])
  fields := #[{ name := "$assertionsDisabled", type := .boolean, accessFlags := 4120, slot := 0, constantValue := 0 }]
  methods := #[k12m0]
  instanceTypes := #[]
  staticTypes := #[.boolean]
  resolved := Array.replicate 395 none
  statics := none }

def pool13 : Array CpInfo := pool [(2, .class_ 4), (1, u "java/lang/Object"), (0, u "<init>"), (0, u "()V"), (17, .class_ 26), (1, u "jdk/internal/util/Preconditions"), (28, .class_ 56), (0, u "jdk/internal/util/Preconditions$4"), (57, .class_ 115), (0, u "jdk/internal/util/Preconditions$1"), (7, u "SIOOBE_FORMATTER"), (0, u "Ljava/util/function/BiFunction;"), (0, .class_ 126), (0, u "jdk/internal/util/Preconditions$2"), (3, u "AIOOBE_FORMATTER"), (0, .class_ 132), (0, u "jdk/internal/util/Preconditions$3"), (3, u "IOOBE_FORMATTER")] 57

def k13m0 : Method := { name := "<init>", desc := "()V", sig := { parameters := [], returnType := none }, accessFlags := 1, code := none }
/-- jdk/internal/util/Preconditions -/
def k13 : Class := { plain "jdk/internal/util/Preconditions" (some 0) with
  accessFlags := 33
  interfaces := #[]
  cf := some (fileOf pool13 24 #[.nestMembers #[55, 131, 125, 114]] #[{ accessFlags := 1, nameIndex := 5, descriptorIndex := 6, attributes := #[] }] 33 2 #[] #[{ accessFlags := 25, nameIndex := 123, descriptorIndex := 124, attributes := #[] }, { accessFlags := 25, nameIndex := 130, descriptorIndex := 124, attributes := #[] }, { accessFlags := 25, nameIndex := 136, descriptorIndex := 124, attributes := #[] }])
  fields := #[{ name := "SIOOBE_FORMATTER", type := (.object "java/util/function/BiFunction"), accessFlags := 25, slot := 0, constantValue := 0 }, { name := "AIOOBE_FORMATTER", type := (.object "java/util/function/BiFunction"), accessFlags := 25, slot := 1, constantValue := 0 }, { name := "IOOBE_FORMATTER", type := (.object "java/util/function/BiFunction"), accessFlags := 25, slot := 2, constantValue := 0 }]
  methods := #[k13m0]
  instanceTypes := #[]
  staticTypes := #[(.object "java/util/function/BiFunction"), (.object "java/util/function/BiFunction"), (.object "java/util/function/BiFunction")]
  resolved := Array.replicate 194 none
  statics := some 1 }

def pool14 : Array CpInfo := pool [(9, u "<init>"), (6, .class_ 18), (1, u "java/lang/Object"), (0, u "()V"), (1, .class_ 23), (1, u "jdk/internal/util/ArraysSupport"), (0, u "LOG2_ARRAY_LONG_INDEX_SCALE"), (0, u "I"), (2, u "U"), (0, u "Ljdk/internal/misc/Unsafe;"), (8, u "BIG_ENDIAN"), (0, u "Z"), (8, u "LOG2_BYTE_BIT_SIZE"), (4, u "LOG2_ARRAY_INT_INDEX_SCALE"), (54, u "JLA"), (0, u "Ljdk/internal/access/JavaLangAccess;"), (11, u "LOG2_ARRAY_BOOLEAN_INDEX_SCALE"), (9, u "LOG2_ARRAY_BYTE_INDEX_SCALE"), (5, u "LOG2_ARRAY_CHAR_INDEX_SCALE"), (5, u "LOG2_ARRAY_SHORT_INDEX_SCALE"), (18, u "LOG2_ARRAY_FLOAT_INDEX_SCALE"), (24, u "LOG2_ARRAY_DOUBLE_INDEX_SCALE"), (89, u "T_BOOLEAN"), (2, u "T_CHAR"), (1, u "T_FLOAT"), (1, u "T_DOUBLE"), (1, u "T_BYTE"), (1, u "T_SHORT"), (1, u "T_INT"), (1, u "T_LONG"), (1, u "SOFT_MAX_ARRAY_LENGTH")] 83

def k14m0 : Method := { name := "<init>", desc := "()V", sig := { parameters := [], returnType := none }, accessFlags := 2, code := none }
/-- jdk/internal/util/ArraysSupport -/
def k14 : Class := { plain "jdk/internal/util/ArraysSupport" (some 0) with
  accessFlags := 33
  interfaces := #[]
  cf := some (fileOf pool14 21 #[] #[{ accessFlags := 2, nameIndex := 9, descriptorIndex := 19, attributes := #[] }] 33 16 #[] #[{ accessFlags := 24, nameIndex := 28, descriptorIndex := 29, attributes := #[] }, { accessFlags := 26, nameIndex := 38, descriptorIndex := 39, attributes := #[] }, { accessFlags := 25, nameIndex := 121, descriptorIndex := 25, attributes := #[] }, { accessFlags := 25, nameIndex := 131, descriptorIndex := 25, attributes := #[] }, { accessFlags := 25, nameIndex := 137, descriptorIndex := 25, attributes := #[] }, { accessFlags := 25, nameIndex := 143, descriptorIndex := 25, attributes := #[] }, { accessFlags := 25, nameIndex := 53, descriptorIndex := 25, attributes := #[] }, { accessFlags := 25, nameIndex := 24, descriptorIndex := 25, attributes := #[] }, { accessFlags := 25, nameIndex := 162, descriptorIndex := 25, attributes := #[] }, { accessFlags := 25, nameIndex := 187, descriptorIndex := 25, attributes := #[] }, { accessFlags := 26, nameIndex := 48, descriptorIndex := 25, attributes := #[] }, { accessFlags := 25, nameIndex := 277, descriptorIndex := 25, attributes := #[] }, { accessFlags := 25, nameIndex := 280, descriptorIndex := 25, attributes := #[] }, { accessFlags := 25, nameIndex := 282, descriptorIndex := 25, attributes := #[] }, { accessFlags := 25, nameIndex := 284, descriptorIndex := 25, attributes := #[] }, { accessFlags := 25, nameIndex := 286, descriptorIndex := 25, attributes := #[] }, { accessFlags := 25, nameIndex := 288, descriptorIndex := 25, attributes := #[] }, { accessFlags := 25, nameIndex := 290, descriptorIndex := 25, attributes := #[] }, { accessFlags := 25, nameIndex := 292, descriptorIndex := 25, attributes := #[] }, { accessFlags := 26, nameIndex := 108, descriptorIndex := 109, attributes := #[] }, { accessFlags := 25, nameIndex := 294, descriptorIndex := 25, attributes := #[] }])
  fields := #[{ name := "U", type := (.object "jdk/internal/misc/Unsafe"), accessFlags := 24, slot := 0, constantValue := 0 }, { name := "BIG_ENDIAN", type := .boolean, accessFlags := 26, slot := 1, constantValue := 0 }, { name := "LOG2_ARRAY_BOOLEAN_INDEX_SCALE", type := .int, accessFlags := 25, slot := 2, constantValue := 0 }, { name := "LOG2_ARRAY_BYTE_INDEX_SCALE", type := .int, accessFlags := 25, slot := 3, constantValue := 0 }, { name := "LOG2_ARRAY_CHAR_INDEX_SCALE", type := .int, accessFlags := 25, slot := 4, constantValue := 0 }, { name := "LOG2_ARRAY_SHORT_INDEX_SCALE", type := .int, accessFlags := 25, slot := 5, constantValue := 0 }, { name := "LOG2_ARRAY_INT_INDEX_SCALE", type := .int, accessFlags := 25, slot := 6, constantValue := 0 }, { name := "LOG2_ARRAY_LONG_INDEX_SCALE", type := .int, accessFlags := 25, slot := 7, constantValue := 0 }, { name := "LOG2_ARRAY_FLOAT_INDEX_SCALE", type := .int, accessFlags := 25, slot := 8, constantValue := 0 }, { name := "LOG2_ARRAY_DOUBLE_INDEX_SCALE", type := .int, accessFlags := 25, slot := 9, constantValue := 0 }, { name := "LOG2_BYTE_BIT_SIZE", type := .int, accessFlags := 26, slot := 10, constantValue := 0 }, { name := "T_BOOLEAN", type := .int, accessFlags := 25, slot := 11, constantValue := 0 }, { name := "T_CHAR", type := .int, accessFlags := 25, slot := 12, constantValue := 0 }, { name := "T_FLOAT", type := .int, accessFlags := 25, slot := 13, constantValue := 0 }, { name := "T_DOUBLE", type := .int, accessFlags := 25, slot := 14, constantValue := 0 }, { name := "T_BYTE", type := .int, accessFlags := 25, slot := 15, constantValue := 0 }, { name := "T_SHORT", type := .int, accessFlags := 25, slot := 16, constantValue := 0 }, { name := "T_INT", type := .int, accessFlags := 25, slot := 17, constantValue := 0 }, { name := "T_LONG", type := .int, accessFlags := 25, slot := 18, constantValue := 0 }, { name := "JLA", type := (.object "jdk/internal/access/JavaLangAccess"), accessFlags := 26, slot := 19, constantValue := 0 }, { name := "SOFT_MAX_ARRAY_LENGTH", type := .int, accessFlags := 25, slot := 20, constantValue := 0 }]
  methods := #[k14m0]
  instanceTypes := #[]
  staticTypes := #[(.object "jdk/internal/misc/Unsafe"), .boolean, .int, .int, .int, .int, .int, .int, .int, .int, .int, .int, .int, .int, .int, .int, .int, .int, .int, (.object "jdk/internal/access/JavaLangAccess"), .int]
  resolved := Array.replicate 378 none
  statics := none }

def pool15 : Array CpInfo := pool [(1, u "java/lang/Cloneable"), (0, .class_ 1), (0, u "java/lang/Object"), (0, .class_ 3)] 3

/-- java/lang/Cloneable -/
def k15 : Class := { plain "java/lang/Cloneable" (some 0) with
  accessFlags := 1537
  interfaces := #[]
  cf := some (fileOf pool15 2 #[] #[] 1537 4 #[] #[])
  fields := #[]
  methods := #[]
  instanceTypes := #[]
  staticTypes := #[]
  resolved := Array.replicate 8 none
  statics := none }

/-- the primitive byte -/
def k16 : Class := { plain "byte" none with kind := .primitive 'B', accessFlags := 0x411 }
/-- [B -/
def k17 : Class := { plain "[B" (some 0) with kind := .array 16 .byte, interfaces := #[15, 4], accessFlags := 1041 }

/-- the primitive char -/
def k18 : Class := { plain "char" none with kind := .primitive 'C', accessFlags := 0x411 }
/-- [C -/
def k19 : Class := { plain "[C" (some 0) with kind := .array 18 .char, interfaces := #[15, 4], accessFlags := 1041 }

/-- the primitive int -/
def k20 : Class := { plain "int" none with kind := .primitive 'I', accessFlags := 0x411 }
/-- [I -/
def k21 : Class := { plain "[I" (some 0) with kind := .array 20 .int, interfaces := #[15, 4], accessFlags := 1041 }

def heap : Heap := #[{ cls := 9, slots := #[.long 0, .int 1, .null, .int 0, .null, .int 0, .int 0], vm := .statics 9 },
  { cls := 13, slots := #[.null, .null, .null], vm := .statics 13 }]
def classes : Array Class := #[k0, k1, k2, k3, k4, k5, k6, k7, k8, k9, k10, k11, k12, k13, k14, k15, k16, k17, k18, k19, k20, k21]
def interned : List (Array UInt16 × Addr) := []
def slotsUsed : Nat := 10
def theMethod : MethodId := ⟨1, 1⟩
def args0 : Array Value := #[.int 5, .int 3, .int 9, .int 65]
def aboutOver (below : List Frame) : State where
  vm := { classes := classes, interned := interned.toArray }
  heap := heap
  slotsUsed := slotsUsed
  threads := #[{ frames := .invoking theMethod args0 :: below }]
def below0 : List Frame := [.native { method := ⟨0, 0⟩, args := #[] }]
def about1 : State := aboutOver below0
def p0 : Program := .bare "" "" ""
def e0 : Env := launch0.env 0 0 0
theorem w_frames : about1.frames = Frame.invoking theMethod args0 :: below0 := rfl
set_option maxRecDepth 65536 in
theorem w_args : argsFit about1.vm theMethod args0 = true := by decide +kernel
set_option maxRecDepth 65536 in
theorem w_heap : heapFits about1 = true := by decide +kernel
set_option maxRecDepth 65536 in
theorem w_runnable : about1.curStatus? = some .runnable := by decide +kernel
set_option maxRecDepth 65536 in
theorem w_alone : about1.alone = true := by decide +kernel
set_option maxRecDepth 65536 in
theorem w_named : about1.methodNamed? x = some theMethod := by decide +kernel
set_option maxRecDepth 65536 in
theorem w_hears : about1.hears theMethod below0 = true := by decide +kernel
set_option maxRecDepth 65536 in
theorem w_ripe : about1.ripe theMethod args0 below0 = true := by decide +kernel
theorem w_running : about1.status = .running := rfl
set_option maxRecDepth 65536 in
theorem w_room : about1.hasRoom e0.platform room_1 = true :=
  launch0.hasRoom_least _ room_1 (by decide +kernel) (by decide +kernel) (by decide +kernel) (by decide +kernel) (by decide +kernel) (by decide +kernel)
theorem allAtoms_all (ts : List Jvm.Cond) (a : Array Jvm.Value) (st : Jvm.State) : (allAtoms ts).before a st = ts.all (fun c => c.before a st) := by
  induction ts with
  | nil => rfl
  | cons c t ih =>
    show (Jvm.Cond.and c (allAtoms t)).before a st = _
    rw [Jvm.Cond.before_and, ih, List.all_cons]
def words1 : List Jvm.Cond := Jvm.Cond.code x code maxLocals ret :: tables_1
/-- a 'code' word, met by the world's own term for the bytes: nothing is compared byte by byte -/
theorem code_word {y : MethodName} {bytes : ByteArray} {mx : Nat} {rt : Option FieldType} {a : Array Value} {s : State} {m : MethodId} {meth : Method} {c : Code} (h1 : s.methodNamed? y = some m) (h2 : s.vm.method? m = some meth) (h3 : meth.code = some c) (h4 : c.code = bytes)
    (h5 : (c.maxLocals == mx && c.exceptionTable.isEmpty && decide (c.maxStack ≤ mostOperands) && decide (meth.sig.returnType = rt) && !meth.locks && decide (parseMethodDescriptor y.desc = some meth.sig)) = true) : (Jvm.Cond.code y bytes mx rt).before a s = true := by
  simp only [Bool.and_eq_true, beq_iff_eq, Bool.not_eq_true', decide_eq_true_eq] at h5
  obtain ⟨⟨⟨⟨⟨g1, g2⟩, g3⟩, g4⟩, g5⟩, g6⟩ := h5
  simp [Cond.before, Cond.holds, Cond.value, h1, h2, h3, h4, g1, g2, g3, g4, g5, g6]
def isCode : Jvm.Cond → Bool
  | .code _ _ _ _ => true
  | _ => false
theorem all_split {L : List Jvm.Cond} {P : Jvm.Cond → Bool} (h1 : L.all (fun c => isCode c || P c) = true) (h2 : ∀ c ∈ L.filter isCode, P c = true) : L.all P = true := by
  refine List.all_eq_true.mpr fun c hc => ?_
  have h := List.all_eq_true.mp h1 c hc
  rcases Bool.eq_false_or_eq_true (isCode c) with hi | hi
  · exact h2 c (List.mem_filter.mpr ⟨hc, hi⟩)
  · simpa [hi] using h
set_option maxRecDepth 65536 in
theorem w_c0 : (Jvm.Cond.code x code maxLocals ret).before args0 about1 = true := code_word (m := ⟨1, 1⟩) (meth := k1m1) (c := k1c1) (by decide +kernel) rfl rfl rfl (by decide +kernel)
set_option maxRecDepth 65536 in
theorem w_c1 : (Jvm.Cond.code ({ cls := "java/lang/String", name := "<init>", desc := "([C)V" } : Jvm.MethodName) jdk_42_method_3_code (2 : Nat) (Option.none : Option Jvm.ClassFile.FieldType)).before args0 about1 = true := code_word (m := ⟨9, 1⟩) (meth := k9m1) (c := k9c1) (by decide +kernel) rfl rfl rfl (by decide +kernel)
set_option maxRecDepth 65536 in
theorem w_c2 : (Jvm.Cond.code ({ cls := "java/lang/String", name := "<init>", desc := "([CIILjava/lang/Void;)V" } : Jvm.MethodName) jdk_42_method_149_code (6 : Nat) (Option.none : Option Jvm.ClassFile.FieldType)).before args0 about1 = true := code_word (m := ⟨9, 2⟩) (meth := k9m2) (c := k9c2) (by decide +kernel) rfl rfl rfl (by decide +kernel)
set_option maxRecDepth 65536 in
theorem w_c3 : (Jvm.Cond.code ({ cls := "java/lang/Object", name := "<init>", desc := "()V" } : Jvm.MethodName) object_method_1_code (1 : Nat) (Option.none : Option Jvm.ClassFile.FieldType)).before args0 about1 = true := code_word (m := ⟨0, 0⟩) (meth := k0m0) (c := k0c0) (by decide +kernel) rfl rfl rfl (by decide +kernel)
set_option maxRecDepth 65536 in
theorem w_c4 : (Jvm.Cond.code ({ cls := "java/lang/StringUTF16", name := "compress", desc := "([CII)[B" } : Jvm.MethodName) jdk_52_method_16_code (6 : Nat) (Option.some (Jvm.ClassFile.FieldType.array Jvm.ClassFile.FieldType.byte))).before args0 about1 = true := code_word (m := ⟨10, 2⟩) (meth := k10m2) (c := k10c2) (by decide +kernel) rfl rfl rfl (by decide +kernel)
set_option maxRecDepth 65536 in
theorem w_c5 : (Jvm.Cond.code ({ cls := "java/lang/StringUTF16", name := "compress", desc := "([CI[BII)I" } : Jvm.MethodName) jdk_52_method_21_code (7 : Nat) (Option.some Jvm.ClassFile.FieldType.int)).before args0 about1 = true := code_word (m := ⟨10, 3⟩) (meth := k10m3) (c := k10c3) (by decide +kernel) rfl rfl rfl (by decide +kernel)
set_option maxRecDepth 65536 in
theorem w_c6 : (Jvm.Cond.code ({ cls := "java/lang/StringUTF16", name := "coderFromArrayLen", desc := "([BI)B" } : Jvm.MethodName) jdk_52_method_15_code (2 : Nat) (Option.some Jvm.ClassFile.FieldType.byte)).before args0 about1 = true := code_word (m := ⟨10, 1⟩) (meth := k10m1) (c := k10c1) (by decide +kernel) rfl rfl rfl (by decide +kernel)
set_option maxRecDepth 65536 in
theorem w_c7 : (Jvm.Cond.code ({ cls := "com/example/privlint/privlint/model/DeclaredPermission", name := "<init>", desc := "(Ljava/lang/String;I)V" } : Jvm.MethodName) prog_55_method_1_code (3 : Nat) (Option.none : Option Jvm.ClassFile.FieldType)).before args0 about1 = true := code_word (m := ⟨3, 0⟩) (meth := k3m0) (c := k3c0) (by decide +kernel) rfl rfl rfl (by decide +kernel)
set_option maxRecDepth 65536 in
theorem w_c8 : (Jvm.Cond.code ({ cls := "java/lang/Record", name := "<init>", desc := "()V" } : Jvm.MethodName) jdk_30_method_1_code (1 : Nat) (Option.none : Option Jvm.ClassFile.FieldType)).before args0 about1 = true := code_word (m := ⟨2, 0⟩) (meth := k2m0) (c := k2c0) (by decide +kernel) rfl rfl rfl (by decide +kernel)
set_option maxRecDepth 65536 in
theorem w_c9 : (Jvm.Cond.code ({ cls := "java/util/Objects", name := "requireNonNull", desc := "(Ljava/lang/Object;Ljava/lang/String;)Ljava/lang/Object;" } : Jvm.MethodName) jdk_31_method_11_code (2 : Nat) (Option.some (Jvm.ClassFile.FieldType.object "java/lang/Object"))).before args0 about1 = true := code_word (m := ⟨11, 1⟩) (meth := k11m1) (c := k11c1) (by decide +kernel) rfl rfl rfl (by decide +kernel)
set_option maxRecDepth 65536 in
theorem w_c10 : (Jvm.Cond.code ({ cls := "com/example/privlint/privlint/model/DeclaredPermission", name := "isPrivileged", desc := "()Z" } : Jvm.MethodName) prog_55_method_2_code (2 : Nat) (Option.some Jvm.ClassFile.FieldType.boolean)).before args0 about1 = true := code_word (m := ⟨3, 1⟩) (meth := k3m1) (c := k3c1) (by decide +kernel) rfl rfl rfl (by decide +kernel)
def codes1 : List Jvm.Cond := [Jvm.Cond.code x code maxLocals ret, Jvm.Cond.code ({ cls := "java/lang/String", name := "<init>", desc := "([C)V" } : Jvm.MethodName) jdk_42_method_3_code (2 : Nat) (Option.none : Option Jvm.ClassFile.FieldType), Jvm.Cond.code ({ cls := "java/lang/String", name := "<init>", desc := "([CIILjava/lang/Void;)V" } : Jvm.MethodName) jdk_42_method_149_code (6 : Nat) (Option.none : Option Jvm.ClassFile.FieldType), Jvm.Cond.code ({ cls := "java/lang/Object", name := "<init>", desc := "()V" } : Jvm.MethodName) object_method_1_code (1 : Nat) (Option.none : Option Jvm.ClassFile.FieldType), Jvm.Cond.code ({ cls := "java/lang/StringUTF16", name := "compress", desc := "([CII)[B" } : Jvm.MethodName) jdk_52_method_16_code (6 : Nat) (Option.some (Jvm.ClassFile.FieldType.array Jvm.ClassFile.FieldType.byte)), Jvm.Cond.code ({ cls := "java/lang/StringUTF16", name := "compress", desc := "([CI[BII)I" } : Jvm.MethodName) jdk_52_method_21_code (7 : Nat) (Option.some Jvm.ClassFile.FieldType.int), Jvm.Cond.code ({ cls := "java/lang/StringUTF16", name := "coderFromArrayLen", desc := "([BI)B" } : Jvm.MethodName) jdk_52_method_15_code (2 : Nat) (Option.some Jvm.ClassFile.FieldType.byte), Jvm.Cond.code ({ cls := "com/example/privlint/privlint/model/DeclaredPermission", name := "<init>", desc := "(Ljava/lang/String;I)V" } : Jvm.MethodName) prog_55_method_1_code (3 : Nat) (Option.none : Option Jvm.ClassFile.FieldType), Jvm.Cond.code ({ cls := "java/lang/Record", name := "<init>", desc := "()V" } : Jvm.MethodName) jdk_30_method_1_code (1 : Nat) (Option.none : Option Jvm.ClassFile.FieldType), Jvm.Cond.code ({ cls := "java/util/Objects", name := "requireNonNull", desc := "(Ljava/lang/Object;Ljava/lang/String;)Ljava/lang/Object;" } : Jvm.MethodName) jdk_31_method_11_code (2 : Nat) (Option.some (Jvm.ClassFile.FieldType.object "java/lang/Object")), Jvm.Cond.code ({ cls := "com/example/privlint/privlint/model/DeclaredPermission", name := "isPrivileged", desc := "()Z" } : Jvm.MethodName) prog_55_method_2_code (2 : Nat) (Option.some Jvm.ClassFile.FieldType.boolean)]
set_option maxRecDepth 65536 in
theorem codes_eq : words1.filter isCode = codes1 := rfl
theorem w_codes : ∀ c ∈ words1.filter isCode, c.before args0 about1 = true := by
  rw [codes_eq]
  intro c hc
  simp only [codes1, List.mem_cons, List.not_mem_nil, or_false] at hc
  rcases hc with rfl | rfl | rfl | rfl | rfl | rfl | rfl | rfl | rfl | rfl | rfl
  · exact w_c0
  · exact w_c1
  · exact w_c2
  · exact w_c3
  · exact w_c4
  · exact w_c5
  · exact w_c6
  · exact w_c7
  · exact w_c8
  · exact w_c9
  · exact w_c10
set_option maxRecDepth 65536 in
theorem w_t1 : (words1.take 24).all (fun c => isCode c || c.before args0 about1) = true := by decide +kernel
set_option maxRecDepth 65536 in
theorem w_t2 : ((words1.drop 24).take 24).all (fun c => isCode c || c.before args0 about1) = true := by decide +kernel
set_option maxRecDepth 65536 in
theorem w_t3 : ((words1.drop 24).drop 24).all (fun c => isCode c || c.before args0 about1) = true := by decide +kernel
theorem w_tables : (allAtoms (Jvm.Cond.code x code maxLocals ret :: tables_1)).before args0 about1 = true := by
  rw [allAtoms_all]
  show words1.all (fun c => c.before args0 about1) = true
  refine all_split ?_ w_codes
  rw [← List.take_append_drop 24 words1, List.all_append, w_t1, ← List.take_append_drop 24 (words1.drop 24), List.all_append, w_t2, w_t3]
  rfl
set_option maxRecDepth 65536 in
theorem w_rest : rest_1_c.before args0 about1 = true := by decide +kernel
set_option maxRecDepth 65536 in
theorem w_case : (Jvm.Cond.and given_1 narrow_1).before args0 about1 = true := by decide +kernel
theorem w_applies : (headSpec (Jvm.Cond.code x code maxLocals ret :: tables_1) room_1).applies x e0.platform about1 = true :=
  (Spec.applies_iff w_frames).mpr ⟨w_running, w_runnable, w_alone, w_named, w_hears, w_ripe, w_room, w_tables⟩
theorem atStart : AtStart classFile x code maxLocals ret World_1 tables_1 room_1 Calls_1 rest_1 Pre_1 launch0 p0 e0 about1 theMethod args0 below0 :=
  ⟨lists_1, trivial, launch0.admits_env _ _ _, launch0.least_env, fairChoices_fair.cas, fairChoices_fair.clock, w_frames, w_args, w_heap, w_applies, trivial, w_rest, w_case⟩
end start1
theorem witness_1 : WitnessClaimed_1 := ⟨start1.p0, start1.e0, start1.about1, start1.theMethod, start1.args0, start1.below0, start1.atStart⟩
end Jvm.Pilot.@@N@@
