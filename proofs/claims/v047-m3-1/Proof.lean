import JvmDerived
import JvmDerived.Pilot.@@N@@Statement
import JvmDerived.Pilot.@@N@@Code
set_option linter.unusedVariables false
set_option linter.unusedSimpArgs false
namespace Jvm.RoadKit
open Sem ClassFile Op Lib Jvm.Stand Jvm.Free Jvm.LawKit
section New
variable {p : Program} {l : Launch} {e : Env} {R : Room} {s : State} {m : MethodId} {args : Array Value} {below : List Frame} {meth : Method} {c : Code} {T : State} {locs : List Loc} {cells slots : Nat}
theorem retI (X : Stand p l e R s m args below meth c T locs cells slots) (hx : p.tables.exec = Jvm.exec) {pc : Nat} {Ls : Array Slot} {z : Int32} {rest : List Value} (hret : meth.sig.returnType = some .int) (hd : decode c.code pc = .ok (.ireturn, 1)) {fs : List Frame}
    (hl : ∀ (f : JFrame) (acts : List Action), f.method = m → f.locked = none → f.entered = [] → (doReturn e (T.setTop f) acts (some (.int z))).1 = T.setFrames fs) : Steps p.tables e below (T.setTop (mkF m pc Ls (.int z :: rest))) (T.setFrames fs) := by
  have hm' : T.vm.method? m = some meth := X.method'
  have hn : narrow .int (.int z) = .int z := rfl
  show Steps p.tables e below (T.setTop { method := m, pc := pc, locals := Ls, stack := _ :: rest, locked := none }) _
  jvm_step X.here [X.here.top, hx, hd, hm', hret, hn]
  first | (intro acts; rw [hl _ acts rfl rfl rfl]) | rw [hl _ _ rfl rfl rfl]
  exact Steps.refl _
theorem retJ (X : Stand p l e R s m args below meth c T locs cells slots) (hx : p.tables.exec = Jvm.exec) {pc : Nat} {Ls : Array Slot} {z : Int64} {rest : List Value} (hret : meth.sig.returnType = some .long) (hd : decode c.code pc = .ok (.lreturn, 1)) {fs : List Frame}
    (hl : ∀ (f : JFrame) (acts : List Action), f.method = m → f.locked = none → f.entered = [] → (doReturn e (T.setTop f) acts (some (.long z))).1 = T.setFrames fs) : Steps p.tables e below (T.setTop (mkF m pc Ls (.long z :: rest))) (T.setFrames fs) := by
  have hm' : T.vm.method? m = some meth := X.method'
  show Steps p.tables e below (T.setTop { method := m, pc := pc, locals := Ls, stack := _ :: rest, locked := none }) _
  jvm_step X.here [X.here.top, hx, hd, hm', hret, narrow]
  first | (intro acts; rw [hl _ acts rfl rfl rfl]) | rw [hl _ _ rfl rfl rfl]
  exact Steps.refl _
theorem retA (X : Stand p l e R s m args below meth c T locs cells slots) (hx : p.tables.exec = Jvm.exec) {pc : Nat} {Ls : Array Slot} {z : Value} {t : FieldType} {rest : List Value} (hret : meth.sig.returnType = some t) (ht : t.isReference = true) (hz : z.isRef = true) (hd : decode c.code pc = .ok (.areturn, 1)) {fs : List Frame}
    (hl : ∀ (f : JFrame) (acts : List Action), f.method = m → f.locked = none → f.entered = [] → (doReturn e (T.setTop f) acts (some z)).1 = T.setFrames fs) : Steps p.tables e below (T.setTop (mkF m pc Ls (z :: rest))) (T.setFrames fs) := by
  have hm' : T.vm.method? m = some meth := X.method'
  show Steps p.tables e below (T.setTop { method := m, pc := pc, locals := Ls, stack := _ :: rest, locked := none }) _
  jvm_step X.here [X.here.top, hx, hd, hm', hret, hz, ht]
  first | (intro acts; rw [hl _ acts rfl rfl rfl]) | rw [hl _ _ rfl rfl rfl]
  exact Steps.refl _
/-- what a body's contract owes from a state on -/
def Owe (p : Program) (e : Env) (below : List Frame) (first : State) (ck sk : Nat) (Q : Option Value → Heap → List Loc → Prop) (T : State) (g : JFrame) : Prop :=
  ∃ s₂ o, Steps p.tables e below (T.setTop g) s₂ ∧ s₂.status = .running ∧ Ended s₂ below o ∧ ∃ v L, o = .returned v ∧ Q v s₂.heap L ∧ FrameEnd first o s₂ L ck sk
theorem Owe.step {first : State} {ck sk : Nat} {Q : Option Value → Heap → List Loc → Prop} {T T' : State} {g g' : JFrame} (h : ∀ t, Steps p.tables e below (T'.setTop g') t → Steps p.tables e below (T.setTop g) t)
    (k : Owe p e below first ck sk Q T' g') : Owe p e below first ck sk Q T g := by
  obtain ⟨s₂, o, h1, h2⟩ := k
  exact ⟨s₂, o, h _ h1, h2⟩
theorem Owe.ret {ck sk : Nat} {Q : Option Value → Heap → List Loc → Prop} {g : JFrame} (X : Stand p l e R s m args below meth c T locs cells slots) (hlk : meth.locks = false) {v : Option Value} (hv : meth.sig.returnType = none → v = none)
    (hst : ∀ fs, (∀ (f : JFrame) (acts : List Action), f.method = m → f.locked = none → f.entered = [] → (doReturn e (T.setTop f) acts v).1 = T.setFrames fs) → Steps p.tables e below (T.setTop g) (T.setFrames fs))
    (hQ : Q v T.heap locs) (hc : cells ≤ ck) (hs : slots ≤ sk) : Owe p e below s ck sk Q T g := by
  obtain ⟨fs, hr, hrun, hended, hW, hsame⟩ := X.leave (v := v) hv hlk
  exact ⟨_, _, hst fs hr, hrun, hended, _, _, rfl, hQ, ⟨_, rfl⟩, hW, hsame.mono hc hs⟩
/-- a body that writes nothing and makes nothing: it returns w -/
def QP (w : Value) (h0 : Heap) (n0 : Nat) (v : Option Value) (h : Heap) (L : List Loc) : Prop := v = some w ∧ Fr n0 L ∧ h = h0
/-- .. and returns nothing -/
def QN (h0 : Heap) (n0 : Nat) (v : Option Value) (h : Heap) (L : List Loc) : Prop := v = none ∧ Fr n0 L ∧ h = h0
/-- the law itself -/
def QL (w : Value) (n0 : Nat) (v : Option Value) (h : Heap) (L : List Loc) : Prop := v = some w ∧ Fr n0 L
theorem Owe.cast {first : State} {ck sk n0 : Nat} {w w' : Int32} {g : JFrame} (q : w' = w) (k : Owe p e below first ck sk (QL (.int w') n0) T g) : Owe p e below first ck sk (QL (.int w) n0) T g := q ▸ k
end New
end Jvm.RoadKit
namespace Jvm.RoadKit
open Sem ClassFile Op Lib Jvm.Stand Jvm.Free Jvm.LawKit
section Arrays
variable {p : Program} {l : Launch} {e : Env} {R : Room} {s : State} {m : MethodId} {args : Array Value} {below : List Frame} {meth : Method} {c : Code} {T : State} {locs : List Loc} {cells slots : Nat}
variable {Z : State} {h h' : Heap} {a b : Addr} {ty : FieldType} {n sl : Nat} {f : Nat → Value} {v : Value} {ws : List Addr}
/-- an array of n places; place j holds f j -/
def AV (Z : State) (h : Heap) (a : Addr) (ty : FieldType) (n : Nat) (f : Nat → Value) : Prop := ∃ c : Cell, Arr Z h a c ty ∧ c.slots.size = n ∧ ∀ j, j < n → c.slots[j]? = some (f j)
abbrev AI (Z : State) (h : Heap) (a : Addr) (ty : FieldType) (n : Nat) (f : Nat → Int32) : Prop := AV Z h a ty n (fun k => .int (f k))
abbrev AJ (Z : State) (h : Heap) (a : Addr) (n : Nat) (f : Nat → Int64) : Prop := AV Z h a .long n (fun k => .long (f k))
def own_upd {α : Type} (f : Nat → α) (j : Nat) (x : α) : Nat → α := fun k => if k = j then x else f k
theorem own_upd_same {α : Type} (f : Nat → α) (j : Nat) (x : α) : own_upd f j x j = x := if_pos rfl
theorem own_upd_other {α : Type} (f : Nat → α) (j k : Nat) (x : α) (q : k ≠ j) : own_upd f j x k = f k := if_neg q
theorem AV.lt (F : AV Z h a ty n f) : a < h.size := by obtain ⟨c, A, -⟩ := F; exact A.lt
theorem AV.ext (F : AV Z h a ty n f) (E : Ext h h') : AV Z h' a ty n f := by obtain ⟨c, A, r⟩ := F; exact ⟨c, A.ext E, r⟩
theorem AV.other (F : AV Z h b ty n f) (W : Wr h h' a sl v) (q : b ≠ a) : AV Z h' b ty n f := by obtain ⟨c, A, r⟩ := F; exact ⟨c, A.other W q, r⟩
theorem AV.keep (F : AV Z h a ty n f) (K : Keep h h' ws) (q : a ∉ ws) : AV Z h' a ty n f := by obtain ⟨c, A, r⟩ := F; exact ⟨c, ⟨K.2.1 a c A.1 q, A.2⟩, r⟩
theorem AV.congr {f' : Nat → Value} (F : AV Z h a ty n f) (q : ∀ k, k < n → f k = f' k) : AV Z h a ty n f' := by obtain ⟨c, A, S, H⟩ := F; exact ⟨c, A, S, fun k hk => by rw [← q k hk]; exact H k hk⟩
theorem AV.new {k : ClassId} {z : Int32} (A : Arr Z h a (newA k ty z) ty) (e : z.toNatClampNeg = n) : AV Z h a ty n (fun _ => defaultValue ty) := by
  subst e
  exact ⟨_, A, sz_new _ _ _, fun j hj => by simp [newA, hj]⟩
theorem AV.set {j : Nat} (F : AV Z h a ty n f) (W : Wr h h' a j v) : AV Z h' a ty n (own_upd f j v) := by
  obtain ⟨c, A, S, H⟩ := F
  refine ⟨_, A.same W, by rw [sz_set]; exact S, fun k hk => ?_⟩
  by_cases u : k = j
  · subst u; simp [Cell.setSlot, S, hk, own_upd]
  · have := H k hk
    simp only [Cell.setSlot, own_upd, if_neg u] at this ⊢
    rw [Array.getElem?_setIfInBounds_ne (fun q => u q.symm)]; exact this
theorem AI.set {j : Nat} {g : Nat → Int32} {x : Int32} (F : AI Z h a ty n g) (W : Wr h h' a j (.int x)) : AI Z h' a ty n (own_upd g j x) := (AV.set F W).congr fun k _ => by unfold own_upd; split <;> rfl
theorem AJ.set {j : Nat} {g : Nat → Int64} {x : Int64} (F : AJ Z h a n g) (W : Wr h h' a j (.long x)) : AJ Z h' a n (own_upd g j x) := (AV.set F W).congr fun k _ => by unfold own_upd; split <;> rfl
theorem in_of {c : Cell} {j : Int32} (S : c.slots.size = n) (j0 : ¬ j < 0) (jn : j.toNatClampNeg < n) : ¬ (j < 0 ∨ c.slots.size ≤ j.toNatClampNeg) := by rw [S]; exact fun q => q.elim j0 fun y => absurd jn (Nat.not_lt.mpr y)
theorem ldAI (X : Stand p l e R s m args below meth c T locs cells slots) (hx : p.tables.exec = Jvm.exec) (hZ : Z.Warmed39 s.vm) (eT : T.heap = h) (F : AV Z h a .int n f) {j : Int32} (j0 : ¬ j < 0) (jn : j.toNatClampNeg < n) {g : JFrame} (hg : g.method = m) {rest : List Value} (hs : g.stack = .int j :: .ref a :: rest) (hd : decode c.code g.pc = .ok (.iaload, 1)) (target : State)
    (hr : Steps p.tables e below (T.setTop { g with pc := g.pc + 1, stack := f j.toNatClampNeg :: rest }) target) : Steps p.tables e below (T.setTop g) target := by
  obtain ⟨cl, A, S, H⟩ := F
  exact X.iaload hx (by rw [eT]; exact A.1) (State.isArrayOf_alike hZ.alike A.2.1) A.2.2 (in_of S j0 jn) (H _ jn) hg hs hd target hr
theorem ldAB (X : Stand p l e R s m args below meth c T locs cells slots) (hx : p.tables.exec = Jvm.exec) (hZ : Z.Warmed39 s.vm) (eT : T.heap = h) (F : AV Z h a .byte n f) {j : Int32} (j0 : ¬ j < 0) (jn : j.toNatClampNeg < n) {g : JFrame} (hg : g.method = m) {rest : List Value} (hs : g.stack = .int j :: .ref a :: rest) (hd : decode c.code g.pc = .ok (.baload, 1)) (target : State)
    (hr : Steps p.tables e below (T.setTop { g with pc := g.pc + 1, stack := f j.toNatClampNeg :: rest }) target) : Steps p.tables e below (T.setTop g) target := by
  obtain ⟨cl, A, S, H⟩ := F
  exact X.baloadBytes hx (by rw [eT]; exact A.1) (State.isArrayOf_alike hZ.alike A.2.1) A.2.2 (in_of S j0 jn) (H _ jn) hg hs hd target hr
theorem ldAJ (X : Stand p l e R s m args below meth c T locs cells slots) (hx : p.tables.exec = Jvm.exec) (hZ : Z.Warmed39 s.vm) (eT : T.heap = h) (F : AV Z h a .long n f) {j : Int32} (j0 : ¬ j < 0) (jn : j.toNatClampNeg < n) {g : JFrame} (hg : g.method = m) {rest : List Value} (hs : g.stack = .int j :: .ref a :: rest) (hd : decode c.code g.pc = .ok (.laload, 1)) (target : State)
    (hr : Steps p.tables e below (T.setTop { g with pc := g.pc + 1, stack := f j.toNatClampNeg :: rest }) target) : Steps p.tables e below (T.setTop g) target := by
  obtain ⟨cl, A, S, H⟩ := F
  exact X.laload hx (by rw [eT]; exact A.1) (State.isArrayOf_alike hZ.alike A.2.1) A.2.2 (in_of S j0 jn) (H _ jn) hg hs hd target hr
theorem stAI (X : Stand p l e R s m args below meth c T locs cells slots) (hx : p.tables.exec = Jvm.exec) (hZ : Z.Warmed39 s.vm) (eT : T.heap = h) {f : Nat → Int32} (F : AI Z h a .int n f) {j x : Int32} (j0 : ¬ j < 0) (jn : j.toNatClampNeg < n) {g : JFrame} (hg : g.method = m) {rest : List Value} (hs : g.stack = .int x :: .int j :: .ref a :: rest) (hd : decode c.code g.pc = .ok (.iastore, 1)) :
    ∃ T' h', Stand p l e R s m args below meth c T' (locs ++ [⟨a, j.toNatClampNeg⟩]) cells slots ∧ T'.heap = h' ∧ Wr h h' a j.toNatClampNeg (.int x) ∧ AI Z h' a .int n (own_upd f j.toNatClampNeg x) ∧ ∀ target, Steps p.tables e below (T'.setTop { g with pc := g.pc + 1, stack := rest }) target → Steps p.tables e below (T.setTop g) target := by
  obtain ⟨cl, A, S, H⟩ := id F
  obtain ⟨T', h', X', e', W, st⟩ := stI X hx hZ eT A (in_of S j0 jn) hg hs hd
  exact ⟨T', h', X', e', W, AI.set F W, st⟩
theorem stAB (X : Stand p l e R s m args below meth c T locs cells slots) (hx : p.tables.exec = Jvm.exec) (hZ : Z.Warmed39 s.vm) (eT : T.heap = h) {f : Nat → Int32} (F : AI Z h a .byte n f) {j x : Int32} (j0 : ¬ j < 0) (jn : j.toNatClampNeg < n) {g : JFrame} (hg : g.method = m) {rest : List Value} (hs : g.stack = .int x :: .int j :: .ref a :: rest) (hd : decode c.code g.pc = .ok (.bastore, 1)) :
    ∃ T' h', Stand p l e R s m args below meth c T' (locs ++ [⟨a, j.toNatClampNeg⟩]) cells slots ∧ T'.heap = h' ∧ Wr h h' a j.toNatClampNeg (.int (nar .byte x)) ∧ AI Z h' a .byte n (own_upd f j.toNatClampNeg (nar .byte x)) ∧ ∀ target, Steps p.tables e below (T'.setTop { g with pc := g.pc + 1, stack := rest }) target → Steps p.tables e below (T.setTop g) target := by
  obtain ⟨cl, A, S, H⟩ := id F
  obtain ⟨T', h', X', e', W, st⟩ := stB X hx hZ eT A (in_of S j0 jn) hg hs hd
  exact ⟨T', h', X', e', W, AI.set F W, st⟩
theorem stAC (X : Stand p l e R s m args below meth c T locs cells slots) (hx : p.tables.exec = Jvm.exec) (hZ : Z.Warmed39 s.vm) (eT : T.heap = h) {f : Nat → Int32} (F : AI Z h a .char n f) {j x : Int32} (j0 : ¬ j < 0) (jn : j.toNatClampNeg < n) {g : JFrame} (hg : g.method = m) {rest : List Value} (hs : g.stack = .int x :: .int j :: .ref a :: rest) (hd : decode c.code g.pc = .ok (.castore, 1)) :
    ∃ T' h', Stand p l e R s m args below meth c T' (locs ++ [⟨a, j.toNatClampNeg⟩]) cells slots ∧ T'.heap = h' ∧ Wr h h' a j.toNatClampNeg (.int (nar .char x)) ∧ AI Z h' a .char n (own_upd f j.toNatClampNeg (nar .char x)) ∧ ∀ target, Steps p.tables e below (T'.setTop { g with pc := g.pc + 1, stack := rest }) target → Steps p.tables e below (T.setTop g) target := by
  obtain ⟨cl, A, S, H⟩ := id F
  obtain ⟨T', h', X', e', W, st⟩ := stC X hx hZ eT A (in_of S j0 jn) hg hs hd
  exact ⟨T', h', X', e', W, AI.set F W, st⟩
theorem stAJ (X : Stand p l e R s m args below meth c T locs cells slots) (hx : p.tables.exec = Jvm.exec) (hZ : Z.Warmed39 s.vm) (eT : T.heap = h) {f : Nat → Int64} (F : AJ Z h a n f) {j : Int32} {x : Int64} (j0 : ¬ j < 0) (jn : j.toNatClampNeg < n) {g : JFrame} (hg : g.method = m) {rest : List Value} (hs : g.stack = .long x :: .int j :: .ref a :: rest) (hd : decode c.code g.pc = .ok (.lastore, 1)) :
    ∃ T' h', Stand p l e R s m args below meth c T' (locs ++ [⟨a, j.toNatClampNeg⟩]) cells slots ∧ T'.heap = h' ∧ Wr h h' a j.toNatClampNeg (.long x) ∧ AJ Z h' a n (own_upd f j.toNatClampNeg x) ∧ ∀ target, Steps p.tables e below (T'.setTop { g with pc := g.pc + 1, stack := rest }) target → Steps p.tables e below (T.setTop g) target := by
  obtain ⟨cl, A, S, H⟩ := id F
  obtain ⟨T', h', X', e', W, st⟩ := stJ X hx hZ eT A (in_of S j0 jn) hg hs hd
  exact ⟨T', h', X', e', W, AJ.set F W, st⟩
theorem lenA (X : Stand p l e R s m args below meth c T locs cells slots) (hx : p.tables.exec = Jvm.exec) (hZ : Z.Warmed39 s.vm) (eT : T.heap = h) (F : AV Z h a ty n f) {z : Int32} (hn : n.toInt32 = z) {g : JFrame} (hg : g.method = m) {rest : List Value} (hs : g.stack = .ref a :: rest) (hd : decode c.code g.pc = .ok (.arraylength, 1)) (target : State)
    (hr : Steps p.tables e below (T.setTop { g with pc := g.pc + 1, stack := .int z :: rest }) target) : Steps p.tables e below (T.setTop g) target := by
  obtain ⟨cl, A, S, H⟩ := F
  subst hn
  exact X.arraylength hx (by rw [eT]; exact A.1) (State.isArrayOf_alike hZ.alike A.2.1) hg hs hd target (by rw [S]; exact hr)
end Arrays
end Jvm.RoadKit
namespace Jvm.RoadKit
open Sem ClassFile Op Lib Jvm.Stand Jvm.Free Jvm.LawKit
section Wide
variable {p : Program} {l : Launch} {e : Env} {R : Room} {s : State} {m : MethodId} {args : Array Value} {below : List Frame} {meth : Method} {c : Code} {T : State} {locs : List Loc} {cells slots : Nat}
/-- Owe, where the walk may intern -/
def OweW (p : Program) (e : Env) (below : List Frame) (first : State) (ck sk : Nat) (Q : Option Value → Heap → List Loc → Prop) (T : State) (g : JFrame) : Prop :=
  ∃ s₂ o, Steps p.tables e below (T.setTop g) s₂ ∧ s₂.status = .running ∧ Ended s₂ below o ∧ ∃ v L, o = .returned v ∧ Q v s₂.heap L ∧ ReturnedEndW first o s₂ L ck sk
theorem OweW.step {first : State} {ck sk : Nat} {Q : Option Value → Heap → List Loc → Prop} {T T' : State} {g g' : JFrame} (h : ∀ t, Steps p.tables e below (T'.setTop g') t → Steps p.tables e below (T.setTop g) t)
    (k : OweW p e below first ck sk Q T' g') : OweW p e below first ck sk Q T g := by
  obtain ⟨s₂, o, h1, h2⟩ := k
  exact ⟨s₂, o, h _ h1, h2⟩
theorem OweW.ret {ck sk n : Nat} {vm₁ : Vm} {Q : Option Value → Heap → List Loc → Prop} {g : JFrame} (X : Stand p l e R (s.setVm vm₁) m args below meth c T locs cells slots) (hS : s.Since vm₁ n) (hn : n ≤ T.heap.size) (hlk : meth.locks = false) {v : Option Value} (hv : meth.sig.returnType = none → v = none)
    (hst : ∀ fs, (∀ (f : JFrame) (acts : List Action), f.method = m → f.locked = none → f.entered = [] → (doReturn e (T.setTop f) acts v).1 = T.setFrames fs) → Steps p.tables e below (T.setTop g) (T.setFrames fs))
    (hQ : Q v T.heap locs) (hc : cells ≤ ck) (hs : slots ≤ sk) : OweW p e below s ck sk Q T g := by
  obtain ⟨fs, hr, hrun, hended, h1, h2, h3, h4⟩ := X.leaveW hS hn (v := v) hv hlk
  exact ⟨_, _, hst fs hr, hrun, hended, _, _, rfl, hQ, h1, h2, h3, h4.mono hc hs⟩
theorem OweW.cast {first : State} {ck sk n0 : Nat} {w w' : Int32} {g : JFrame} (q : w' = w) (k : OweW p e below first ck sk (QL (.int w') n0) T g) : OweW p e below first ck sk (QL (.int w) n0) T g := q ▸ k
theorem since0 (s : State) : s.Since s.vm 0 := (State.WarmedH.refl s).since 0
theorem fitC0 {Z : State} {h : Heap} {a : Addr} {ty : FieldType} {f : Nat → Value} (A : AV Z h a ty 0 f) : ∃ cl, Arr Z h a cl ty ∧ FitC Z cl ∧ cl.slots.size ≤ 0 := by
  obtain ⟨cl, A, S, -⟩ := A
  exact ⟨cl, A, fun i v hv => by
    have := (Array.getElem?_eq_some_iff.mp hv).1
    omega, by omega⟩
end Wide
end Jvm.RoadKit
namespace Jvm.Pilot.@@N@@
open Jvm Jvm.ClassFile Sem Op Lib Jvm.Free Jvm.Stand Jvm.LawKit Jvm.RoadKit Bundle Jvm.Pilot.@@N@@.Jvm.D
theorem own_irem (x y : Int32) : x - (x / y) * y = x % y := by
  apply Int32.toInt_inj.mp
  have h1 := Int32.le_toInt (x % y)
  have h2 := Int32.toInt_lt (x % y)
  rw [Int32.toInt_sub, Int32.toInt_mul, Int32.toInt_div, Int.bmod_mul_bmod, Int.sub_bmod_bmod, Int.mul_comm (x.toInt.tdiv y.toInt), ← Int.tmod_def, ← Int32.toInt_mod]
  exact Int.bmod_eq_of_le_mul_two (by omega) (by omega)
/-- an index, told by its int -/
theorem own_ix {j : Int32} {n : Nat} (h0 : 0 ≤ j.toInt) (h1 : j.toInt < (n : Int)) : ¬ j < 0 ∧ j.toNatClampNeg < n := by
  rw [Int32.lt_iff_toInt_lt]
  have e0 : (0 : Int32).toInt = 0 := rfl
  have e1 : j.toNatClampNeg = j.toInt.toNat := rfl
  rw [e0, e1]; omega
theorem own_d4_0 : decode jdk_30_method_1_code 0 = .ok (.aload_n 0, 1) := by decide +kernel
theorem own_d4_1 : decode jdk_30_method_1_code 1 = .ok (.invokespecial 1, 3) := by decide +kernel
theorem own_d4_4 : decode jdk_30_method_1_code 4 = .ok (.return_, 1) := by decide +kernel
theorem own_pn0 : plainName "java/lang/Record" = true := by first | (simp [plainName, overriddenIn]; done) | decide +kernel
theorem own_ef4 (m : MethodId) (a0 : Addr) : entryFrame m #[(.ref a0)] 1 = mkF m 0 #[.val (.ref a0)] [] := by first | (simp [entryFrame, mkF, argsToLocals, Value.category]; done) | rfl
set_option maxRecDepth 65536 in
set_option maxHeartbeats 40000000 in
theorem own_rm4 (l : Launch) (Z : State) (aA : Array Value) (hw : ∀ d ∈ tables_1, d.before aA Z = true) (ws : List Jvm.Cond) (a0 : Addr)  (h0 : Heap) (n0 : Nat) (Z0 : n0 ≤ h0.size) :
    MetFree l (⟨"java/lang/Record", "<init>", "()V"⟩ : MethodName) (head1 (Jvm.Cond.code (⟨"java/lang/Record", "<init>", "()V"⟩ : MethodName) jdk_30_method_1_code 1 none :: ws) ({ frames := 1, cells := 0, slots := 0, locals := 12 } : Room)) (fun a U => a = #[(.ref a0)] ∧ Z.Warmed39 U.vm ∧ U.heap = h0) (fun _ _ _ _ _ => True) (fun _ U o U' => ∃ v L, o = .returned v ∧ (QN h0 n0) v U'.heap L ∧ FrameEnd U o U' L ({ frames := 1, cells := 0, slots := 0, locals := 12 } : Room).cells ({ frames := 1, cells := 0, slots := 0, locals := 12 } : Room).slots) := by
  refine MetFree.of_bodySF (plainFor_of_name own_pn0) hisR ?_
  intro p e s m args below meth c s₁ Bd hml0 hP hK
  obtain ⟨rfl, hZ, hh⟩ := hP
  have hx := Bd.exec
  have hby := Bd.bytes
  have hml : c.maxLocals = 1 := hml0
  have hown : s.vm.findClass "java/lang/Record" = some m.cls := findClass_of_methodNamed Bd.named
  have hnm := (name_of_methodNamed Bd.named Bd.method).1
  have X0 : Stand p l e ({ frames := 1, cells := 0, slots := 0, locals := 12 } : Room) s m #[(.ref a0)] below meth c s₁ [] 0 0 := Stand.of_body Bd
  have e0 : s₁.heap = h0 := by rw [← hh, Bd.state]; rfl
  have N0 := Fr.nil n0
  refine Owe.step (T := s₁) (T' := s₁) (g' := (mkF m 0 #[.val (.ref a0)] [])) (fun t k => castTop (own_ef4 m a0) k) ?_
  obtain ⟨T1, X1, e1, st1⟩ := initO X0 hx hZ hown (hw _ (List.mem_of_getElem? (i := 32) rfl)) (hw _ (List.mem_of_getElem? (i := 8) rfl)) (hw _ (List.mem_of_getElem? (i := 9) rfl)) e0 (g := (mkF m 1 #[.val (.ref a0)] [(.ref a0)])) rfl (by rw [hml]; rfl) rfl (hb hby own_d4_1) (by decide) (W := 0) (by show 2 * 0 + _ ≤ _; exact Nat.le_of_eq rfl) (by decide)
  refine Owe.step (T' := T1) (g' := (mkF m 4 #[.val (.ref a0)] [])) (fun t k => ?_) ?_
  · show Steps p.tables e below (s₁.setTop (mkF m 0 #[.val (.ref a0)] [])) t
    refine XS.aloadN X0.here hx rfl (hb hby own_d4_0) rfl rfl ?_
    show Steps p.tables e below (s₁.setTop (mkF m 1 #[.val (.ref a0)] [(.ref a0)])) t
    refine st1 _ ?_
    show Steps p.tables e below (T1.setTop (mkF m 4 #[.val (.ref a0)] [])) t
    exact k
  refine Owe.ret X1 Bd.notSynchronized (v := none) (fun _ => rfl) (fun fs hr => ?_) ⟨rfl, N0, e1⟩ (by decide) (by decide)
  show Steps p.tables e below (T1.setTop (mkF m 4 #[.val (.ref a0)] [])) _
  exact X1.returnOut hx Bd.returns (hb hby own_d4_4) hr
theorem own_d5_0 : decode jdk_31_method_11_code 0 = .ok (.aload_n 0, 1) := by decide +kernel
theorem own_d5_1 : decode jdk_31_method_11_code 1 = .ok (.ifnonnull 12, 3) := by decide +kernel
theorem own_d5_13 : decode jdk_31_method_11_code 13 = .ok (.aload_n 0, 1) := by decide +kernel
theorem own_d5_14 : decode jdk_31_method_11_code 14 = .ok (.areturn, 1) := by decide +kernel
theorem own_pn1 : plainName "java/util/Objects" = true := by first | (simp [plainName, overriddenIn]; done) | decide +kernel
theorem own_ef5 (m : MethodId) (a0 : Addr) (a1 : Addr) : entryFrame m #[(.ref a0), (.ref a1)] 2 = mkF m 0 #[.val (.ref a0), .val (.ref a1)] [] := by first | (simp [entryFrame, mkF, argsToLocals, Value.category]; done) | rfl
def own_f5_0 (a0 : Addr) : Addr := a0
set_option maxRecDepth 65536 in
set_option maxHeartbeats 40000000 in
theorem own_rm5 (l : Launch) (Z : State) (aA : Array Value) (hw : ∀ d ∈ tables_1, d.before aA Z = true) (ws : List Jvm.Cond) (a0 : Addr) (a1 : Addr)  (h0 : Heap) (n0 : Nat) (Z0 : n0 ≤ h0.size) :
    MetFree l (⟨"java/util/Objects", "requireNonNull", "(Ljava/lang/Object;Ljava/lang/String;)Ljava/lang/Object;"⟩ : MethodName) (head1 (Jvm.Cond.code (⟨"java/util/Objects", "requireNonNull", "(Ljava/lang/Object;Ljava/lang/String;)Ljava/lang/Object;"⟩ : MethodName) jdk_31_method_11_code 2 (some (.object "java/lang/Object")) :: ws) ({ frames := 0, cells := 0, slots := 0, locals := 0 } : Room)) (fun a U => a = #[(.ref a0), (.ref a1)] ∧ Z.Warmed39 U.vm ∧ U.heap = h0) (fun _ _ _ _ _ => True) (fun _ U o U' => ∃ v L, o = .returned v ∧ (QP (.ref (own_f5_0 a0)) h0 n0) v U'.heap L ∧ FrameEnd U o U' L ({ frames := 0, cells := 0, slots := 0, locals := 0 } : Room).cells ({ frames := 0, cells := 0, slots := 0, locals := 0 } : Room).slots) := by
  refine MetFree.of_bodySF (plainFor_of_name own_pn1) hisR ?_
  intro p e s m args below meth c s₁ Bd hml0 hP hK
  obtain ⟨rfl, hZ, hh⟩ := hP
  have hx := Bd.exec
  have hby := Bd.bytes
  have hml : c.maxLocals = 2 := hml0
  have hown : s.vm.findClass "java/util/Objects" = some m.cls := findClass_of_methodNamed Bd.named
  have hnm := (name_of_methodNamed Bd.named Bd.method).1
  have X0 : Stand p l e ({ frames := 0, cells := 0, slots := 0, locals := 0 } : Room) s m #[(.ref a0), (.ref a1)] below meth c s₁ [] 0 0 := Stand.of_body Bd
  have e0 : s₁.heap = h0 := by rw [← hh, Bd.state]; rfl
  have N0 := Fr.nil n0
  refine Owe.step (T := s₁) (T' := s₁) (g' := (mkF m 0 #[.val (.ref a0), .val (.ref a1)] [])) (fun t k => castTop (own_ef5 m a0 a1) k) ?_
  rw [show own_f5_0 a0 = a0 from rfl]
  refine Owe.ret X0 Bd.notSynchronized (v := (some (.ref a0))) (fun h => by rw [Bd.returns] at h; cases h) (fun fs hr => ?_) ⟨rfl, N0, e0⟩ (by decide) (by decide)
  show Steps p.tables e below (s₁.setTop (mkF m 0 #[.val (.ref a0), .val (.ref a1)] [])) _
  refine XS.aloadN X0.here hx rfl (hb hby own_d5_0) rfl rfl ?_
  show Steps p.tables e below (s₁.setTop (mkF m 1 #[.val (.ref a0), .val (.ref a1)] [(.ref a0)])) _
  refine XS.ifnonnullYes X0.here hx rfl (pc0 := 1) (pc' := 13) rfl (hb hby own_d5_1) rfl (by decide) (by decide) ?_
  show Steps p.tables e below (s₁.setTop (mkF m 13 #[.val (.ref a0), .val (.ref a1)] [])) _
  refine XS.aloadN X0.here hx rfl (hb hby own_d5_13) rfl rfl ?_
  show Steps p.tables e below (s₁.setTop (mkF m 14 #[.val (.ref a0), .val (.ref a1)] [(.ref a0)])) _
  exact retA X0 hx Bd.returns rfl rfl (hb hby own_d5_14) hr
theorem own_d1_0 : decode prog_83_method_1_code 0 = .ok (.aload_n 0, 1) := by decide +kernel
theorem own_d1_1 : decode prog_83_method_1_code 1 = .ok (.invokespecial 1, 3) := by decide +kernel
theorem own_d1_4 : decode prog_83_method_1_code 4 = .ok (.aload_n 0, 1) := by decide +kernel
theorem own_d1_5 : decode prog_83_method_1_code 5 = .ok (.aload_n 1, 1) := by decide +kernel
theorem own_d1_6 : decode prog_83_method_1_code 6 = .ok (.invokevirtual 7, 3) := by decide +kernel
theorem own_d1_9 : decode prog_83_method_1_code 9 = .ok (.checkcast 8, 3) := by decide +kernel
theorem own_d1_12 : decode prog_83_method_1_code 12 = .ok (.putfield 13, 3) := by decide +kernel
theorem own_d1_15 : decode prog_83_method_1_code 15 = .ok (.return_, 1) := by decide +kernel
theorem own_pn2 : plainName "com/example/privlint/privlint/model/SigningCertificate" = true := by first | (simp [plainName, overriddenIn]; done) | decide +kernel
theorem own_ef1 (m : MethodId) (a0 : Addr) (a1 : Addr) : entryFrame m #[(.ref a0), (.ref a1)] 2 = mkF m 0 #[.val (.ref a0), .val (.ref a1)] [] := by first | (simp [entryFrame, mkF, argsToLocals, Value.category]; done) | rfl
def own_Q1 (Z : State) (a0 : Addr) (a1 : Addr) (fn : Nat → Int32) (h0 : Heap) (n0 : Nat) (v : Option Value) (h : Heap) (L : List Loc) : Prop := ∃ b2 : Addr, v = none ∧ Fr n0 L ∧ Keep h0 h [a0] ∧ h0.size ≤ b2 ∧ Exa Z h a0 "com/example/privlint/privlint/model/SigningCertificate" ∧ Fld Z h a0 "com/example/privlint/privlint/model/SigningCertificate" "encoded" "[B" (.ref b2) ∧ Exa Z h b2 "[B"
set_option maxRecDepth 65536 in
set_option maxHeartbeats 40000000 in
theorem own_rm1 (l : Launch) (Z : State) (aA : Array Value) (hw : ∀ d ∈ tables_1, d.before aA Z = true) (ws : List Jvm.Cond) (a0 : Addr) (a1 : Addr) (fn : Nat → Int32) (h0 : Heap) (n0 : Nat) (Z0 : n0 ≤ h0.size) (E_a0 : Exa Z h0 a0 "com/example/privlint/privlint/model/SigningCertificate") (F_enc : Fld Z h0 a0 "com/example/privlint/privlint/model/SigningCertificate" "encoded" "[B" .null) (A_1 : AI Z h0 a1 .byte 0 fn) (E_a1 : Exa Z h0 a1 "[B") (ne01 : a0 ≠ a1) (g_a0 : n0 ≤ a0) :
    MetFree l (⟨"com/example/privlint/privlint/model/SigningCertificate", "<init>", "([B)V"⟩ : MethodName) (head1 (Jvm.Cond.code (⟨"com/example/privlint/privlint/model/SigningCertificate", "<init>", "([B)V"⟩ : MethodName) prog_83_method_1_code 2 none :: ws) ({ frames := 1, cells := 1, slots := 0, locals := 15 } : Room)) (fun a U => a = #[(.ref a0), (.ref a1)] ∧ Z.Warmed39 U.vm ∧ U.heap = h0) (fun _ _ _ _ _ => True) (fun _ U o U' => ∃ v L, o = .returned v ∧ (own_Q1 Z a0 a1 fn h0 n0) v U'.heap L ∧ FrameEnd U o U' L ({ frames := 1, cells := 1, slots := 0, locals := 15 } : Room).cells ({ frames := 1, cells := 1, slots := 0, locals := 15 } : Room).slots) := by
  refine MetFree.of_bodySF (plainFor_of_name own_pn2) hisR ?_
  intro p e s m args below meth c s₁ Bd hml0 hP hK
  obtain ⟨rfl, hZ, hh⟩ := hP
  have hx := Bd.exec
  have hby := Bd.bytes
  have hml : c.maxLocals = 2 := hml0
  have hown : s.vm.findClass "com/example/privlint/privlint/model/SigningCertificate" = some m.cls := findClass_of_methodNamed Bd.named
  have hnm := (name_of_methodNamed Bd.named Bd.method).1
  have X0 : Stand p l e ({ frames := 1, cells := 1, slots := 0, locals := 15 } : Room) s m #[(.ref a0), (.ref a1)] below meth c s₁ [] 0 0 := Stand.of_body Bd
  have e0 : s₁.heap = h0 := by rw [← hh, Bd.state]; rfl
  have N0 := Fr.nil n0
  refine Owe.step (T := s₁) (T' := s₁) (g' := (mkF m 0 #[.val (.ref a0), .val (.ref a1)] [])) (fun t k => castTop (own_ef1 m a0 a1) k) ?_
  obtain ⟨T1, X1, e1, st1⟩ := initO X0 hx hZ hown (hw _ (List.mem_of_getElem? (i := 7) rfl)) (hw _ (List.mem_of_getElem? (i := 8) rfl)) (hw _ (List.mem_of_getElem? (i := 9) rfl)) e0 (g := (mkF m 1 #[.val (.ref a0), .val (.ref a1)] [(.ref a0)])) rfl (by rw [hml]; rfl) rfl (hb hby own_d1_1) (by decide) (W := 0) (by show 2 * 0 + _ ≤ _; exact Nat.le_of_eq rfl) (by decide)
  obtain ⟨cl2, Ar2, Fc2, sz2⟩ := fitC0 A_1
  obtain ⟨T2, h2, X2, e2, E2, Ac2, A2, st2⟩ := cloneA X1 hx hZ hown (hw _ (List.mem_of_getElem? (i := 10) rfl)) (hw _ (List.mem_of_getElem? (i := 11) rfl)) (hw _ (List.mem_of_getElem? (i := 15) rfl)) (hw _ (List.mem_of_getElem? (i := 13) rfl)) (hw _ (List.mem_of_getElem? (i := 14) rfl)) (hw _ (List.mem_of_getElem? (i := 16) rfl)) e1 Ar2 E_a1 Fc2 (g := (mkF m 6 #[.val (.ref a0), .val (.ref a1)] [(.ref a1), (.ref a0)])) rfl (by rw [hml]; rfl) rfl (hb hby own_d1_6) (by decide) (W := 1) (cap := 0) (by show 2 * 0 + _ ≤ _; exact Nat.le_of_eq rfl) (by decide) sz2 (by decide) (by decide)
  obtain ⟨b2, g2⟩ : ∃ z, z = h0.size := ⟨_, rfl⟩
  rw [← g2] at A2 st2
  have ne_a0_b2 : a0 ≠ b2 := Nat.ne_of_lt (Nat.lt_of_lt_of_le E_a0.lt (Nat.le_of_eq g2.symm))
  have ne_a1_b2 : a1 ≠ b2 := Nat.ne_of_lt (Nat.lt_of_lt_of_le A_1.lt (Nat.le_of_eq g2.symm))
  have g_b2 : n0 ≤ b2 := Nat.le_trans Z0 (Nat.le_of_eq g2.symm)
  have sz_b2 : h0.size ≤ b2 := Nat.le_trans (Keep.refl h0 [a0]).1 (Nat.le_of_eq g2.symm)
  have E_a0_x2 := E_a0.ext E2
  have F_enc_x2 := F_enc.ext E2
  have A_1_x2 := A_1.ext E2
  have E_a1_x2 := E_a1.ext E2
  have K2 := (Keep.refl h0 [a0]).ext E2
  have Zn2 : n0 ≤ h2.size := Nat.le_trans Z0 E2.1
  obtain ⟨T3, X3, e3, st3⟩ := castY X2 hx hZ hown (hw _ (List.mem_of_getElem? (i := 17) rfl)) e2 (Ins.self A2) (g := (mkF m 9 #[.val (.ref a0), .val (.ref a1)] [(.ref b2), (.ref a0)])) rfl rfl (hb hby own_d1_9)
  obtain ⟨T4, h4, X4, e4, W4, st4⟩ := putF X3 hx hZ hown (host := "") (Or.inl (hw _ (List.mem_of_getElem? (i := 19) rfl))) Via.refl e3 F_enc_x2 E_a0_x2 (Or.inr ⟨(hw _ (List.mem_of_getElem? (i := 20) rfl)), rfl, hnm⟩) (hw _ (List.mem_of_getElem? (i := 1) rfl)) (ty := (.array .byte)) (by decide) rfl rfl (g := (mkF m 12 #[.val (.ref a0), .val (.ref a1)] [(.ref b2), (.ref a0)])) rfl rfl (hb hby own_d1_12)
  have Fn4 := F_enc_x2.same W4
  have E_a0_w4 := E_a0_x2.wr W4
  have A_1_w4 := A_1_x2.other W4 (Ne.symm ne01)
  have E_a1_w4 := E_a1_x2.wr W4
  have A2_w4 := A2.wr W4
  have K4 := K2.wr W4 (Or.inl (List.mem_of_getElem? (i := 0) rfl))
  have N4 := Fr.snoc X4 N0 g_a0
  have Zn4 : n0 ≤ h4.size := Nat.le_trans Zn2 (Keep.of_wr W4).1
  refine Owe.step (T' := T4) (g' := (mkF m 15 #[.val (.ref a0), .val (.ref a1)] [])) (fun t k => ?_) ?_
  · show Steps p.tables e below (s₁.setTop (mkF m 0 #[.val (.ref a0), .val (.ref a1)] [])) t
    refine XS.aloadN X0.here hx rfl (hb hby own_d1_0) rfl rfl ?_
    show Steps p.tables e below (s₁.setTop (mkF m 1 #[.val (.ref a0), .val (.ref a1)] [(.ref a0)])) t
    refine st1 _ ?_
    show Steps p.tables e below (T1.setTop (mkF m 4 #[.val (.ref a0), .val (.ref a1)] [])) t
    refine XS.aloadN X1.here hx rfl (hb hby own_d1_4) rfl rfl ?_
    show Steps p.tables e below (T1.setTop (mkF m 5 #[.val (.ref a0), .val (.ref a1)] [(.ref a0)])) t
    refine XS.aloadN X1.here hx rfl (hb hby own_d1_5) rfl rfl ?_
    show Steps p.tables e below (T1.setTop (mkF m 6 #[.val (.ref a0), .val (.ref a1)] [(.ref a1), (.ref a0)])) t
    refine st2 _ ?_
    show Steps p.tables e below (T2.setTop (mkF m 9 #[.val (.ref a0), .val (.ref a1)] [(.ref b2), (.ref a0)])) t
    refine st3 _ ?_
    show Steps p.tables e below (T3.setTop (mkF m 12 #[.val (.ref a0), .val (.ref a1)] [(.ref b2), (.ref a0)])) t
    refine st4 _ ?_
    show Steps p.tables e below (T4.setTop (mkF m 15 #[.val (.ref a0), .val (.ref a1)] [])) t
    exact k
  refine Owe.ret X4 Bd.notSynchronized (v := none) (fun _ => rfl) (fun fs hr => ?_) (by rw [e4]; exact ⟨b2, rfl, N4, K4, sz_b2, E_a0_w4, Fn4, A2_w4⟩) (by decide) (by decide)
  show Steps p.tables e below (T4.setTop (mkF m 15 #[.val (.ref a0), .val (.ref a1)] [])) _
  exact X4.returnOut hx Bd.returns (hb hby own_d1_15) hr
theorem own_d3_0 : decode prog_81_method_1_code 0 = .ok (.aload_n 0, 1) := by decide +kernel
theorem own_d3_1 : decode prog_81_method_1_code 1 = .ok (.invokespecial 1, 3) := by decide +kernel
theorem own_d3_4 : decode prog_81_method_1_code 4 = .ok (.aload_n 1, 1) := by decide +kernel
theorem own_d3_5 : decode prog_81_method_1_code 5 = .ok (.ldc 7, 2) := by decide +kernel
theorem own_d3_7 : decode prog_81_method_1_code 7 = .ok (.invokestatic 9, 3) := by decide +kernel
theorem own_d3_10 : decode prog_81_method_1_code 10 = .ok (.pop, 1) := by decide +kernel
theorem own_d3_11 : decode prog_81_method_1_code 11 = .ok (.aload_n 0, 1) := by decide +kernel
theorem own_d3_12 : decode prog_81_method_1_code 12 = .ok (.aload_n 1, 1) := by decide +kernel
theorem own_d3_13 : decode prog_81_method_1_code 13 = .ok (.putfield 15, 3) := by decide +kernel
theorem own_d3_16 : decode prog_81_method_1_code 16 = .ok (.aload_n 0, 1) := by decide +kernel
theorem own_d3_17 : decode prog_81_method_1_code 17 = .ok (.iload_n 2, 1) := by decide +kernel
theorem own_d3_18 : decode prog_81_method_1_code 18 = .ok (.putfield 20, 3) := by decide +kernel
theorem own_d3_21 : decode prog_81_method_1_code 21 = .ok (.aload_n 0, 1) := by decide +kernel
theorem own_d3_22 : decode prog_81_method_1_code 22 = .ok (.iload_n 3, 1) := by decide +kernel
theorem own_d3_23 : decode prog_81_method_1_code 23 = .ok (.putfield 24, 3) := by decide +kernel
theorem own_d3_26 : decode prog_81_method_1_code 26 = .ok (.return_, 1) := by decide +kernel
theorem own_pd0 : parseMethodDescriptor "()V" = some ⟨[], none⟩ := by decide +kernel
theorem own_pd1 : parseMethodDescriptor "(Ljava/lang/Object;Ljava/lang/String;)Ljava/lang/Object;" = some ⟨[(.object "java/lang/Object"), (.object "java/lang/String")], some (.object "java/lang/Object")⟩ := by decide +kernel
theorem own_pn3 : plainName "com/example/privlint/privlint/model/Signer" = true := by first | (simp [plainName, overriddenIn]; done) | decide +kernel
theorem own_ef3 (m : MethodId) (a0 : Addr) (a1 : Addr) (p2 : Int32) (p3 : Int32) : entryFrame m #[(.ref a0), (.ref a1), (.int p2), (.int p3)] 4 = mkF m 0 #[.val (.ref a0), .val (.ref a1), .val (.int p2), .val (.int p3)] [] := by first | (simp [entryFrame, mkF, argsToLocals, Value.category]; done) | rfl
def own_Q3 (Z : State) (a0 : Addr) (a1 : Addr) (p2 : Int32) (p3 : Int32) (h0 : Heap) (n0 : Nat) (v : Option Value) (h : Heap) (L : List Loc) : Prop := v = none ∧ Fr n0 L ∧ Keep h0 h [a0] ∧ Exa Z h a0 "com/example/privlint/privlint/model/Signer" ∧ Fld Z h a0 "com/example/privlint/privlint/model/Signer" "certificate" "Lcom/example/privlint/privlint/model/SigningCertificate;" (.ref a1) ∧ Fld Z h a0 "com/example/privlint/privlint/model/Signer" "minLevel" "I" (.int p2) ∧ Fld Z h a0 "com/example/privlint/privlint/model/Signer" "maxLevel" "I" (.int p3)
set_option maxRecDepth 65536 in
set_option maxHeartbeats 40000000 in
theorem own_rm3 (l : Launch) (Z : State) (aA : Array Value) (hw : ∀ d ∈ tables_1, d.before aA Z = true) (ws : List Jvm.Cond) (a0 : Addr) (a1 : Addr) (p2 : Int32) (p3 : Int32)  (h0 : Heap) (n0 : Nat) (Z0 : n0 ≤ h0.size) (E_a0 : Exa Z h0 a0 "com/example/privlint/privlint/model/Signer") (F_c : Fld Z h0 a0 "com/example/privlint/privlint/model/Signer" "certificate" "Lcom/example/privlint/privlint/model/SigningCertificate;" .null) (F_min : Fld Z h0 a0 "com/example/privlint/privlint/model/Signer" "minLevel" "I" (.int (0 : Int32))) (F_max : Fld Z h0 a0 "com/example/privlint/privlint/model/Signer" "maxLevel" "I" (.int (0 : Int32))) (g_a0 : n0 ≤ a0) :
    MetFree l (⟨"com/example/privlint/privlint/model/Signer", "<init>", "(Lcom/example/privlint/privlint/model/SigningCertificate;II)V"⟩ : MethodName) (head1 (Jvm.Cond.code (⟨"com/example/privlint/privlint/model/Signer", "<init>", "(Lcom/example/privlint/privlint/model/SigningCertificate;II)V"⟩ : MethodName) prog_81_method_1_code 4 none :: ws) ({ frames := 2, cells := 2, slots := 48, locals := 24 } : Room)) (fun a U => a = #[(.ref a0), (.ref a1), (.int p2), (.int p3)] ∧ Z.Warmed39 U.vm ∧ U.heap = h0) (fun _ _ _ _ _ => True) (fun _ U o U' => ∃ v L, o = .returned v ∧ (own_Q3 Z a0 a1 p2 p3 h0 n0) v U'.heap L ∧ ReturnedEndW U o U' L ({ frames := 2, cells := 2, slots := 48, locals := 24 } : Room).cells ({ frames := 2, cells := 2, slots := 48, locals := 24 } : Room).slots) := by
  refine MetFree.of_bodySF (plainFor_of_name own_pn3) hisR ?_
  intro p e s m args below meth c s₁ Bd hml0 hP hK
  obtain ⟨rfl, hZ, hh⟩ := hP
  have hx := Bd.exec
  have hby := Bd.bytes
  have hml : c.maxLocals = 4 := hml0
  have hown : s.vm.findClass "com/example/privlint/privlint/model/Signer" = some m.cls := findClass_of_methodNamed Bd.named
  have hnm := (name_of_methodNamed Bd.named Bd.method).1
  have X0 : Stand p l e ({ frames := 2, cells := 2, slots := 48, locals := 24 } : Room) s m #[(.ref a0), (.ref a1), (.int p2), (.int p3)] below meth c s₁ [] 0 0 := Stand.of_body Bd
  have e0 : s₁.heap = h0 := by rw [← hh, Bd.state]; rfl
  have N0 := Fr.nil n0
  refine OweW.step (T := s₁) (T' := s₁) (g' := (mkF m 0 #[.val (.ref a0), .val (.ref a1), .val (.int p2), .val (.int p3)] [])) (fun t k => castTop (own_ef3 m a0 a1 p2 p3) k) ?_
  obtain ⟨_, _, ⟨T1, L1, k1, n1⟩, -, X1, ⟨Lc1, hQ1, l1, y1, z1⟩, st1⟩ := X0.specialBack hx (y := (⟨"java/lang/Record", "<init>", "()V"⟩ : MethodName)) rfl hown (mvT hZ (hw _ (List.mem_of_getElem? (i := 27) rfl))) (mvT hZ (hw _ (List.mem_of_getElem? (i := 28) rfl))) (mvT hZ (hw _ (List.mem_of_getElem? (i := 31) rfl))) (by decide) (backOf (W := 0) (own_rm4 l Z aA hw [] a0 h0 n0 Z0 ) hZ (hw _ (List.mem_of_getElem? (i := 31) rfl)) (hw _ (List.mem_of_getElem? (i := 30) rfl)) (by decide) (by decide)) (g := (mkF m 1 #[.val (.ref a0), .val (.ref a1), .val (.int p2), .val (.int p3)] [(.ref a0)])) rfl (by rw [hml]; rfl) (Steps.refl _) (a := a0) (argsL := []) (rest := []) (lenOf own_pd0 rfl) rfl (by show 2 * 0 + _ ≤ _; exact Nat.le_of_eq rfl) (hb hby own_d3_1) (fun _ _ => ⟨rfl, e0, (by decide : 0 + 0 ≤ _), (by decide : 0 + 0 ≤ _)⟩)
  dsimp only [Pt.U, Pt.locs, Pt.cells, Pt.slots] at X1 l1 y1 z1 st1 hQ1
  subst y1 z1
  obtain ⟨rfl, N1q, e1⟩ := hQ1
  have N1 : Fr n0 L1 := by rw [l1]; exact Fr.app N0 N1q
  have wS2 : ∀ d ∈ Bundle.stringAtoms, d.before aA Z = true := fun d hd => by
    simp only [Bundle.stringAtoms, List.mem_cons, List.not_mem_nil, or_false] at hd
    rcases hd with rfl | rfl | rfl | rfl | rfl | rfl | rfl
    · exact (hw _ (List.mem_of_getElem? (i := 34) rfl))
    · exact (hw _ (List.mem_of_getElem? (i := 35) rfl))
    · exact (hw _ (List.mem_of_getElem? (i := 3) rfl))
    · exact (hw _ (List.mem_of_getElem? (i := 36) rfl))
    · exact (hw _ (List.mem_of_getElem? (i := 37) rfl))
    · exact (hw _ (List.mem_of_getElem? (i := 38) rfl))
    · exact (hw _ (List.mem_of_getElem? (i := 39) rfl))
  obtain ⟨a2, T2, h2, k2, X2, e2, E2, S2, kh2, hZ, hown, st2⟩ := ldcS (s := s) (vm0 := s.vm) X1 hx hZ hown (hw _ (List.mem_of_getElem? (i := 33) rfl)) wS2 e1 (k0 := 0) (since0 s) (Nat.zero_le _) (g := (mkF m 5 #[.val (.ref a0), .val (.ref a1), .val (.int p2), .val (.int p3)] [(.ref a1)])) rfl (hb hby own_d3_5) (n := 44) (by decide) (by decide) (by decide) (by decide)
  have E_a0_x2 := E_a0.ext E2
  have F_c_x2 := F_c.ext E2
  have F_min_x2 := F_min.ext E2
  have F_max_x2 := F_max.ext E2
  have K2 := (Keep.refl h0 [a0]).ext E2
  have Zn2 : n0 ≤ h2.size := Nat.le_trans Z0 E2.1
  obtain ⟨_, _, ⟨T3, L3, k3, n3⟩, -, X3, ⟨Lc3, hQ3, l3, y3, z3⟩, st3⟩ := Jvm.LawKit.callS X2 hx (y := (⟨"java/util/Objects", "requireNonNull", "(Ljava/lang/Object;Ljava/lang/String;)Ljava/lang/Object;"⟩ : MethodName)) hown (mvT hZ (hw _ (List.mem_of_getElem? (i := 40) rfl))) (mvT hZ (hw _ (List.mem_of_getElem? (i := 41) rfl))) (mvT hZ (hw _ (List.mem_of_getElem? (i := 42) rfl))) (mvT hZ (hw _ (List.mem_of_getElem? (i := 43) rfl))) (by decide) (backOf (W := 0) (own_rm5 l Z aA hw [] a1 a2 h2 n0 Zn2 ) hZ (hw _ (List.mem_of_getElem? (i := 43) rfl)) (hw _ (List.mem_of_getElem? (i := 42) rfl)) (by decide) (by decide)) (g := (mkF m 7 #[.val (.ref a0), .val (.ref a1), .val (.int p2), .val (.int p3)] [(.ref a2), (.ref a1)])) rfl (by rw [hml]; rfl) (argsL := [(.ref a1), (.ref a2)]) (rest := []) (lenOf own_pd1 rfl) rfl (by show 2 * 0 + _ ≤ _; exact Nat.le_of_eq rfl) (hb hby own_d3_7) (fun _ _ => ⟨rfl, e2, (by decide : 2 + 0 ≤ _), (by decide : 48 + 0 ≤ _)⟩)
  dsimp only [Pt.U, Pt.locs, Pt.cells, Pt.slots] at X3 l3 y3 z3 st3 hQ3
  subst y3 z3
  obtain ⟨rfl, N3q, e3⟩ := hQ3
  have N3 : Fr n0 L3 := by rw [l3]; exact Fr.app N1 N3q
  obtain ⟨T4, h4, X4, e4, W4, st4⟩ := putF X3 hx hZ hown (host := "") (Or.inl (hw _ (List.mem_of_getElem? (i := 44) rfl))) Via.refl e3 F_c_x2 E_a0_x2 (Or.inr ⟨(hw _ (List.mem_of_getElem? (i := 45) rfl)), rfl, hnm⟩) (hw _ (List.mem_of_getElem? (i := 22) rfl)) (ty := (.object "com/example/privlint/privlint/model/SigningCertificate")) (by decide) rfl rfl (g := (mkF m 13 #[.val (.ref a0), .val (.ref a1), .val (.int p2), .val (.int p3)] [(.ref a1), (.ref a0)])) rfl rfl (hb hby own_d3_13)
  have Fn4 := F_c_x2.same W4
  have E_a0_w4 := E_a0_x2.wr W4
  have F_min_w4 := F_min_x2.other W4 (Or.inr (slot_ne (Or.inr (hw _ (List.mem_of_getElem? (i := 47) rfl))) (Or.inr (hw _ (List.mem_of_getElem? (i := 45) rfl))) (by decide) (t := .int) (t' := (.object "com/example/privlint/privlint/model/SigningCertificate")) (by decide) (by decide)))
  have F_max_w4 := F_max_x2.other W4 (Or.inr (slot_ne (Or.inr (hw _ (List.mem_of_getElem? (i := 49) rfl))) (Or.inr (hw _ (List.mem_of_getElem? (i := 45) rfl))) (by decide) (t := .int) (t' := (.object "com/example/privlint/privlint/model/SigningCertificate")) (by decide) (by decide)))
  have K4 := K2.wr W4 (Or.inl (List.mem_of_getElem? (i := 0) rfl))
  have N4 := Fr.snoc X4 N3 g_a0
  have Zn4 : n0 ≤ h4.size := Nat.le_trans Zn2 (Keep.of_wr W4).1
  have kh4 : k2 ≤ h4.size := Nat.le_trans kh2 (Keep.of_wr W4).1
  obtain ⟨T5, h5, X5, e5, W5, st5⟩ := putF X4 hx hZ hown (host := "") (Or.inl (hw _ (List.mem_of_getElem? (i := 46) rfl))) Via.refl e4 F_min_w4 E_a0_w4 (Or.inr ⟨(hw _ (List.mem_of_getElem? (i := 47) rfl)), rfl, hnm⟩) (hw _ (List.mem_of_getElem? (i := 22) rfl)) (ty := .int) (by decide) rfl rfl (g := (mkF m 18 #[.val (.ref a0), .val (.ref a1), .val (.int p2), .val (.int p3)] [(.int p2), (.ref a0)])) rfl rfl (hb hby own_d3_18)
  have Fn5 := F_min_w4.same W5
  have E_a0_w5 := E_a0_w4.wr W5
  have F_max_w5 := F_max_w4.other W5 (Or.inr (slot_ne (Or.inr (hw _ (List.mem_of_getElem? (i := 49) rfl))) (Or.inr (hw _ (List.mem_of_getElem? (i := 47) rfl))) (by decide) (t := .int) (t' := .int) (by decide) (by decide)))
  have Fn4_w5 := Fn4.other W5 (Or.inr (slot_ne (Or.inr (hw _ (List.mem_of_getElem? (i := 45) rfl))) (Or.inr (hw _ (List.mem_of_getElem? (i := 47) rfl))) (by decide) (t := (.object "com/example/privlint/privlint/model/SigningCertificate")) (t' := .int) (by decide) (by decide)))
  have K5 := K4.wr W5 (Or.inl (List.mem_of_getElem? (i := 0) rfl))
  have N5 := Fr.snoc X5 N4 g_a0
  have Zn5 : n0 ≤ h5.size := Nat.le_trans Zn4 (Keep.of_wr W5).1
  have kh5 : k2 ≤ h5.size := Nat.le_trans kh4 (Keep.of_wr W5).1
  obtain ⟨T6, h6, X6, e6, W6, st6⟩ := putF X5 hx hZ hown (host := "") (Or.inl (hw _ (List.mem_of_getElem? (i := 48) rfl))) Via.refl e5 F_max_w5 E_a0_w5 (Or.inr ⟨(hw _ (List.mem_of_getElem? (i := 49) rfl)), rfl, hnm⟩) (hw _ (List.mem_of_getElem? (i := 22) rfl)) (ty := .int) (by decide) rfl rfl (g := (mkF m 23 #[.val (.ref a0), .val (.ref a1), .val (.int p2), .val (.int p3)] [(.int p3), (.ref a0)])) rfl rfl (hb hby own_d3_23)
  have Fn6 := F_max_w5.same W6
  have E_a0_w6 := E_a0_w5.wr W6
  have Fn4_w6 := Fn4_w5.other W6 (Or.inr (slot_ne (Or.inr (hw _ (List.mem_of_getElem? (i := 45) rfl))) (Or.inr (hw _ (List.mem_of_getElem? (i := 49) rfl))) (by decide) (t := (.object "com/example/privlint/privlint/model/SigningCertificate")) (t' := .int) (by decide) (by decide)))
  have Fn5_w6 := Fn5.other W6 (Or.inr (slot_ne (Or.inr (hw _ (List.mem_of_getElem? (i := 47) rfl))) (Or.inr (hw _ (List.mem_of_getElem? (i := 49) rfl))) (by decide) (t := .int) (t' := .int) (by decide) (by decide)))
  have K6 := K5.wr W6 (Or.inl (List.mem_of_getElem? (i := 0) rfl))
  have N6 := Fr.snoc X6 N5 g_a0
  have Zn6 : n0 ≤ h6.size := Nat.le_trans Zn5 (Keep.of_wr W6).1
  have kh6 : k2 ≤ h6.size := Nat.le_trans kh5 (Keep.of_wr W6).1
  refine OweW.step (T' := T6) (g' := (mkF m 26 #[.val (.ref a0), .val (.ref a1), .val (.int p2), .val (.int p3)] [])) (fun t k => ?_) ?_
  · show Steps p.tables e below (s₁.setTop (mkF m 0 #[.val (.ref a0), .val (.ref a1), .val (.int p2), .val (.int p3)] [])) t
    refine XS.aloadN X0.here hx rfl (hb hby own_d3_0) rfl rfl ?_
    show Steps p.tables e below (s₁.setTop (mkF m 1 #[.val (.ref a0), .val (.ref a1), .val (.int p2), .val (.int p3)] [(.ref a0)])) t
    refine st1.trans ?_
    show Steps p.tables e below (T1.setTop (mkF m 4 #[.val (.ref a0), .val (.ref a1), .val (.int p2), .val (.int p3)] [])) t
    refine XS.aloadN X1.here hx rfl (hb hby own_d3_4) rfl rfl ?_
    show Steps p.tables e below (T1.setTop (mkF m 5 #[.val (.ref a0), .val (.ref a1), .val (.int p2), .val (.int p3)] [(.ref a1)])) t
    refine st2 _ ?_
    show Steps p.tables e below (T2.setTop (mkF m 7 #[.val (.ref a0), .val (.ref a1), .val (.int p2), .val (.int p3)] [(.ref a2), (.ref a1)])) t
    refine st3 _ ?_
    show Steps p.tables e below (T3.setTop (mkF m 10 #[.val (.ref a0), .val (.ref a1), .val (.int p2), .val (.int p3)] [(.ref (own_f5_0 a1))])) t
    refine XS.pop X3.here hx rfl (hb hby own_d3_10) rfl rfl ?_
    show Steps p.tables e below (T3.setTop (mkF m 11 #[.val (.ref a0), .val (.ref a1), .val (.int p2), .val (.int p3)] [])) t
    refine XS.aloadN X3.here hx rfl (hb hby own_d3_11) rfl rfl ?_
    show Steps p.tables e below (T3.setTop (mkF m 12 #[.val (.ref a0), .val (.ref a1), .val (.int p2), .val (.int p3)] [(.ref a0)])) t
    refine XS.aloadN X3.here hx rfl (hb hby own_d3_12) rfl rfl ?_
    show Steps p.tables e below (T3.setTop (mkF m 13 #[.val (.ref a0), .val (.ref a1), .val (.int p2), .val (.int p3)] [(.ref a1), (.ref a0)])) t
    refine st4 _ ?_
    show Steps p.tables e below (T4.setTop (mkF m 16 #[.val (.ref a0), .val (.ref a1), .val (.int p2), .val (.int p3)] [])) t
    refine XS.aloadN X4.here hx rfl (hb hby own_d3_16) rfl rfl ?_
    show Steps p.tables e below (T4.setTop (mkF m 17 #[.val (.ref a0), .val (.ref a1), .val (.int p2), .val (.int p3)] [(.ref a0)])) t
    refine XS.iloadN X4.here hx rfl (hb hby own_d3_17) rfl ?_
    show Steps p.tables e below (T4.setTop (mkF m 18 #[.val (.ref a0), .val (.ref a1), .val (.int p2), .val (.int p3)] [(.int p2), (.ref a0)])) t
    refine st5 _ ?_
    show Steps p.tables e below (T5.setTop (mkF m 21 #[.val (.ref a0), .val (.ref a1), .val (.int p2), .val (.int p3)] [])) t
    refine XS.aloadN X5.here hx rfl (hb hby own_d3_21) rfl rfl ?_
    show Steps p.tables e below (T5.setTop (mkF m 22 #[.val (.ref a0), .val (.ref a1), .val (.int p2), .val (.int p3)] [(.ref a0)])) t
    refine XS.iloadN X5.here hx rfl (hb hby own_d3_22) rfl ?_
    show Steps p.tables e below (T5.setTop (mkF m 23 #[.val (.ref a0), .val (.ref a1), .val (.int p2), .val (.int p3)] [(.int p3), (.ref a0)])) t
    refine st6 _ ?_
    show Steps p.tables e below (T6.setTop (mkF m 26 #[.val (.ref a0), .val (.ref a1), .val (.int p2), .val (.int p3)] [])) t
    exact k
  refine OweW.ret X6 S2 (by rw [e6]; exact kh6) Bd.notSynchronized (v := none) (fun _ => rfl) (fun fs hr => ?_) (by rw [e6]; exact ⟨rfl, N6, K6, E_a0_w6, Fn4_w6, Fn5_w6, Fn6⟩) (by decide) (by decide)
  show Steps p.tables e below (T6.setTop (mkF m 26 #[.val (.ref a0), .val (.ref a1), .val (.int p2), .val (.int p3)] [])) _
  exact X6.returnOut hx Bd.returns (hb hby own_d3_26) hr
theorem own_d6_0 : decode prog_81_method_2_code 0 = .ok (.iload_n 1, 1) := by decide +kernel
theorem own_d6_1 : decode prog_81_method_2_code 1 = .ok (.aload_n 0, 1) := by decide +kernel
theorem own_d6_2 : decode prog_81_method_2_code 2 = .ok (.getfield 20, 3) := by decide +kernel
theorem own_d6_5 : decode prog_81_method_2_code 5 = .ok (.if_icmp .lt 15, 3) := by decide +kernel
theorem own_d6_8 : decode prog_81_method_2_code 8 = .ok (.iload_n 1, 1) := by decide +kernel
theorem own_d6_9 : decode prog_81_method_2_code 9 = .ok (.aload_n 0, 1) := by decide +kernel
theorem own_d6_10 : decode prog_81_method_2_code 10 = .ok (.getfield 24, 3) := by decide +kernel
theorem own_d6_13 : decode prog_81_method_2_code 13 = .ok (.if_icmp .gt 7, 3) := by decide +kernel
theorem own_d6_16 : decode prog_81_method_2_code 16 = .ok (.iconst 1, 1) := by decide +kernel
theorem own_d6_17 : decode prog_81_method_2_code 17 = .ok (.goto 4, 3) := by decide +kernel
theorem own_d6_20 : decode prog_81_method_2_code 20 = .ok (.iconst 0, 1) := by decide +kernel
theorem own_d6_21 : decode prog_81_method_2_code 21 = .ok (.ireturn, 1) := by decide +kernel
theorem own_ef6 (m : MethodId) (a0 : Addr) (p1 : Int32) : entryFrame m #[(.ref a0), (.int p1)] 2 = mkF m 0 #[.val (.ref a0), .val (.int p1)] [] := by first | (simp [entryFrame, mkF, argsToLocals, Value.category]; done) | rfl
def own_f6_0 (p1 : Int32) (w1 : Int32) (w2 : Int32) : Int32 := (if p1 < w1 then (0 : Int32) else (if w2 < p1 then (0 : Int32) else (1 : Int32)))
set_option maxRecDepth 65536 in
set_option maxHeartbeats 40000000 in
theorem own_rm6 (l : Launch) (Z : State) (aA : Array Value) (hw : ∀ d ∈ tables_1, d.before aA Z = true) (ws : List Jvm.Cond) (a0 : Addr) (p1 : Int32) (w1 : Int32) (w2 : Int32) (h0 : Heap) (n0 : Nat) (Z0 : n0 ≤ h0.size) (F1 : Fld Z h0 a0 "com/example/privlint/privlint/model/Signer" "minLevel" "I" (.int w1)) (F2 : Fld Z h0 a0 "com/example/privlint/privlint/model/Signer" "maxLevel" "I" (.int w2)) :
    MetFree l (⟨"com/example/privlint/privlint/model/Signer", "isSignerOn", "(I)Z"⟩ : MethodName) (head1 (Jvm.Cond.code (⟨"com/example/privlint/privlint/model/Signer", "isSignerOn", "(I)Z"⟩ : MethodName) prog_81_method_2_code 2 (some .boolean) :: ws) ({ frames := 0, cells := 0, slots := 0, locals := 0 } : Room)) (fun a U => a = #[(.ref a0), (.int p1)] ∧ Z.Warmed39 U.vm ∧ U.heap = h0) (fun _ _ _ _ _ => True) (fun _ U o U' => ∃ v L, o = .returned v ∧ (QP (.int (own_f6_0 p1 w1 w2)) h0 n0) v U'.heap L ∧ FrameEnd U o U' L ({ frames := 0, cells := 0, slots := 0, locals := 0 } : Room).cells ({ frames := 0, cells := 0, slots := 0, locals := 0 } : Room).slots) := by
  refine MetFree.of_bodySF (plainFor_of_name own_pn3) hisR ?_
  intro p e s m args below meth c s₁ Bd hml0 hP hK
  obtain ⟨rfl, hZ, hh⟩ := hP
  have hx := Bd.exec
  have hby := Bd.bytes
  have hml : c.maxLocals = 2 := hml0
  have hown : s.vm.findClass "com/example/privlint/privlint/model/Signer" = some m.cls := findClass_of_methodNamed Bd.named
  have hnm := (name_of_methodNamed Bd.named Bd.method).1
  have X0 : Stand p l e ({ frames := 0, cells := 0, slots := 0, locals := 0 } : Room) s m #[(.ref a0), (.int p1)] below meth c s₁ [] 0 0 := Stand.of_body Bd
  have e0 : s₁.heap = h0 := by rw [← hh, Bd.state]; rfl
  have N0 := Fr.nil n0
  refine Owe.step (T := s₁) (T' := s₁) (g' := (mkF m 0 #[.val (.ref a0), .val (.int p1)] [])) (fun t k => castTop (own_ef6 m a0 p1) k) ?_
  obtain ⟨T1, X1, e1, st1⟩ := getF X0 hx hZ hown (host := "") (Or.inl (hw _ (List.mem_of_getElem? (i := 46) rfl))) Via.refl e0 F1 (g := (mkF m 2 #[.val (.ref a0), .val (.int p1)] [(.ref a0), (.int p1)])) rfl rfl (hb hby own_d6_2)
  refine Owe.step (T' := T1) (g' := (mkF m 5 #[.val (.ref a0), .val (.int p1)] [(.int w1), (.int p1)])) (fun t k => ?_) ?_
  · show Steps p.tables e below (s₁.setTop (mkF m 0 #[.val (.ref a0), .val (.int p1)] [])) t
    refine XS.iloadN X0.here hx rfl (hb hby own_d6_0) rfl ?_
    show Steps p.tables e below (s₁.setTop (mkF m 1 #[.val (.ref a0), .val (.int p1)] [(.int p1)])) t
    refine XS.aloadN X0.here hx rfl (hb hby own_d6_1) rfl rfl ?_
    show Steps p.tables e below (s₁.setTop (mkF m 2 #[.val (.ref a0), .val (.int p1)] [(.ref a0), (.int p1)])) t
    refine st1 _ ?_
    show Steps p.tables e below (T1.setTop (mkF m 5 #[.val (.ref a0), .val (.int p1)] [(.int w1), (.int p1)])) t
    exact k
  by_cases hc5 : p1 < w1
  · refine Owe.step (T' := T1) (g' := (mkF m 20 #[.val (.ref a0), .val (.int p1)] [])) (fun t k => ?_) ?_
    · show Steps p.tables e below (T1.setTop (mkF m 5 #[.val (.ref a0), .val (.int p1)] [(.int w1), (.int p1)])) t
      refine XS.icmpYes X1.here hx rfl (pc0 := 5) (pc' := 20) rfl (hb hby own_d6_5) rfl (tlt hc5).1 (by decide) (by decide) ?_
      show Steps p.tables e below (T1.setTop (mkF m 20 #[.val (.ref a0), .val (.int p1)] [])) t
      exact k
    rw [show own_f6_0 p1 w1 w2 = (0 : Int32) from (by rw [own_f6_0, if_pos hc5])]
    refine Owe.ret X1 Bd.notSynchronized (v := (some (.int (0 : Int32)))) (fun h => by rw [Bd.returns] at h; cases h) (fun fs hr => ?_) ⟨rfl, N0, e1⟩ (by decide) (by decide)
    show Steps p.tables e below (T1.setTop (mkF m 20 #[.val (.ref a0), .val (.int p1)] [])) _
    refine XS.iconst X1.here hx rfl (hb hby own_d6_20) ?_
    show Steps p.tables e below (T1.setTop (mkF m 21 #[.val (.ref a0), .val (.int p1)] [(.int (0 : Int32))])) _
    exact retN X1 hx (t := .boolean) Bd.returns (by simp) (hb hby own_d6_21) hr
  · refine Owe.step (T' := T1) (g' := (mkF m 8 #[.val (.ref a0), .val (.int p1)] [])) (fun t k => ?_) ?_
    · show Steps p.tables e below (T1.setTop (mkF m 5 #[.val (.ref a0), .val (.int p1)] [(.int w1), (.int p1)])) t
      refine XS.icmpNo X1.here hx rfl (hb hby own_d6_5) rfl (flt hc5).1 ?_
      show Steps p.tables e below (T1.setTop (mkF m 8 #[.val (.ref a0), .val (.int p1)] [])) t
      exact k
    obtain ⟨T2, X2, e2, st2⟩ := getF X1 hx hZ hown (host := "") (Or.inl (hw _ (List.mem_of_getElem? (i := 48) rfl))) Via.refl e1 F2 (g := (mkF m 10 #[.val (.ref a0), .val (.int p1)] [(.ref a0), (.int p1)])) rfl rfl (hb hby own_d6_10)
    refine Owe.step (T' := T2) (g' := (mkF m 13 #[.val (.ref a0), .val (.int p1)] [(.int w2), (.int p1)])) (fun t k => ?_) ?_
    · show Steps p.tables e below (T1.setTop (mkF m 8 #[.val (.ref a0), .val (.int p1)] [])) t
      refine XS.iloadN X1.here hx rfl (hb hby own_d6_8) rfl ?_
      show Steps p.tables e below (T1.setTop (mkF m 9 #[.val (.ref a0), .val (.int p1)] [(.int p1)])) t
      refine XS.aloadN X1.here hx rfl (hb hby own_d6_9) rfl rfl ?_
      show Steps p.tables e below (T1.setTop (mkF m 10 #[.val (.ref a0), .val (.int p1)] [(.ref a0), (.int p1)])) t
      refine st2 _ ?_
      show Steps p.tables e below (T2.setTop (mkF m 13 #[.val (.ref a0), .val (.int p1)] [(.int w2), (.int p1)])) t
      exact k
    by_cases hc13 : w2 < p1
    · refine Owe.step (T' := T2) (g' := (mkF m 20 #[.val (.ref a0), .val (.int p1)] [])) (fun t k => ?_) ?_
      · show Steps p.tables e below (T2.setTop (mkF m 13 #[.val (.ref a0), .val (.int p1)] [(.int w2), (.int p1)])) t
        refine XS.icmpYes X2.here hx rfl (pc0 := 13) (pc' := 20) rfl (hb hby own_d6_13) rfl (tlt hc13).2.2.1 (by decide) (by decide) ?_
        show Steps p.tables e below (T2.setTop (mkF m 20 #[.val (.ref a0), .val (.int p1)] [])) t
        exact k
      rw [show own_f6_0 p1 w1 w2 = (0 : Int32) from (by rw [own_f6_0, if_neg hc5, if_pos hc13])]
      refine Owe.ret X2 Bd.notSynchronized (v := (some (.int (0 : Int32)))) (fun h => by rw [Bd.returns] at h; cases h) (fun fs hr => ?_) ⟨rfl, N0, e2⟩ (by decide) (by decide)
      show Steps p.tables e below (T2.setTop (mkF m 20 #[.val (.ref a0), .val (.int p1)] [])) _
      refine XS.iconst X2.here hx rfl (hb hby own_d6_20) ?_
      show Steps p.tables e below (T2.setTop (mkF m 21 #[.val (.ref a0), .val (.int p1)] [(.int (0 : Int32))])) _
      exact retN X2 hx (t := .boolean) Bd.returns (by simp) (hb hby own_d6_21) hr
    · refine Owe.step (T' := T2) (g' := (mkF m 16 #[.val (.ref a0), .val (.int p1)] [])) (fun t k => ?_) ?_
      · show Steps p.tables e below (T2.setTop (mkF m 13 #[.val (.ref a0), .val (.int p1)] [(.int w2), (.int p1)])) t
        refine XS.icmpNo X2.here hx rfl (hb hby own_d6_13) rfl (flt hc13).2.2.1 ?_
        show Steps p.tables e below (T2.setTop (mkF m 16 #[.val (.ref a0), .val (.int p1)] [])) t
        exact k
      rw [show own_f6_0 p1 w1 w2 = (1 : Int32) from (by rw [own_f6_0, if_neg hc5, if_neg hc13])]
      refine Owe.ret X2 Bd.notSynchronized (v := (some (.int (1 : Int32)))) (fun h => by rw [Bd.returns] at h; cases h) (fun fs hr => ?_) ⟨rfl, N0, e2⟩ (by decide) (by decide)
      show Steps p.tables e below (T2.setTop (mkF m 16 #[.val (.ref a0), .val (.int p1)] [])) _
      refine XS.iconst X2.here hx rfl (hb hby own_d6_16) ?_
      show Steps p.tables e below (T2.setTop (mkF m 17 #[.val (.ref a0), .val (.int p1)] [(.int (1 : Int32))])) _
      refine XS.goto X2.here hx rfl (pc0 := 17) (pc' := 21) rfl (hb hby own_d6_17) (by decide) (by decide) ?_
      show Steps p.tables e below (T2.setTop (mkF m 21 #[.val (.ref a0), .val (.int p1)] [(.int (1 : Int32))])) _
      exact retN X2 hx (t := .boolean) Bd.returns (by simp) (hb hby own_d6_21) hr
theorem own_pd2 : parseMethodDescriptor "([B)V" = some ⟨[(.array .byte)], none⟩ := by decide +kernel
theorem own_pd3 : parseMethodDescriptor "(Lcom/example/privlint/privlint/model/SigningCertificate;II)V" = some ⟨[(.object "com/example/privlint/privlint/model/SigningCertificate"), .int, .int], none⟩ := by decide +kernel
theorem own_pd4 : parseMethodDescriptor "(I)Z" = some ⟨[.int], some .boolean⟩ := by decide +kernel
theorem own_pn4 : plainName "com/example/privlint/privlint/model/SignerIsSignerOnPinLaw" = true := by first | (simp [plainName, overriddenIn]; done) | decide +kernel
theorem own_ef0 (m : MethodId) (p0 : Int32) (p1 : Int32) (p2 : Int32) : entryFrame m #[(.int p0), (.int p1), (.int p2)] maxLocals = mkF m 0 #[.val (.int p0), .val (.int p1), .val (.int p2), .unset, .unset, .unset, .unset, .unset, .unset] [] := by first | (simp [entryFrame, mkF, argsToLocals, Value.category, maxLocals]; done) | rfl
def own_f0_124 (p1 : Int32) (p2 : Int32) : Int32 := (if p2 = (2147483647 : Int32) then (1 : Int32) else (if (own_f6_0 (p2 + (1 : Int32)) p1 p2) = (0 : Int32) then (1 : Int32) else (0 : Int32)))
def own_f0_77 (p1 : Int32) (p2 : Int32) (t77_0 : Int32) : Int32 := (if (own_f6_0 p1 p1 p2) = t77_0 then (if (own_f6_0 p2 p1 p2) = t77_0 then (if p1 = (-2147483648 : Int32) then (own_f0_124 p1 p2) else (if (own_f6_0 (p1 - (1 : Int32)) p1 p2) = (0 : Int32) then (own_f0_124 p1 p2) else (0 : Int32))) else (0 : Int32)) else (0 : Int32))
def own_f0_52 (p0 : Int32) (p1 : Int32) (p2 : Int32) (t52_0 : Int32) : Int32 := (if (own_f6_0 p0 p1 p2) = t52_0 then (if p2 < p1 then (own_f0_77 p1 p2 (0 : Int32)) else (own_f0_77 p1 p2 (1 : Int32))) else (0 : Int32))
def own_f0_51 (p0 : Int32) (p1 : Int32) (p2 : Int32) : Int32 := (own_f0_52 p0 p1 p2 (0 : Int32))
def own_f0_0 (p0 : Int32) (p1 : Int32) (p2 : Int32) : Int32 := (if (lcmpW ((p0.toInt64) - (p1.toInt64)) (0 : Int64)) < (0 : Int32) then (own_f0_51 p0 p1 p2) else (if (lcmpW ((p2.toInt64) - (p0.toInt64)) (0 : Int64)) < (0 : Int32) then (own_f0_51 p0 p1 p2) else (own_f0_52 p0 p1 p2 (1 : Int32))))
theorem own_on (x a b : Int32) : own_f6_0 x a b = if a.toInt ≤ x.toInt ∧ x.toInt ≤ b.toInt then 1 else 0 := by
  unfold own_f6_0
  simp only [Int32.lt_iff_toInt_lt]
  repeat' split
  all_goals first | rfl | omega
theorem own_df (a b : Int32) : (lcmpW ((a.toInt64) - (b.toInt64)) (0 : Int64)) < (0 : Int32) ↔ a.toInt < b.toInt := by
  rw [lw_lt, Int64.lt_iff_toInt_lt]
  have h := c_lsub a.toInt64 b.toInt64
  have r := rng64 (a.toInt64 - b.toInt64)
  have e0 : (0 : Int64).toInt = 0 := rfl
  have ra := rng32 a
  have rb := rng32 b
  rw [Int32.toInt_toInt64, Int32.toInt_toInt64] at h
  rw [e0]
  omega
theorem own_124 (a b : Int32) : own_f0_124 a b = 1 := by
  unfold own_f0_124
  split
  · rfl
  · rename_i h
    have q : ¬ (a.toInt ≤ (b + 1).toInt ∧ (b + 1).toInt ≤ b.toInt) := by
      have e1 : (1 : Int32).toInt = 1 := rfl
      have g := c_iadd b 1
      have r := rng32 (b + 1)
      have rb := rng32 b
      rw [← Int32.toInt_inj, show (2147483647 : Int32).toInt = 2147483647 from by decide] at h
      rw [e1] at g
      omega
    rw [own_on, if_neg q, if_pos rfl]
theorem own_77 (a b t : Int32) (h : t = if a.toInt ≤ b.toInt then 1 else 0) : own_f0_77 a b t = 1 := by
  unfold own_f0_77
  have q1 : own_f6_0 a a b = t := by
    rw [own_on, h]
    by_cases g : a.toInt ≤ b.toInt
    · rw [if_pos ⟨Int.le_refl _, g⟩, if_pos g]
    · rw [if_neg (fun q => g q.2), if_neg g]
  have q2 : own_f6_0 b a b = t := by
    rw [own_on, h]
    by_cases g : a.toInt ≤ b.toInt
    · rw [if_pos ⟨g, Int.le_refl _⟩, if_pos g]
    · rw [if_neg (fun q => g q.1), if_neg g]
  rw [if_pos q1, if_pos q2]
  split
  · exact own_124 a b
  · rename_i h
    have q : ¬ (a.toInt ≤ (a - 1).toInt ∧ (a - 1).toInt ≤ b.toInt) := by
      have e1 : (1 : Int32).toInt = 1 := rfl
      have g := c_isub a 1
      have r := rng32 (a - 1)
      have ra := rng32 a
      rw [← Int32.toInt_inj, show (-2147483648 : Int32).toInt = -2147483648 from by decide] at h
      rw [e1] at g
      omega
    rw [own_on, if_neg q, if_pos rfl, own_124]
theorem own_52 (x a b t : Int32) (h : t = if a.toInt ≤ x.toInt ∧ x.toInt ≤ b.toInt then 1 else 0) : own_f0_52 x a b t = 1 := by
  unfold own_f0_52
  rw [own_on, if_pos h.symm]
  split
  · rename_i g
    rw [Int32.lt_iff_toInt_lt] at g
    exact own_77 a b 0 (by rw [if_neg (by omega)])
  · rename_i g
    rw [Int32.lt_iff_toInt_lt] at g
    exact own_77 a b 1 (by rw [if_pos (by omega)])
theorem own_law (p0 p1 p2 : Int32) : own_f0_0 p0 p1 p2 = 1 := by
  unfold own_f0_0 own_f0_51
  simp only [own_df]
  split
  · rename_i g
    exact own_52 _ _ _ _ (by rw [if_neg (by omega)])
  · split
    · rename_i g g'
      exact own_52 _ _ _ _ (by rw [if_neg (by omega)])
    · rename_i g g'
      exact own_52 _ _ _ _ (by rw [if_pos (by omega)])
set_option maxRecDepth 65536 in
set_option maxHeartbeats 40000000 in
theorem own_rm0 (l : Launch) (Z : State) (aA : Array Value) (hw : ∀ d ∈ tables_1, d.before aA Z = true) (ws : List Jvm.Cond) (p0 : Int32) (p1 : Int32) (p2 : Int32)  (h0 : Heap) (n0 : Nat) (Z0 : n0 ≤ h0.size) :
    MetFree l x (head1 (Jvm.Cond.code x code maxLocals ret :: ws) room_1) (fun a U => a = #[(.int p0), (.int p1), (.int p2)] ∧ Z.Warmed39 U.vm ∧ U.heap = h0) (fun _ _ _ _ _ => True) (fun _ U o U' => ∃ v L, o = .returned v ∧ (QL (.int ((1 : Int32))) n0) v U'.heap L ∧ ReturnedEndW U o U' L 24 1152) := by
  refine MetFree.of_bodySF (plainFor_of_name own_pn4) hisR ?_
  intro p e s m args below meth c s₁ Bd hml0 hP hK
  obtain ⟨rfl, hZ, hh⟩ := hP
  have hx := Bd.exec
  have hby := Bd.bytes
  have hml : c.maxLocals = 9 := hml0
  have hown : s.vm.findClass "com/example/privlint/privlint/model/SignerIsSignerOnPinLaw" = some m.cls := findClass_of_methodNamed Bd.named
  have hnm := (name_of_methodNamed Bd.named Bd.method).1
  have X0 : Stand p l e room_1 s m #[(.int p0), (.int p1), (.int p2)] below meth c s₁ [] 0 0 := Stand.of_body Bd
  have e0 : s₁.heap = h0 := by rw [← hh, Bd.state]; rfl
  have N0 := Fr.nil n0
  refine OweW.step (T := s₁) (T' := s₁) (g' := (mkF m 0 #[.val (.int p0), .val (.int p1), .val (.int p2), .unset, .unset, .unset, .unset, .unset, .unset] [])) (fun t k => castTop (own_ef0 m p0 p1 p2) k) ?_
  obtain ⟨T1, h1, X1, e1, E1, A1, D1, -, st1⟩ := newO X0 hx hZ hown (hw _ (List.mem_of_getElem? (i := 0) rfl)) (hw _ (List.mem_of_getElem? (i := 1) rfl)) (hw _ (List.mem_of_getElem? (i := 2) rfl)) e0 (g := (mkF m 0 #[.val (.int p0), .val (.int p1), .val (.int p2), .unset, .unset, .unset, .unset, .unset, .unset] [])) rfl (hb hby at_0) (by decide) (by decide)
  obtain ⟨b1, g1⟩ : ∃ z, z = h0.size := ⟨_, rfl⟩
  rw [← g1] at A1 D1 st1
  have g_b1 : n0 ≤ b1 := Nat.le_trans Z0 (Nat.le_of_eq g1.symm)
  have Zn1 : n0 ≤ h1.size := Nat.le_trans Z0 E1.1
  have D1_20 : Fld Z h1 b1 "com/example/privlint/privlint/model/SigningCertificate" "encoded" "[B" .null := D1 (Or.inr (hw _ (List.mem_of_getElem? (i := 20) rfl))) (ty := (.array .byte)) (by decide)
  obtain ⟨T2, h2, k2, X2, e2, E2, A2, Ex2, st2⟩ := newPE X1 hx hZ (hw _ (List.mem_of_getElem? (i := 3) rfl)) e1 (g := (mkF m 5 #[.val (.int p0), .val (.int p1), .val (.int p2), .unset, .unset, .unset, .unset, .unset, .unset] [(.int (0 : Int32)), (.ref b1), (.ref b1)])) rfl (hb hby at_5) rfl (by decide) (cap := 0) (by decide) (by decide) (by decide) (by decide) (ad := "[B") (by decide)
  obtain ⟨b2, g2⟩ : ∃ z, z = h1.size := ⟨_, rfl⟩
  rw [← g2] at A2 st2 Ex2
  have ne_b1_b2 : b1 ≠ b2 := Nat.ne_of_lt (Nat.lt_of_lt_of_le A1.lt (Nat.le_of_eq g2.symm))
  have g_b2 : n0 ≤ b2 := Nat.le_trans Zn1 (Nat.le_of_eq g2.symm)
  have A1_x2 := A1.ext E2
  have D1_20_x2 := D1_20.ext E2
  have Zn2 : n0 ≤ h2.size := Nat.le_trans Zn1 E2.1
  have V2 : AI Z h2 b2 .byte 0 (fun _ => (0 : Int32)) := AV.new A2 (by decide)
  obtain ⟨_, _, ⟨T3, L3, k3, n3⟩, -, X3, ⟨Lc3, hQ3, l3, y3, z3⟩, st3⟩ := X2.specialBack hx (y := (⟨"com/example/privlint/privlint/model/SigningCertificate", "<init>", "([B)V"⟩ : MethodName)) rfl hown (mvT hZ (hw _ (List.mem_of_getElem? (i := 4) rfl))) (mvT hZ (hw _ (List.mem_of_getElem? (i := 5) rfl))) (mvT hZ (hw _ (List.mem_of_getElem? (i := 6) rfl))) (by decide) (backOf (W := 1) (own_rm1 l Z aA hw [] b1 b2 (fun _ => (0 : Int32)) h2 n0 Zn2 A1_x2 D1_20_x2 V2 Ex2 ne_b1_b2 g_b1) hZ (hw _ (List.mem_of_getElem? (i := 6) rfl)) (hw _ (List.mem_of_getElem? (i := 2) rfl)) (by decide) (by decide)) (g := (mkF m 7 #[.val (.int p0), .val (.int p1), .val (.int p2), .unset, .unset, .unset, .unset, .unset, .unset] [(.ref b2), (.ref b1), (.ref b1)])) rfl (by rw [hml]; rfl) (Steps.refl _) (a := b1) (argsL := [(.ref b2)]) (rest := [(.ref b1)]) (lenOf own_pd2 rfl) rfl (by show 2 * 0 + _ ≤ _; exact Nat.le_of_eq rfl) (hb hby at_7) (fun _ _ => ⟨rfl, e2, (by decide : 2 + 1 ≤ _), (by decide : 1 + 0 ≤ _)⟩)
  dsimp only [Pt.U, Pt.locs, Pt.cells, Pt.slots] at X3 l3 y3 z3 st3 hQ3
  subst y3 z3
  obtain ⟨h3, eh3⟩ : ∃ z, T3.heap = z := ⟨_, rfl⟩
  rw [eh3] at hQ3
  obtain ⟨b2_3, rfl, N3q, K3q, sz3_b2_3, G3_0, G3_1, G3_2⟩ := hQ3
  have N3 : Fr n0 L3 := by rw [l3]; exact Fr.app N0 N3q
  have ne_b1_b2_3 : b1 ≠ b2_3 := Nat.ne_of_lt (Nat.lt_of_lt_of_le A1_x2.lt sz3_b2_3)
  have ne_b2_b2_3 : b2 ≠ b2_3 := Nat.ne_of_lt (Nat.lt_of_lt_of_le Ex2.lt sz3_b2_3)
  have g_b2_3 : n0 ≤ b2_3 := Nat.le_trans Zn2 sz3_b2_3
  have Ex2_k3 := Ex2.keep K3q
  have V2_k3 := V2.keep K3q (by simp only [List.mem_cons, List.not_mem_nil, or_false, not_or, not_false_eq_true]; exact (Ne.symm ne_b1_b2))
  have Zn3 : n0 ≤ h3.size := Nat.le_trans Zn2 K3q.1
  obtain ⟨T4, h4, X4, e4, E4, A4, D4, -, st4⟩ := newO X3 hx hZ hown (hw _ (List.mem_of_getElem? (i := 21) rfl)) (hw _ (List.mem_of_getElem? (i := 22) rfl)) (hw _ (List.mem_of_getElem? (i := 23) rfl)) eh3 (g := (mkF m 11 #[.val (.int p0), .val (.int p1), .val (.int p2), .val (.ref b1), .unset, .unset, .unset, .unset, .unset] [])) rfl (hb hby at_11) (by decide) (by decide)
  obtain ⟨b4, g4⟩ : ∃ z, z = h3.size := ⟨_, rfl⟩
  rw [← g4] at A4 D4 st4
  have ne_b2_b4 : b2 ≠ b4 := Nat.ne_of_lt (Nat.lt_of_lt_of_le Ex2_k3.lt (Nat.le_of_eq g4.symm))
  have ne_b1_b4 : b1 ≠ b4 := Nat.ne_of_lt (Nat.lt_of_lt_of_le G3_0.lt (Nat.le_of_eq g4.symm))
  have ne_b2_3_b4 : b2_3 ≠ b4 := Nat.ne_of_lt (Nat.lt_of_lt_of_le G3_2.lt (Nat.le_of_eq g4.symm))
  have g_b4 : n0 ≤ b4 := Nat.le_trans Zn3 (Nat.le_of_eq g4.symm)
  have Ex2_x4 := Ex2_k3.ext E4
  have V2_x4 := V2_k3.ext E4
  have G3_0_x4 := G3_0.ext E4
  have G3_1_x4 := G3_1.ext E4
  have G3_2_x4 := G3_2.ext E4
  have Zn4 : n0 ≤ h4.size := Nat.le_trans Zn3 E4.1
  have D4_45 : Fld Z h4 b4 "com/example/privlint/privlint/model/Signer" "certificate" "Lcom/example/privlint/privlint/model/SigningCertificate;" .null := D4 (Or.inr (hw _ (List.mem_of_getElem? (i := 45) rfl))) (ty := (.object "com/example/privlint/privlint/model/SigningCertificate")) (by decide)
  have D4_47 : Fld Z h4 b4 "com/example/privlint/privlint/model/Signer" "minLevel" "I" (.int (0 : Int32)) := D4 (Or.inr (hw _ (List.mem_of_getElem? (i := 47) rfl))) (ty := .int) (by decide)
  have D4_49 : Fld Z h4 b4 "com/example/privlint/privlint/model/Signer" "maxLevel" "I" (.int (0 : Int32)) := D4 (Or.inr (hw _ (List.mem_of_getElem? (i := 49) rfl))) (ty := .int) (by decide)
  obtain ⟨_, _, ⟨T5, L5, k5, n5⟩, -, Xr5, Sr5, gr5, ⟨Lc5, hQ5, l5, y5, z5⟩, st5⟩ := X4.specialBackS hx (y := (⟨"com/example/privlint/privlint/model/Signer", "<init>", "(Lcom/example/privlint/privlint/model/SigningCertificate;II)V"⟩ : MethodName)) rfl hown (mvT hZ (hw _ (List.mem_of_getElem? (i := 24) rfl))) (mvT hZ (hw _ (List.mem_of_getElem? (i := 25) rfl))) (mvT hZ (hw _ (List.mem_of_getElem? (i := 26) rfl))) (by decide) (backOfS (W := 1) (own_rm3 l Z aA hw [] b4 b1 p1 p2 h4 n0 Zn4 A4 D4_45 D4_47 D4_49 g_b4) hZ (hw _ (List.mem_of_getElem? (i := 26) rfl)) (hw _ (List.mem_of_getElem? (i := 23) rfl)) (by decide) (by decide)) (g := (mkF m 18 #[.val (.int p0), .val (.int p1), .val (.int p2), .val (.ref b1), .unset, .unset, .unset, .unset, .unset] [(.int p2), (.int p1), (.ref b1), (.ref b4), (.ref b4)])) rfl (by rw [hml]; rfl) (Steps.refl _) (a := b4) (argsL := [(.ref b1), (.int p1), (.int p2)]) (rest := [(.ref b4)]) (lenOf own_pd3 rfl) rfl (by show 2 * 0 + _ ≤ _; exact Nat.le_of_eq rfl) (hb hby at_18) (fun _ _ => ⟨rfl, e4, (by decide : 4 + 2 ≤ _), (by decide : 4 + 48 ≤ _)⟩)
  dsimp only [Pt.U, Pt.locs, Pt.cells, Pt.slots] at Xr5 Sr5 gr5 l5 y5 z5 st5 hQ5
  obtain ⟨X5, S5, hZ, hown⟩ := rebS (s := s) (vm0 := s.vm) (since0 s) (Nat.zero_le _) Xr5 Sr5 (by rw [e4] at gr5; exact gr5) hZ hown
  subst y5 z5
  obtain ⟨h5, eh5⟩ : ∃ z, T5.heap = z := ⟨_, rfl⟩
  rw [eh5] at hQ5
  obtain ⟨rfl, N5q, K5q, G5_0, G5_1, G5_2, G5_3⟩ := hQ5
  have N5 : Fr n0 L5 := by rw [l5]; exact Fr.app N3 N5q
  have Ex2_x4_k5 := Ex2_x4.keep K5q
  have V2_x4_k5 := V2_x4.keep K5q (by simp only [List.mem_cons, List.not_mem_nil, or_false, not_or, not_false_eq_true]; exact ne_b2_b4)
  have G3_0_x4_k5 := G3_0_x4.keep K5q
  have G3_1_x4_k5 := G3_1_x4.keep K5q (by simp only [List.mem_cons, List.not_mem_nil, or_false, not_or, not_false_eq_true]; exact ne_b1_b4)
  have G3_2_x4_k5 := G3_2_x4.keep K5q
  have Zn5 : n0 ≤ h5.size := Nat.le_trans Zn4 K5q.1
  have kh5 : 0 ≤ h5.size := Nat.le_trans (Nat.zero_le _) K5q.1
  have kh5 : T5.heap.size ≤ h5.size := Nat.le_of_eq (by rw [eh5])
  refine OweW.step (T' := T5) (g' := (mkF m 34 #[.val (.int p0), .val (.int p1), .val (.int p2), .val (.ref b1), .val (.ref b4), .val (.long (p0.toInt64)), .second, .unset, .unset] [(.int (lcmpW ((p0.toInt64) - (p1.toInt64)) (0 : Int64)))])) (fun t k => ?_) ?_
  · show Steps p.tables e below (s₁.setTop (mkF m 0 #[.val (.int p0), .val (.int p1), .val (.int p2), .unset, .unset, .unset, .unset, .unset, .unset] [])) t
    refine st1 _ ?_
    show Steps p.tables e below (T1.setTop (mkF m 3 #[.val (.int p0), .val (.int p1), .val (.int p2), .unset, .unset, .unset, .unset, .unset, .unset] [(.ref b1)])) t
    refine XS.dup X1.here hx rfl (hb hby at_3) rfl rfl ?_
    show Steps p.tables e below (T1.setTop (mkF m 4 #[.val (.int p0), .val (.int p1), .val (.int p2), .unset, .unset, .unset, .unset, .unset, .unset] [(.ref b1), (.ref b1)])) t
    refine XS.iconst X1.here hx rfl (hb hby at_4) ?_
    show Steps p.tables e below (T1.setTop (mkF m 5 #[.val (.int p0), .val (.int p1), .val (.int p2), .unset, .unset, .unset, .unset, .unset, .unset] [(.int (0 : Int32)), (.ref b1), (.ref b1)])) t
    refine st2 _ ?_
    show Steps p.tables e below (T2.setTop (mkF m 7 #[.val (.int p0), .val (.int p1), .val (.int p2), .unset, .unset, .unset, .unset, .unset, .unset] [(.ref b2), (.ref b1), (.ref b1)])) t
    refine st3.trans ?_
    show Steps p.tables e below (T3.setTop (mkF m 10 #[.val (.int p0), .val (.int p1), .val (.int p2), .unset, .unset, .unset, .unset, .unset, .unset] [(.ref b1)])) t
    refine XS.astoreN X3.here hx rfl (hb hby at_10) rfl rfl (l' := #[.val (.int p0), .val (.int p1), .val (.int p2), .val (.ref b1), .unset, .unset, .unset, .unset, .unset]) rfl ?_
    show Steps p.tables e below (T3.setTop (mkF m 11 #[.val (.int p0), .val (.int p1), .val (.int p2), .val (.ref b1), .unset, .unset, .unset, .unset, .unset] [])) t
    refine st4 _ ?_
    show Steps p.tables e below (T4.setTop (mkF m 14 #[.val (.int p0), .val (.int p1), .val (.int p2), .val (.ref b1), .unset, .unset, .unset, .unset, .unset] [(.ref b4)])) t
    refine XS.dup X4.here hx rfl (hb hby at_14) rfl rfl ?_
    show Steps p.tables e below (T4.setTop (mkF m 15 #[.val (.int p0), .val (.int p1), .val (.int p2), .val (.ref b1), .unset, .unset, .unset, .unset, .unset] [(.ref b4), (.ref b4)])) t
    refine XS.aloadN X4.here hx rfl (hb hby at_15) rfl rfl ?_
    show Steps p.tables e below (T4.setTop (mkF m 16 #[.val (.int p0), .val (.int p1), .val (.int p2), .val (.ref b1), .unset, .unset, .unset, .unset, .unset] [(.ref b1), (.ref b4), (.ref b4)])) t
    refine XS.iloadN X4.here hx rfl (hb hby at_16) rfl ?_
    show Steps p.tables e below (T4.setTop (mkF m 17 #[.val (.int p0), .val (.int p1), .val (.int p2), .val (.ref b1), .unset, .unset, .unset, .unset, .unset] [(.int p1), (.ref b1), (.ref b4), (.ref b4)])) t
    refine XS.iloadN X4.here hx rfl (hb hby at_17) rfl ?_
    show Steps p.tables e below (T4.setTop (mkF m 18 #[.val (.int p0), .val (.int p1), .val (.int p2), .val (.ref b1), .unset, .unset, .unset, .unset, .unset] [(.int p2), (.int p1), (.ref b1), (.ref b4), (.ref b4)])) t
    refine st5.trans ?_
    show Steps p.tables e below (T5.setTop (mkF m 21 #[.val (.int p0), .val (.int p1), .val (.int p2), .val (.ref b1), .unset, .unset, .unset, .unset, .unset] [(.ref b4)])) t
    refine XS.astore X5.here hx rfl (hb hby at_21) rfl rfl (l' := #[.val (.int p0), .val (.int p1), .val (.int p2), .val (.ref b1), .val (.ref b4), .unset, .unset, .unset, .unset]) rfl ?_
    show Steps p.tables e below (T5.setTop (mkF m 23 #[.val (.int p0), .val (.int p1), .val (.int p2), .val (.ref b1), .val (.ref b4), .unset, .unset, .unset, .unset] [])) t
    refine XS.iloadN X5.here hx rfl (hb hby at_23) rfl ?_
    show Steps p.tables e below (T5.setTop (mkF m 24 #[.val (.int p0), .val (.int p1), .val (.int p2), .val (.ref b1), .val (.ref b4), .unset, .unset, .unset, .unset] [(.int p0)])) t
    refine XS.i2l X5.here hx rfl (hb hby at_24) rfl ?_
    show Steps p.tables e below (T5.setTop (mkF m 25 #[.val (.int p0), .val (.int p1), .val (.int p2), .val (.ref b1), .val (.ref b4), .unset, .unset, .unset, .unset] [(.long (p0.toInt64))])) t
    refine XS.lstore X5.here hx rfl (hb hby at_25) rfl (l' := #[.val (.int p0), .val (.int p1), .val (.int p2), .val (.ref b1), .val (.ref b4), .val (.long (p0.toInt64)), .second, .unset, .unset]) rfl ?_
    show Steps p.tables e below (T5.setTop (mkF m 27 #[.val (.int p0), .val (.int p1), .val (.int p2), .val (.ref b1), .val (.ref b4), .val (.long (p0.toInt64)), .second, .unset, .unset] [])) t
    refine XS.lload X5.here hx rfl (hb hby at_27) rfl ?_
    show Steps p.tables e below (T5.setTop (mkF m 29 #[.val (.int p0), .val (.int p1), .val (.int p2), .val (.ref b1), .val (.ref b4), .val (.long (p0.toInt64)), .second, .unset, .unset] [(.long (p0.toInt64))])) t
    refine XS.iloadN X5.here hx rfl (hb hby at_29) rfl ?_
    show Steps p.tables e below (T5.setTop (mkF m 30 #[.val (.int p0), .val (.int p1), .val (.int p2), .val (.ref b1), .val (.ref b4), .val (.long (p0.toInt64)), .second, .unset, .unset] [(.int p1), (.long (p0.toInt64))])) t
    refine XS.i2l X5.here hx rfl (hb hby at_30) rfl ?_
    show Steps p.tables e below (T5.setTop (mkF m 31 #[.val (.int p0), .val (.int p1), .val (.int p2), .val (.ref b1), .val (.ref b4), .val (.long (p0.toInt64)), .second, .unset, .unset] [(.long (p1.toInt64)), (.long (p0.toInt64))])) t
    refine XS.lsub X5.here hx rfl (hb hby at_31) rfl ?_
    show Steps p.tables e below (T5.setTop (mkF m 32 #[.val (.int p0), .val (.int p1), .val (.int p2), .val (.ref b1), .val (.ref b4), .val (.long (p0.toInt64)), .second, .unset, .unset] [(.long ((p0.toInt64) - (p1.toInt64)))])) t
    refine XS.lconst X5.here hx rfl (hb hby at_32) ?_
    show Steps p.tables e below (T5.setTop (mkF m 33 #[.val (.int p0), .val (.int p1), .val (.int p2), .val (.ref b1), .val (.ref b4), .val (.long (p0.toInt64)), .second, .unset, .unset] [(.long (0 : Int64)), (.long ((p0.toInt64) - (p1.toInt64)))])) t
    refine XS.lcmp X5.here hx rfl (hb hby at_33) rfl ?_
    show Steps p.tables e below (T5.setTop (mkF m 34 #[.val (.int p0), .val (.int p1), .val (.int p2), .val (.ref b1), .val (.ref b4), .val (.long (p0.toInt64)), .second, .unset, .unset] [(.int (lcmpW ((p0.toInt64) - (p1.toInt64)) (0 : Int64)))])) t
    exact k
  have j52 : ∀ (T : State) (Lc : List Loc) (X : Stand p l e room_1 (s.setVm T5.vm) m #[(.int p0), (.int p1), (.int p2)] below meth c T Lc 6 52) (t52_0 : Int32) (eT : T.heap = h5) (N : Fr n0 Lc), OweW p e below s 24 1152 (QL (.int (own_f0_52 p0 p1 p2 t52_0)) n0) T (mkF m 52 #[.val (.int p0), .val (.int p1), .val (.int p2), .val (.ref b1), .val (.ref b4), .val (.long (p0.toInt64)), .second, .unset, .unset] [(.int t52_0)]) := by
    intro T52j Lc52j X52j t52_0 e52j N52j
    obtain ⟨cq6, kq6, q6a, q6b, q6c⟩ := isOf hZ e52j G5_0
    obtain ⟨_, _, ⟨T6, L6, k6, n6⟩, -, X6, ⟨Lc6, hQ6, l6, y6, z6⟩, st6⟩ := X52j.virtualBack hx (y := (⟨"com/example/privlint/privlint/model/Signer", "isSignerOn", "(I)Z"⟩ : MethodName)) (z := (⟨"com/example/privlint/privlint/model/Signer", "isSignerOn", "(I)Z"⟩ : MethodName)) hown (mvT hZ (hw _ (List.mem_of_getElem? (i := 50) rfl))) (mvT hZ (hw _ (List.mem_of_getElem? (i := 51) rfl))) (notFace_of_selects (args := #[]) (mvT hZ (hw _ (List.mem_of_getElem? (i := 53) rfl)))) (mvT hZ (hw _ (List.mem_of_getElem? (i := 53) rfl))) (mvT hZ (hw _ (List.mem_of_getElem? (i := 52) rfl))) (by decide) (backOf (W := 0) (own_rm6 l Z aA hw [] b4 p0 p1 p2 h5 n0 Zn5 G5_2 G5_3) hZ (hw _ (List.mem_of_getElem? (i := 54) rfl)) (hw _ (List.mem_of_getElem? (i := 23) rfl)) (by decide) (by decide)) q6a q6c (g := (mkF m 57 #[.val (.int p0), .val (.int p1), .val (.int p2), .val (.ref b1), .val (.ref b4), .val (.long (p0.toInt64)), .second, .val (.int t52_0), .unset] [(.int p0), (.ref b4)])) rfl (by rw [hml]; rfl) (Steps.refl _) (argsL := [(.int p0)]) (rest := []) (lenOf own_pd4 rfl) rfl (by show 2 * 0 + _ ≤ _; exact Nat.le_of_eq rfl) (hb hby at_57) (fun _ _ => ⟨rfl, e52j, (by decide : 6 + 0 ≤ _), (by decide : 52 + 0 ≤ _)⟩)
    dsimp only [Pt.U, Pt.locs, Pt.cells, Pt.slots] at X6 l6 y6 z6 st6 hQ6
    subst y6 z6
    obtain ⟨rfl, N6q, e6⟩ := hQ6
    have N6 : Fr n0 L6 := by rw [l6]; exact Fr.app N52j N6q
    refine OweW.step (T' := T6) (g' := (mkF m 62 #[.val (.int p0), .val (.int p1), .val (.int p2), .val (.ref b1), .val (.ref b4), .val (.long (p0.toInt64)), .second, .val (.int t52_0), .unset] [(.int t52_0), (.int (own_f6_0 p0 p1 p2))])) (fun t k => ?_) ?_
    · show Steps p.tables e below (T52j.setTop (mkF m 52 #[.val (.int p0), .val (.int p1), .val (.int p2), .val (.ref b1), .val (.ref b4), .val (.long (p0.toInt64)), .second, .unset, .unset] [(.int t52_0)])) t
      refine XS.istore X52j.here hx rfl (hb hby at_52) rfl (l' := #[.val (.int p0), .val (.int p1), .val (.int p2), .val (.ref b1), .val (.ref b4), .val (.long (p0.toInt64)), .second, .val (.int t52_0), .unset]) rfl ?_
      show Steps p.tables e below (T52j.setTop (mkF m 54 #[.val (.int p0), .val (.int p1), .val (.int p2), .val (.ref b1), .val (.ref b4), .val (.long (p0.toInt64)), .second, .val (.int t52_0), .unset] [])) t
      refine XS.aload X52j.here hx rfl (hb hby at_54) rfl rfl ?_
      show Steps p.tables e below (T52j.setTop (mkF m 56 #[.val (.int p0), .val (.int p1), .val (.int p2), .val (.ref b1), .val (.ref b4), .val (.long (p0.toInt64)), .second, .val (.int t52_0), .unset] [(.ref b4)])) t
      refine XS.iloadN X52j.here hx rfl (hb hby at_56) rfl ?_
      show Steps p.tables e below (T52j.setTop (mkF m 57 #[.val (.int p0), .val (.int p1), .val (.int p2), .val (.ref b1), .val (.ref b4), .val (.long (p0.toInt64)), .second, .val (.int t52_0), .unset] [(.int p0), (.ref b4)])) t
      refine st6.trans ?_
      show Steps p.tables e below (T6.setTop (mkF m 60 #[.val (.int p0), .val (.int p1), .val (.int p2), .val (.ref b1), .val (.ref b4), .val (.long (p0.toInt64)), .second, .val (.int t52_0), .unset] [(.int (own_f6_0 p0 p1 p2))])) t
      refine XS.iload X6.here hx rfl (hb hby at_60) rfl ?_
      show Steps p.tables e below (T6.setTop (mkF m 62 #[.val (.int p0), .val (.int p1), .val (.int p2), .val (.ref b1), .val (.ref b4), .val (.long (p0.toInt64)), .second, .val (.int t52_0), .unset] [(.int t52_0), (.int (own_f6_0 p0 p1 p2))])) t
      exact k
    by_cases hc62 : (own_f6_0 p0 p1 p2) = t52_0
    · refine OweW.step (T' := T6) (g' := (mkF m 67 #[.val (.int p0), .val (.int p1), .val (.int p2), .val (.ref b1), .val (.ref b4), .val (.long (p0.toInt64)), .second, .val (.int t52_0), .unset] [])) (fun t k => ?_) ?_
      · show Steps p.tables e below (T6.setTop (mkF m 62 #[.val (.int p0), .val (.int p1), .val (.int p2), .val (.ref b1), .val (.ref b4), .val (.long (p0.toInt64)), .second, .val (.int t52_0), .unset] [(.int t52_0), (.int (own_f6_0 p0 p1 p2))])) t
        refine XS.icmpYes X6.here hx rfl (pc0 := 62) (pc' := 67) rfl (hb hby at_62) rfl (teq hc62).1 (by decide) (by decide) ?_
        show Steps p.tables e below (T6.setTop (mkF m 67 #[.val (.int p0), .val (.int p1), .val (.int p2), .val (.ref b1), .val (.ref b4), .val (.long (p0.toInt64)), .second, .val (.int t52_0), .unset] [])) t
        exact k
      refine OweW.step (T' := T6) (g' := (mkF m 69 #[.val (.int p0), .val (.int p1), .val (.int p2), .val (.ref b1), .val (.ref b4), .val (.long (p0.toInt64)), .second, .val (.int t52_0), .unset] [(.int p2), (.int p1)])) (fun t k => ?_) ?_
      · show Steps p.tables e below (T6.setTop (mkF m 67 #[.val (.int p0), .val (.int p1), .val (.int p2), .val (.ref b1), .val (.ref b4), .val (.long (p0.toInt64)), .second, .val (.int t52_0), .unset] [])) t
        refine XS.iloadN X6.here hx rfl (hb hby at_67) rfl ?_
        show Steps p.tables e below (T6.setTop (mkF m 68 #[.val (.int p0), .val (.int p1), .val (.int p2), .val (.ref b1), .val (.ref b4), .val (.long (p0.toInt64)), .second, .val (.int t52_0), .unset] [(.int p1)])) t
        refine XS.iloadN X6.here hx rfl (hb hby at_68) rfl ?_
        show Steps p.tables e below (T6.setTop (mkF m 69 #[.val (.int p0), .val (.int p1), .val (.int p2), .val (.ref b1), .val (.ref b4), .val (.long (p0.toInt64)), .second, .val (.int t52_0), .unset] [(.int p2), (.int p1)])) t
        exact k
      have j77 : ∀ (T : State) (Lc : List Loc) (X : Stand p l e room_1 (s.setVm T5.vm) m #[(.int p0), (.int p1), (.int p2)] below meth c T Lc 6 52) (t77_0 : Int32) (eT : T.heap = h5) (N : Fr n0 Lc), OweW p e below s 24 1152 (QL (.int (own_f0_77 p1 p2 t77_0)) n0) T (mkF m 77 #[.val (.int p0), .val (.int p1), .val (.int p2), .val (.ref b1), .val (.ref b4), .val (.long (p0.toInt64)), .second, .val (.int t52_0), .unset] [(.int t77_0)]) := by
        intro T77j Lc77j X77j t77_0 e77j N77j
        obtain ⟨cq7, kq7, q7a, q7b, q7c⟩ := isOf hZ e77j G5_0
        obtain ⟨_, _, ⟨T7, L7, k7, n7⟩, -, X7, ⟨Lc7, hQ7, l7, y7, z7⟩, st7⟩ := X77j.virtualBack hx (y := (⟨"com/example/privlint/privlint/model/Signer", "isSignerOn", "(I)Z"⟩ : MethodName)) (z := (⟨"com/example/privlint/privlint/model/Signer", "isSignerOn", "(I)Z"⟩ : MethodName)) hown (mvT hZ (hw _ (List.mem_of_getElem? (i := 50) rfl))) (mvT hZ (hw _ (List.mem_of_getElem? (i := 51) rfl))) (notFace_of_selects (args := #[]) (mvT hZ (hw _ (List.mem_of_getElem? (i := 53) rfl)))) (mvT hZ (hw _ (List.mem_of_getElem? (i := 53) rfl))) (mvT hZ (hw _ (List.mem_of_getElem? (i := 52) rfl))) (by decide) (backOf (W := 0) (own_rm6 l Z aA hw [] b4 p1 p1 p2 h5 n0 Zn5 G5_2 G5_3) hZ (hw _ (List.mem_of_getElem? (i := 54) rfl)) (hw _ (List.mem_of_getElem? (i := 23) rfl)) (by decide) (by decide)) q7a q7c (g := (mkF m 82 #[.val (.int p0), .val (.int p1), .val (.int p2), .val (.ref b1), .val (.ref b4), .val (.long (p0.toInt64)), .second, .val (.int t52_0), .val (.int t77_0)] [(.int p1), (.ref b4)])) rfl (by rw [hml]; rfl) (Steps.refl _) (argsL := [(.int p1)]) (rest := []) (lenOf own_pd4 rfl) rfl (by show 2 * 0 + _ ≤ _; exact Nat.le_of_eq rfl) (hb hby at_82) (fun _ _ => ⟨rfl, e77j, (by decide : 6 + 0 ≤ _), (by decide : 52 + 0 ≤ _)⟩)
        dsimp only [Pt.U, Pt.locs, Pt.cells, Pt.slots] at X7 l7 y7 z7 st7 hQ7
        subst y7 z7
        obtain ⟨rfl, N7q, e7⟩ := hQ7
        have N7 : Fr n0 L7 := by rw [l7]; exact Fr.app N77j N7q
        refine OweW.step (T' := T7) (g' := (mkF m 87 #[.val (.int p0), .val (.int p1), .val (.int p2), .val (.ref b1), .val (.ref b4), .val (.long (p0.toInt64)), .second, .val (.int t52_0), .val (.int t77_0)] [(.int t77_0), (.int (own_f6_0 p1 p1 p2))])) (fun t k => ?_) ?_
        · show Steps p.tables e below (T77j.setTop (mkF m 77 #[.val (.int p0), .val (.int p1), .val (.int p2), .val (.ref b1), .val (.ref b4), .val (.long (p0.toInt64)), .second, .val (.int t52_0), .unset] [(.int t77_0)])) t
          refine XS.istore X77j.here hx rfl (hb hby at_77) rfl (l' := #[.val (.int p0), .val (.int p1), .val (.int p2), .val (.ref b1), .val (.ref b4), .val (.long (p0.toInt64)), .second, .val (.int t52_0), .val (.int t77_0)]) rfl ?_
          show Steps p.tables e below (T77j.setTop (mkF m 79 #[.val (.int p0), .val (.int p1), .val (.int p2), .val (.ref b1), .val (.ref b4), .val (.long (p0.toInt64)), .second, .val (.int t52_0), .val (.int t77_0)] [])) t
          refine XS.aload X77j.here hx rfl (hb hby at_79) rfl rfl ?_
          show Steps p.tables e below (T77j.setTop (mkF m 81 #[.val (.int p0), .val (.int p1), .val (.int p2), .val (.ref b1), .val (.ref b4), .val (.long (p0.toInt64)), .second, .val (.int t52_0), .val (.int t77_0)] [(.ref b4)])) t
          refine XS.iloadN X77j.here hx rfl (hb hby at_81) rfl ?_
          show Steps p.tables e below (T77j.setTop (mkF m 82 #[.val (.int p0), .val (.int p1), .val (.int p2), .val (.ref b1), .val (.ref b4), .val (.long (p0.toInt64)), .second, .val (.int t52_0), .val (.int t77_0)] [(.int p1), (.ref b4)])) t
          refine st7.trans ?_
          show Steps p.tables e below (T7.setTop (mkF m 85 #[.val (.int p0), .val (.int p1), .val (.int p2), .val (.ref b1), .val (.ref b4), .val (.long (p0.toInt64)), .second, .val (.int t52_0), .val (.int t77_0)] [(.int (own_f6_0 p1 p1 p2))])) t
          refine XS.iload X7.here hx rfl (hb hby at_85) rfl ?_
          show Steps p.tables e below (T7.setTop (mkF m 87 #[.val (.int p0), .val (.int p1), .val (.int p2), .val (.ref b1), .val (.ref b4), .val (.long (p0.toInt64)), .second, .val (.int t52_0), .val (.int t77_0)] [(.int t77_0), (.int (own_f6_0 p1 p1 p2))])) t
          exact k
        by_cases hc87 : (own_f6_0 p1 p1 p2) = t77_0
        · refine OweW.step (T' := T7) (g' := (mkF m 92 #[.val (.int p0), .val (.int p1), .val (.int p2), .val (.ref b1), .val (.ref b4), .val (.long (p0.toInt64)), .second, .val (.int t52_0), .val (.int t77_0)] [])) (fun t k => ?_) ?_
          · show Steps p.tables e below (T7.setTop (mkF m 87 #[.val (.int p0), .val (.int p1), .val (.int p2), .val (.ref b1), .val (.ref b4), .val (.long (p0.toInt64)), .second, .val (.int t52_0), .val (.int t77_0)] [(.int t77_0), (.int (own_f6_0 p1 p1 p2))])) t
            refine XS.icmpYes X7.here hx rfl (pc0 := 87) (pc' := 92) rfl (hb hby at_87) rfl (teq hc87).1 (by decide) (by decide) ?_
            show Steps p.tables e below (T7.setTop (mkF m 92 #[.val (.int p0), .val (.int p1), .val (.int p2), .val (.ref b1), .val (.ref b4), .val (.long (p0.toInt64)), .second, .val (.int t52_0), .val (.int t77_0)] [])) t
            exact k
          obtain ⟨cq8, kq8, q8a, q8b, q8c⟩ := isOf hZ e7 G5_0
          obtain ⟨_, _, ⟨T8, L8, k8, n8⟩, -, X8, ⟨Lc8, hQ8, l8, y8, z8⟩, st8⟩ := X7.virtualBack hx (y := (⟨"com/example/privlint/privlint/model/Signer", "isSignerOn", "(I)Z"⟩ : MethodName)) (z := (⟨"com/example/privlint/privlint/model/Signer", "isSignerOn", "(I)Z"⟩ : MethodName)) hown (mvT hZ (hw _ (List.mem_of_getElem? (i := 50) rfl))) (mvT hZ (hw _ (List.mem_of_getElem? (i := 51) rfl))) (notFace_of_selects (args := #[]) (mvT hZ (hw _ (List.mem_of_getElem? (i := 53) rfl)))) (mvT hZ (hw _ (List.mem_of_getElem? (i := 53) rfl))) (mvT hZ (hw _ (List.mem_of_getElem? (i := 52) rfl))) (by decide) (backOf (W := 0) (own_rm6 l Z aA hw [] b4 p2 p1 p2 h5 n0 Zn5 G5_2 G5_3) hZ (hw _ (List.mem_of_getElem? (i := 54) rfl)) (hw _ (List.mem_of_getElem? (i := 23) rfl)) (by decide) (by decide)) q8a q8c (g := (mkF m 95 #[.val (.int p0), .val (.int p1), .val (.int p2), .val (.ref b1), .val (.ref b4), .val (.long (p0.toInt64)), .second, .val (.int t52_0), .val (.int t77_0)] [(.int p2), (.ref b4)])) rfl (by rw [hml]; rfl) (Steps.refl _) (argsL := [(.int p2)]) (rest := []) (lenOf own_pd4 rfl) rfl (by show 2 * 0 + _ ≤ _; exact Nat.le_of_eq rfl) (hb hby at_95) (fun _ _ => ⟨rfl, e7, (by decide : 6 + 0 ≤ _), (by decide : 52 + 0 ≤ _)⟩)
          dsimp only [Pt.U, Pt.locs, Pt.cells, Pt.slots] at X8 l8 y8 z8 st8 hQ8
          subst y8 z8
          obtain ⟨rfl, N8q, e8⟩ := hQ8
          have N8 : Fr n0 L8 := by rw [l8]; exact Fr.app N7 N8q
          refine OweW.step (T' := T8) (g' := (mkF m 100 #[.val (.int p0), .val (.int p1), .val (.int p2), .val (.ref b1), .val (.ref b4), .val (.long (p0.toInt64)), .second, .val (.int t52_0), .val (.int t77_0)] [(.int t77_0), (.int (own_f6_0 p2 p1 p2))])) (fun t k => ?_) ?_
          · show Steps p.tables e below (T7.setTop (mkF m 92 #[.val (.int p0), .val (.int p1), .val (.int p2), .val (.ref b1), .val (.ref b4), .val (.long (p0.toInt64)), .second, .val (.int t52_0), .val (.int t77_0)] [])) t
            refine XS.aload X7.here hx rfl (hb hby at_92) rfl rfl ?_
            show Steps p.tables e below (T7.setTop (mkF m 94 #[.val (.int p0), .val (.int p1), .val (.int p2), .val (.ref b1), .val (.ref b4), .val (.long (p0.toInt64)), .second, .val (.int t52_0), .val (.int t77_0)] [(.ref b4)])) t
            refine XS.iloadN X7.here hx rfl (hb hby at_94) rfl ?_
            show Steps p.tables e below (T7.setTop (mkF m 95 #[.val (.int p0), .val (.int p1), .val (.int p2), .val (.ref b1), .val (.ref b4), .val (.long (p0.toInt64)), .second, .val (.int t52_0), .val (.int t77_0)] [(.int p2), (.ref b4)])) t
            refine st8.trans ?_
            show Steps p.tables e below (T8.setTop (mkF m 98 #[.val (.int p0), .val (.int p1), .val (.int p2), .val (.ref b1), .val (.ref b4), .val (.long (p0.toInt64)), .second, .val (.int t52_0), .val (.int t77_0)] [(.int (own_f6_0 p2 p1 p2))])) t
            refine XS.iload X8.here hx rfl (hb hby at_98) rfl ?_
            show Steps p.tables e below (T8.setTop (mkF m 100 #[.val (.int p0), .val (.int p1), .val (.int p2), .val (.ref b1), .val (.ref b4), .val (.long (p0.toInt64)), .second, .val (.int t52_0), .val (.int t77_0)] [(.int t77_0), (.int (own_f6_0 p2 p1 p2))])) t
            exact k
          by_cases hc100 : (own_f6_0 p2 p1 p2) = t77_0
          · refine OweW.step (T' := T8) (g' := (mkF m 105 #[.val (.int p0), .val (.int p1), .val (.int p2), .val (.ref b1), .val (.ref b4), .val (.long (p0.toInt64)), .second, .val (.int t52_0), .val (.int t77_0)] [])) (fun t k => ?_) ?_
            · show Steps p.tables e below (T8.setTop (mkF m 100 #[.val (.int p0), .val (.int p1), .val (.int p2), .val (.ref b1), .val (.ref b4), .val (.long (p0.toInt64)), .second, .val (.int t52_0), .val (.int t77_0)] [(.int t77_0), (.int (own_f6_0 p2 p1 p2))])) t
              refine XS.icmpYes X8.here hx rfl (pc0 := 100) (pc' := 105) rfl (hb hby at_100) rfl (teq hc100).1 (by decide) (by decide) ?_
              show Steps p.tables e below (T8.setTop (mkF m 105 #[.val (.int p0), .val (.int p1), .val (.int p2), .val (.ref b1), .val (.ref b4), .val (.long (p0.toInt64)), .second, .val (.int t52_0), .val (.int t77_0)] [])) t
              exact k
            refine OweW.step (T' := T8) (g' := (mkF m 108 #[.val (.int p0), .val (.int p1), .val (.int p2), .val (.ref b1), .val (.ref b4), .val (.long (p0.toInt64)), .second, .val (.int t52_0), .val (.int t77_0)] [(.int (-2147483648 : Int32)), (.int p1)])) (fun t k => ?_) ?_
            · show Steps p.tables e below (T8.setTop (mkF m 105 #[.val (.int p0), .val (.int p1), .val (.int p2), .val (.ref b1), .val (.ref b4), .val (.long (p0.toInt64)), .second, .val (.int t52_0), .val (.int t77_0)] [])) t
              refine XS.iloadN X8.here hx rfl (hb hby at_105) rfl ?_
              show Steps p.tables e below (T8.setTop (mkF m 106 #[.val (.int p0), .val (.int p1), .val (.int p2), .val (.ref b1), .val (.ref b4), .val (.long (p0.toInt64)), .second, .val (.int t52_0), .val (.int t77_0)] [(.int p1)])) t
              refine X8.ldcInt hx hown (mvT hZ (hw _ (List.mem_of_getElem? (i := 55) rfl))) (g := (mkF m 106 #[.val (.int p0), .val (.int p1), .val (.int p2), .val (.ref b1), .val (.ref b4), .val (.long (p0.toInt64)), .second, .val (.int t52_0), .val (.int t77_0)] [(.int p1)])) rfl (hb hby at_106) _ ?_
              show Steps p.tables e below (T8.setTop (mkF m 108 #[.val (.int p0), .val (.int p1), .val (.int p2), .val (.ref b1), .val (.ref b4), .val (.long (p0.toInt64)), .second, .val (.int t52_0), .val (.int t77_0)] [(.int (-2147483648 : Int32)), (.int p1)])) t
              exact k
            have j124 : ∀ (T : State) (Lc : List Loc) (X : Stand p l e room_1 (s.setVm T5.vm) m #[(.int p0), (.int p1), (.int p2)] below meth c T Lc 6 52) (eT : T.heap = h5) (N : Fr n0 Lc), OweW p e below s 24 1152 (QL (.int (own_f0_124 p1 p2)) n0) T (mkF m 124 #[.val (.int p0), .val (.int p1), .val (.int p2), .val (.ref b1), .val (.ref b4), .val (.long (p0.toInt64)), .second, .val (.int t52_0), .val (.int t77_0)] []) := by
              intro T124j Lc124j X124j e124j N124j
              refine OweW.step (T' := T124j) (g' := (mkF m 127 #[.val (.int p0), .val (.int p1), .val (.int p2), .val (.ref b1), .val (.ref b4), .val (.long (p0.toInt64)), .second, .val (.int t52_0), .val (.int t77_0)] [(.int (2147483647 : Int32)), (.int p2)])) (fun t k => ?_) ?_
              · show Steps p.tables e below (T124j.setTop (mkF m 124 #[.val (.int p0), .val (.int p1), .val (.int p2), .val (.ref b1), .val (.ref b4), .val (.long (p0.toInt64)), .second, .val (.int t52_0), .val (.int t77_0)] [])) t
                refine XS.iloadN X124j.here hx rfl (hb hby at_124) rfl ?_
                show Steps p.tables e below (T124j.setTop (mkF m 125 #[.val (.int p0), .val (.int p1), .val (.int p2), .val (.ref b1), .val (.ref b4), .val (.long (p0.toInt64)), .second, .val (.int t52_0), .val (.int t77_0)] [(.int p2)])) t
                refine X124j.ldcInt hx hown (mvT hZ (hw _ (List.mem_of_getElem? (i := 56) rfl))) (g := (mkF m 125 #[.val (.int p0), .val (.int p1), .val (.int p2), .val (.ref b1), .val (.ref b4), .val (.long (p0.toInt64)), .second, .val (.int t52_0), .val (.int t77_0)] [(.int p2)])) rfl (hb hby at_125) _ ?_
                show Steps p.tables e below (T124j.setTop (mkF m 127 #[.val (.int p0), .val (.int p1), .val (.int p2), .val (.ref b1), .val (.ref b4), .val (.long (p0.toInt64)), .second, .val (.int t52_0), .val (.int t77_0)] [(.int (2147483647 : Int32)), (.int p2)])) t
                exact k
              by_cases hc127 : p2 = (2147483647 : Int32)
              · refine OweW.step (T' := T124j) (g' := (mkF m 143 #[.val (.int p0), .val (.int p1), .val (.int p2), .val (.ref b1), .val (.ref b4), .val (.long (p0.toInt64)), .second, .val (.int t52_0), .val (.int t77_0)] [])) (fun t k => ?_) ?_
                · show Steps p.tables e below (T124j.setTop (mkF m 127 #[.val (.int p0), .val (.int p1), .val (.int p2), .val (.ref b1), .val (.ref b4), .val (.long (p0.toInt64)), .second, .val (.int t52_0), .val (.int t77_0)] [(.int (2147483647 : Int32)), (.int p2)])) t
                  refine XS.icmpYes X124j.here hx rfl (pc0 := 127) (pc' := 143) rfl (hb hby at_127) rfl (teq hc127).1 (by decide) (by decide) ?_
                  show Steps p.tables e below (T124j.setTop (mkF m 143 #[.val (.int p0), .val (.int p1), .val (.int p2), .val (.ref b1), .val (.ref b4), .val (.long (p0.toInt64)), .second, .val (.int t52_0), .val (.int t77_0)] [])) t
                  exact k
                rw [show own_f0_124 p1 p2 = (1 : Int32) from (by rw [own_f0_124, if_pos hc127])]
                refine OweW.ret X124j S5 (by rw [e124j]; exact kh5) Bd.notSynchronized (v := (some (.int (1 : Int32)))) (fun h => by rw [Bd.returns] at h; cases h) (fun fs hr => ?_) ⟨rfl, N124j⟩ (by decide) (by decide)
                show Steps p.tables e below (T124j.setTop (mkF m 143 #[.val (.int p0), .val (.int p1), .val (.int p2), .val (.ref b1), .val (.ref b4), .val (.long (p0.toInt64)), .second, .val (.int t52_0), .val (.int t77_0)] [])) _
                refine XS.iconst X124j.here hx rfl (hb hby at_143) ?_
                show Steps p.tables e below (T124j.setTop (mkF m 144 #[.val (.int p0), .val (.int p1), .val (.int p2), .val (.ref b1), .val (.ref b4), .val (.long (p0.toInt64)), .second, .val (.int t52_0), .val (.int t77_0)] [(.int (1 : Int32))])) _
                exact retN X124j hx (t := .boolean) Bd.returns (by simp) (hb hby at_144) hr
              · refine OweW.step (T' := T124j) (g' := (mkF m 130 #[.val (.int p0), .val (.int p1), .val (.int p2), .val (.ref b1), .val (.ref b4), .val (.long (p0.toInt64)), .second, .val (.int t52_0), .val (.int t77_0)] [])) (fun t k => ?_) ?_
                · show Steps p.tables e below (T124j.setTop (mkF m 127 #[.val (.int p0), .val (.int p1), .val (.int p2), .val (.ref b1), .val (.ref b4), .val (.long (p0.toInt64)), .second, .val (.int t52_0), .val (.int t77_0)] [(.int (2147483647 : Int32)), (.int p2)])) t
                  refine XS.icmpNo X124j.here hx rfl (hb hby at_127) rfl (feq hc127).1 ?_
                  show Steps p.tables e below (T124j.setTop (mkF m 130 #[.val (.int p0), .val (.int p1), .val (.int p2), .val (.ref b1), .val (.ref b4), .val (.long (p0.toInt64)), .second, .val (.int t52_0), .val (.int t77_0)] [])) t
                  exact k
                obtain ⟨cq9, kq9, q9a, q9b, q9c⟩ := isOf hZ e124j G5_0
                obtain ⟨_, _, ⟨T9, L9, k9, n9⟩, -, X9, ⟨Lc9, hQ9, l9, y9, z9⟩, st9⟩ := X124j.virtualBack hx (y := (⟨"com/example/privlint/privlint/model/Signer", "isSignerOn", "(I)Z"⟩ : MethodName)) (z := (⟨"com/example/privlint/privlint/model/Signer", "isSignerOn", "(I)Z"⟩ : MethodName)) hown (mvT hZ (hw _ (List.mem_of_getElem? (i := 50) rfl))) (mvT hZ (hw _ (List.mem_of_getElem? (i := 51) rfl))) (notFace_of_selects (args := #[]) (mvT hZ (hw _ (List.mem_of_getElem? (i := 53) rfl)))) (mvT hZ (hw _ (List.mem_of_getElem? (i := 53) rfl))) (mvT hZ (hw _ (List.mem_of_getElem? (i := 52) rfl))) (by decide) (backOf (W := 0) (own_rm6 l Z aA hw [] b4 (p2 + (1 : Int32)) p1 p2 h5 n0 Zn5 G5_2 G5_3) hZ (hw _ (List.mem_of_getElem? (i := 54) rfl)) (hw _ (List.mem_of_getElem? (i := 23) rfl)) (by decide) (by decide)) q9a q9c (g := (mkF m 135 #[.val (.int p0), .val (.int p1), .val (.int p2), .val (.ref b1), .val (.ref b4), .val (.long (p0.toInt64)), .second, .val (.int t52_0), .val (.int t77_0)] [(.int (p2 + (1 : Int32))), (.ref b4)])) rfl (by rw [hml]; rfl) (Steps.refl _) (argsL := [(.int (p2 + (1 : Int32)))]) (rest := []) (lenOf own_pd4 rfl) rfl (by show 2 * 0 + _ ≤ _; exact Nat.le_of_eq rfl) (hb hby at_135) (fun _ _ => ⟨rfl, e124j, (by decide : 6 + 0 ≤ _), (by decide : 52 + 0 ≤ _)⟩)
                dsimp only [Pt.U, Pt.locs, Pt.cells, Pt.slots] at X9 l9 y9 z9 st9 hQ9
                subst y9 z9
                obtain ⟨rfl, N9q, e9⟩ := hQ9
                have N9 : Fr n0 L9 := by rw [l9]; exact Fr.app N124j N9q
                refine OweW.step (T' := T9) (g' := (mkF m 138 #[.val (.int p0), .val (.int p1), .val (.int p2), .val (.ref b1), .val (.ref b4), .val (.long (p0.toInt64)), .second, .val (.int t52_0), .val (.int t77_0)] [(.int (own_f6_0 (p2 + (1 : Int32)) p1 p2))])) (fun t k => ?_) ?_
                · show Steps p.tables e below (T124j.setTop (mkF m 130 #[.val (.int p0), .val (.int p1), .val (.int p2), .val (.ref b1), .val (.ref b4), .val (.long (p0.toInt64)), .second, .val (.int t52_0), .val (.int t77_0)] [])) t
                  refine XS.aload X124j.here hx rfl (hb hby at_130) rfl rfl ?_
                  show Steps p.tables e below (T124j.setTop (mkF m 132 #[.val (.int p0), .val (.int p1), .val (.int p2), .val (.ref b1), .val (.ref b4), .val (.long (p0.toInt64)), .second, .val (.int t52_0), .val (.int t77_0)] [(.ref b4)])) t
                  refine XS.iloadN X124j.here hx rfl (hb hby at_132) rfl ?_
                  show Steps p.tables e below (T124j.setTop (mkF m 133 #[.val (.int p0), .val (.int p1), .val (.int p2), .val (.ref b1), .val (.ref b4), .val (.long (p0.toInt64)), .second, .val (.int t52_0), .val (.int t77_0)] [(.int p2), (.ref b4)])) t
                  refine XS.iconst X124j.here hx rfl (hb hby at_133) ?_
                  show Steps p.tables e below (T124j.setTop (mkF m 134 #[.val (.int p0), .val (.int p1), .val (.int p2), .val (.ref b1), .val (.ref b4), .val (.long (p0.toInt64)), .second, .val (.int t52_0), .val (.int t77_0)] [(.int (1 : Int32)), (.int p2), (.ref b4)])) t
                  refine XS.iadd X124j.here hx rfl (hb hby at_134) rfl ?_
                  show Steps p.tables e below (T124j.setTop (mkF m 135 #[.val (.int p0), .val (.int p1), .val (.int p2), .val (.ref b1), .val (.ref b4), .val (.long (p0.toInt64)), .second, .val (.int t52_0), .val (.int t77_0)] [(.int (p2 + (1 : Int32))), (.ref b4)])) t
                  refine st9.trans ?_
                  show Steps p.tables e below (T9.setTop (mkF m 138 #[.val (.int p0), .val (.int p1), .val (.int p2), .val (.ref b1), .val (.ref b4), .val (.long (p0.toInt64)), .second, .val (.int t52_0), .val (.int t77_0)] [(.int (own_f6_0 (p2 + (1 : Int32)) p1 p2))])) t
                  exact k
                by_cases hc138 : (own_f6_0 (p2 + (1 : Int32)) p1 p2) = (0 : Int32)
                · refine OweW.step (T' := T9) (g' := (mkF m 143 #[.val (.int p0), .val (.int p1), .val (.int p2), .val (.ref b1), .val (.ref b4), .val (.long (p0.toInt64)), .second, .val (.int t52_0), .val (.int t77_0)] [])) (fun t k => ?_) ?_
                  · show Steps p.tables e below (T9.setTop (mkF m 138 #[.val (.int p0), .val (.int p1), .val (.int p2), .val (.ref b1), .val (.ref b4), .val (.long (p0.toInt64)), .second, .val (.int t52_0), .val (.int t77_0)] [(.int (own_f6_0 (p2 + (1 : Int32)) p1 p2))])) t
                    refine XS.ifYes X9.here hx rfl (pc0 := 138) (pc' := 143) rfl (hb hby at_138) rfl ((if0 _ _).trans (teq hc138).1) (by decide) (by decide) ?_
                    show Steps p.tables e below (T9.setTop (mkF m 143 #[.val (.int p0), .val (.int p1), .val (.int p2), .val (.ref b1), .val (.ref b4), .val (.long (p0.toInt64)), .second, .val (.int t52_0), .val (.int t77_0)] [])) t
                    exact k
                  rw [show own_f0_124 p1 p2 = (1 : Int32) from (by rw [own_f0_124, if_neg hc127, if_pos hc138])]
                  refine OweW.ret X9 S5 (by rw [e9]; exact kh5) Bd.notSynchronized (v := (some (.int (1 : Int32)))) (fun h => by rw [Bd.returns] at h; cases h) (fun fs hr => ?_) ⟨rfl, N9⟩ (by decide) (by decide)
                  show Steps p.tables e below (T9.setTop (mkF m 143 #[.val (.int p0), .val (.int p1), .val (.int p2), .val (.ref b1), .val (.ref b4), .val (.long (p0.toInt64)), .second, .val (.int t52_0), .val (.int t77_0)] [])) _
                  refine XS.iconst X9.here hx rfl (hb hby at_143) ?_
                  show Steps p.tables e below (T9.setTop (mkF m 144 #[.val (.int p0), .val (.int p1), .val (.int p2), .val (.ref b1), .val (.ref b4), .val (.long (p0.toInt64)), .second, .val (.int t52_0), .val (.int t77_0)] [(.int (1 : Int32))])) _
                  exact retN X9 hx (t := .boolean) Bd.returns (by simp) (hb hby at_144) hr
                · refine OweW.step (T' := T9) (g' := (mkF m 141 #[.val (.int p0), .val (.int p1), .val (.int p2), .val (.ref b1), .val (.ref b4), .val (.long (p0.toInt64)), .second, .val (.int t52_0), .val (.int t77_0)] [])) (fun t k => ?_) ?_
                  · show Steps p.tables e below (T9.setTop (mkF m 138 #[.val (.int p0), .val (.int p1), .val (.int p2), .val (.ref b1), .val (.ref b4), .val (.long (p0.toInt64)), .second, .val (.int t52_0), .val (.int t77_0)] [(.int (own_f6_0 (p2 + (1 : Int32)) p1 p2))])) t
                    refine XS.ifNo X9.here hx rfl (hb hby at_138) rfl ((if0 _ _).trans (feq hc138).1) ?_
                    show Steps p.tables e below (T9.setTop (mkF m 141 #[.val (.int p0), .val (.int p1), .val (.int p2), .val (.ref b1), .val (.ref b4), .val (.long (p0.toInt64)), .second, .val (.int t52_0), .val (.int t77_0)] [])) t
                    exact k
                  rw [show own_f0_124 p1 p2 = (0 : Int32) from (by rw [own_f0_124, if_neg hc127, if_neg hc138])]
                  refine OweW.ret X9 S5 (by rw [e9]; exact kh5) Bd.notSynchronized (v := (some (.int (0 : Int32)))) (fun h => by rw [Bd.returns] at h; cases h) (fun fs hr => ?_) ⟨rfl, N9⟩ (by decide) (by decide)
                  show Steps p.tables e below (T9.setTop (mkF m 141 #[.val (.int p0), .val (.int p1), .val (.int p2), .val (.ref b1), .val (.ref b4), .val (.long (p0.toInt64)), .second, .val (.int t52_0), .val (.int t77_0)] [])) _
                  refine XS.iconst X9.here hx rfl (hb hby at_141) ?_
                  show Steps p.tables e below (T9.setTop (mkF m 142 #[.val (.int p0), .val (.int p1), .val (.int p2), .val (.ref b1), .val (.ref b4), .val (.long (p0.toInt64)), .second, .val (.int t52_0), .val (.int t77_0)] [(.int (0 : Int32))])) _
                  exact retN X9 hx (t := .boolean) Bd.returns (by simp) (hb hby at_142) hr
            by_cases hc108 : p1 = (-2147483648 : Int32)
            · refine OweW.step (T' := T8) (g' := (mkF m 124 #[.val (.int p0), .val (.int p1), .val (.int p2), .val (.ref b1), .val (.ref b4), .val (.long (p0.toInt64)), .second, .val (.int t52_0), .val (.int t77_0)] [])) (fun t k => ?_) ?_
              · show Steps p.tables e below (T8.setTop (mkF m 108 #[.val (.int p0), .val (.int p1), .val (.int p2), .val (.ref b1), .val (.ref b4), .val (.long (p0.toInt64)), .second, .val (.int t52_0), .val (.int t77_0)] [(.int (-2147483648 : Int32)), (.int p1)])) t
                refine XS.icmpYes X8.here hx rfl (pc0 := 108) (pc' := 124) rfl (hb hby at_108) rfl (teq hc108).1 (by decide) (by decide) ?_
                show Steps p.tables e below (T8.setTop (mkF m 124 #[.val (.int p0), .val (.int p1), .val (.int p2), .val (.ref b1), .val (.ref b4), .val (.long (p0.toInt64)), .second, .val (.int t52_0), .val (.int t77_0)] [])) t
                exact k
              rw [show own_f0_77 p1 p2 t77_0 = (own_f0_124 p1 p2) from (by rw [own_f0_77, if_pos hc87, if_pos hc100, if_pos hc108])]
              exact j124 T8 _ X8 e8 N8
            · refine OweW.step (T' := T8) (g' := (mkF m 111 #[.val (.int p0), .val (.int p1), .val (.int p2), .val (.ref b1), .val (.ref b4), .val (.long (p0.toInt64)), .second, .val (.int t52_0), .val (.int t77_0)] [])) (fun t k => ?_) ?_
              · show Steps p.tables e below (T8.setTop (mkF m 108 #[.val (.int p0), .val (.int p1), .val (.int p2), .val (.ref b1), .val (.ref b4), .val (.long (p0.toInt64)), .second, .val (.int t52_0), .val (.int t77_0)] [(.int (-2147483648 : Int32)), (.int p1)])) t
                refine XS.icmpNo X8.here hx rfl (hb hby at_108) rfl (feq hc108).1 ?_
                show Steps p.tables e below (T8.setTop (mkF m 111 #[.val (.int p0), .val (.int p1), .val (.int p2), .val (.ref b1), .val (.ref b4), .val (.long (p0.toInt64)), .second, .val (.int t52_0), .val (.int t77_0)] [])) t
                exact k
              obtain ⟨cq10, kq10, q10a, q10b, q10c⟩ := isOf hZ e8 G5_0
              obtain ⟨_, _, ⟨T10, L10, k10, n10⟩, -, X10, ⟨Lc10, hQ10, l10, y10, z10⟩, st10⟩ := X8.virtualBack hx (y := (⟨"com/example/privlint/privlint/model/Signer", "isSignerOn", "(I)Z"⟩ : MethodName)) (z := (⟨"com/example/privlint/privlint/model/Signer", "isSignerOn", "(I)Z"⟩ : MethodName)) hown (mvT hZ (hw _ (List.mem_of_getElem? (i := 50) rfl))) (mvT hZ (hw _ (List.mem_of_getElem? (i := 51) rfl))) (notFace_of_selects (args := #[]) (mvT hZ (hw _ (List.mem_of_getElem? (i := 53) rfl)))) (mvT hZ (hw _ (List.mem_of_getElem? (i := 53) rfl))) (mvT hZ (hw _ (List.mem_of_getElem? (i := 52) rfl))) (by decide) (backOf (W := 0) (own_rm6 l Z aA hw [] b4 (p1 - (1 : Int32)) p1 p2 h5 n0 Zn5 G5_2 G5_3) hZ (hw _ (List.mem_of_getElem? (i := 54) rfl)) (hw _ (List.mem_of_getElem? (i := 23) rfl)) (by decide) (by decide)) q10a q10c (g := (mkF m 116 #[.val (.int p0), .val (.int p1), .val (.int p2), .val (.ref b1), .val (.ref b4), .val (.long (p0.toInt64)), .second, .val (.int t52_0), .val (.int t77_0)] [(.int (p1 - (1 : Int32))), (.ref b4)])) rfl (by rw [hml]; rfl) (Steps.refl _) (argsL := [(.int (p1 - (1 : Int32)))]) (rest := []) (lenOf own_pd4 rfl) rfl (by show 2 * 0 + _ ≤ _; exact Nat.le_of_eq rfl) (hb hby at_116) (fun _ _ => ⟨rfl, e8, (by decide : 6 + 0 ≤ _), (by decide : 52 + 0 ≤ _)⟩)
              dsimp only [Pt.U, Pt.locs, Pt.cells, Pt.slots] at X10 l10 y10 z10 st10 hQ10
              subst y10 z10
              obtain ⟨rfl, N10q, e10⟩ := hQ10
              have N10 : Fr n0 L10 := by rw [l10]; exact Fr.app N8 N10q
              refine OweW.step (T' := T10) (g' := (mkF m 119 #[.val (.int p0), .val (.int p1), .val (.int p2), .val (.ref b1), .val (.ref b4), .val (.long (p0.toInt64)), .second, .val (.int t52_0), .val (.int t77_0)] [(.int (own_f6_0 (p1 - (1 : Int32)) p1 p2))])) (fun t k => ?_) ?_
              · show Steps p.tables e below (T8.setTop (mkF m 111 #[.val (.int p0), .val (.int p1), .val (.int p2), .val (.ref b1), .val (.ref b4), .val (.long (p0.toInt64)), .second, .val (.int t52_0), .val (.int t77_0)] [])) t
                refine XS.aload X8.here hx rfl (hb hby at_111) rfl rfl ?_
                show Steps p.tables e below (T8.setTop (mkF m 113 #[.val (.int p0), .val (.int p1), .val (.int p2), .val (.ref b1), .val (.ref b4), .val (.long (p0.toInt64)), .second, .val (.int t52_0), .val (.int t77_0)] [(.ref b4)])) t
                refine XS.iloadN X8.here hx rfl (hb hby at_113) rfl ?_
                show Steps p.tables e below (T8.setTop (mkF m 114 #[.val (.int p0), .val (.int p1), .val (.int p2), .val (.ref b1), .val (.ref b4), .val (.long (p0.toInt64)), .second, .val (.int t52_0), .val (.int t77_0)] [(.int p1), (.ref b4)])) t
                refine XS.iconst X8.here hx rfl (hb hby at_114) ?_
                show Steps p.tables e below (T8.setTop (mkF m 115 #[.val (.int p0), .val (.int p1), .val (.int p2), .val (.ref b1), .val (.ref b4), .val (.long (p0.toInt64)), .second, .val (.int t52_0), .val (.int t77_0)] [(.int (1 : Int32)), (.int p1), (.ref b4)])) t
                refine XS.isub X8.here hx rfl (hb hby at_115) rfl ?_
                show Steps p.tables e below (T8.setTop (mkF m 116 #[.val (.int p0), .val (.int p1), .val (.int p2), .val (.ref b1), .val (.ref b4), .val (.long (p0.toInt64)), .second, .val (.int t52_0), .val (.int t77_0)] [(.int (p1 - (1 : Int32))), (.ref b4)])) t
                refine st10.trans ?_
                show Steps p.tables e below (T10.setTop (mkF m 119 #[.val (.int p0), .val (.int p1), .val (.int p2), .val (.ref b1), .val (.ref b4), .val (.long (p0.toInt64)), .second, .val (.int t52_0), .val (.int t77_0)] [(.int (own_f6_0 (p1 - (1 : Int32)) p1 p2))])) t
                exact k
              by_cases hc119 : (own_f6_0 (p1 - (1 : Int32)) p1 p2) = (0 : Int32)
              · refine OweW.step (T' := T10) (g' := (mkF m 124 #[.val (.int p0), .val (.int p1), .val (.int p2), .val (.ref b1), .val (.ref b4), .val (.long (p0.toInt64)), .second, .val (.int t52_0), .val (.int t77_0)] [])) (fun t k => ?_) ?_
                · show Steps p.tables e below (T10.setTop (mkF m 119 #[.val (.int p0), .val (.int p1), .val (.int p2), .val (.ref b1), .val (.ref b4), .val (.long (p0.toInt64)), .second, .val (.int t52_0), .val (.int t77_0)] [(.int (own_f6_0 (p1 - (1 : Int32)) p1 p2))])) t
                  refine XS.ifYes X10.here hx rfl (pc0 := 119) (pc' := 124) rfl (hb hby at_119) rfl ((if0 _ _).trans (teq hc119).1) (by decide) (by decide) ?_
                  show Steps p.tables e below (T10.setTop (mkF m 124 #[.val (.int p0), .val (.int p1), .val (.int p2), .val (.ref b1), .val (.ref b4), .val (.long (p0.toInt64)), .second, .val (.int t52_0), .val (.int t77_0)] [])) t
                  exact k
                rw [show own_f0_77 p1 p2 t77_0 = (own_f0_124 p1 p2) from (by rw [own_f0_77, if_pos hc87, if_pos hc100, if_neg hc108, if_pos hc119])]
                exact j124 T10 _ X10 e10 N10
              · refine OweW.step (T' := T10) (g' := (mkF m 122 #[.val (.int p0), .val (.int p1), .val (.int p2), .val (.ref b1), .val (.ref b4), .val (.long (p0.toInt64)), .second, .val (.int t52_0), .val (.int t77_0)] [])) (fun t k => ?_) ?_
                · show Steps p.tables e below (T10.setTop (mkF m 119 #[.val (.int p0), .val (.int p1), .val (.int p2), .val (.ref b1), .val (.ref b4), .val (.long (p0.toInt64)), .second, .val (.int t52_0), .val (.int t77_0)] [(.int (own_f6_0 (p1 - (1 : Int32)) p1 p2))])) t
                  refine XS.ifNo X10.here hx rfl (hb hby at_119) rfl ((if0 _ _).trans (feq hc119).1) ?_
                  show Steps p.tables e below (T10.setTop (mkF m 122 #[.val (.int p0), .val (.int p1), .val (.int p2), .val (.ref b1), .val (.ref b4), .val (.long (p0.toInt64)), .second, .val (.int t52_0), .val (.int t77_0)] [])) t
                  exact k
                rw [show own_f0_77 p1 p2 t77_0 = (0 : Int32) from (by rw [own_f0_77, if_pos hc87, if_pos hc100, if_neg hc108, if_neg hc119])]
                refine OweW.ret X10 S5 (by rw [e10]; exact kh5) Bd.notSynchronized (v := (some (.int (0 : Int32)))) (fun h => by rw [Bd.returns] at h; cases h) (fun fs hr => ?_) ⟨rfl, N10⟩ (by decide) (by decide)
                show Steps p.tables e below (T10.setTop (mkF m 122 #[.val (.int p0), .val (.int p1), .val (.int p2), .val (.ref b1), .val (.ref b4), .val (.long (p0.toInt64)), .second, .val (.int t52_0), .val (.int t77_0)] [])) _
                refine XS.iconst X10.here hx rfl (hb hby at_122) ?_
                show Steps p.tables e below (T10.setTop (mkF m 123 #[.val (.int p0), .val (.int p1), .val (.int p2), .val (.ref b1), .val (.ref b4), .val (.long (p0.toInt64)), .second, .val (.int t52_0), .val (.int t77_0)] [(.int (0 : Int32))])) _
                exact retN X10 hx (t := .boolean) Bd.returns (by simp) (hb hby at_123) hr
          · refine OweW.step (T' := T8) (g' := (mkF m 103 #[.val (.int p0), .val (.int p1), .val (.int p2), .val (.ref b1), .val (.ref b4), .val (.long (p0.toInt64)), .second, .val (.int t52_0), .val (.int t77_0)] [])) (fun t k => ?_) ?_
            · show Steps p.tables e below (T8.setTop (mkF m 100 #[.val (.int p0), .val (.int p1), .val (.int p2), .val (.ref b1), .val (.ref b4), .val (.long (p0.toInt64)), .second, .val (.int t52_0), .val (.int t77_0)] [(.int t77_0), (.int (own_f6_0 p2 p1 p2))])) t
              refine XS.icmpNo X8.here hx rfl (hb hby at_100) rfl (feq hc100).1 ?_
              show Steps p.tables e below (T8.setTop (mkF m 103 #[.val (.int p0), .val (.int p1), .val (.int p2), .val (.ref b1), .val (.ref b4), .val (.long (p0.toInt64)), .second, .val (.int t52_0), .val (.int t77_0)] [])) t
              exact k
            rw [show own_f0_77 p1 p2 t77_0 = (0 : Int32) from (by rw [own_f0_77, if_pos hc87, if_neg hc100])]
            refine OweW.ret X8 S5 (by rw [e8]; exact kh5) Bd.notSynchronized (v := (some (.int (0 : Int32)))) (fun h => by rw [Bd.returns] at h; cases h) (fun fs hr => ?_) ⟨rfl, N8⟩ (by decide) (by decide)
            show Steps p.tables e below (T8.setTop (mkF m 103 #[.val (.int p0), .val (.int p1), .val (.int p2), .val (.ref b1), .val (.ref b4), .val (.long (p0.toInt64)), .second, .val (.int t52_0), .val (.int t77_0)] [])) _
            refine XS.iconst X8.here hx rfl (hb hby at_103) ?_
            show Steps p.tables e below (T8.setTop (mkF m 104 #[.val (.int p0), .val (.int p1), .val (.int p2), .val (.ref b1), .val (.ref b4), .val (.long (p0.toInt64)), .second, .val (.int t52_0), .val (.int t77_0)] [(.int (0 : Int32))])) _
            exact retN X8 hx (t := .boolean) Bd.returns (by simp) (hb hby at_104) hr
        · refine OweW.step (T' := T7) (g' := (mkF m 90 #[.val (.int p0), .val (.int p1), .val (.int p2), .val (.ref b1), .val (.ref b4), .val (.long (p0.toInt64)), .second, .val (.int t52_0), .val (.int t77_0)] [])) (fun t k => ?_) ?_
          · show Steps p.tables e below (T7.setTop (mkF m 87 #[.val (.int p0), .val (.int p1), .val (.int p2), .val (.ref b1), .val (.ref b4), .val (.long (p0.toInt64)), .second, .val (.int t52_0), .val (.int t77_0)] [(.int t77_0), (.int (own_f6_0 p1 p1 p2))])) t
            refine XS.icmpNo X7.here hx rfl (hb hby at_87) rfl (feq hc87).1 ?_
            show Steps p.tables e below (T7.setTop (mkF m 90 #[.val (.int p0), .val (.int p1), .val (.int p2), .val (.ref b1), .val (.ref b4), .val (.long (p0.toInt64)), .second, .val (.int t52_0), .val (.int t77_0)] [])) t
            exact k
          rw [show own_f0_77 p1 p2 t77_0 = (0 : Int32) from (by rw [own_f0_77, if_neg hc87])]
          refine OweW.ret X7 S5 (by rw [e7]; exact kh5) Bd.notSynchronized (v := (some (.int (0 : Int32)))) (fun h => by rw [Bd.returns] at h; cases h) (fun fs hr => ?_) ⟨rfl, N7⟩ (by decide) (by decide)
          show Steps p.tables e below (T7.setTop (mkF m 90 #[.val (.int p0), .val (.int p1), .val (.int p2), .val (.ref b1), .val (.ref b4), .val (.long (p0.toInt64)), .second, .val (.int t52_0), .val (.int t77_0)] [])) _
          refine XS.iconst X7.here hx rfl (hb hby at_90) ?_
          show Steps p.tables e below (T7.setTop (mkF m 91 #[.val (.int p0), .val (.int p1), .val (.int p2), .val (.ref b1), .val (.ref b4), .val (.long (p0.toInt64)), .second, .val (.int t52_0), .val (.int t77_0)] [(.int (0 : Int32))])) _
          exact retN X7 hx (t := .boolean) Bd.returns (by simp) (hb hby at_91) hr
      by_cases hc69 : p2 < p1
      · refine OweW.step (T' := T6) (g' := (mkF m 76 #[.val (.int p0), .val (.int p1), .val (.int p2), .val (.ref b1), .val (.ref b4), .val (.long (p0.toInt64)), .second, .val (.int t52_0), .unset] [])) (fun t k => ?_) ?_
        · show Steps p.tables e below (T6.setTop (mkF m 69 #[.val (.int p0), .val (.int p1), .val (.int p2), .val (.ref b1), .val (.ref b4), .val (.long (p0.toInt64)), .second, .val (.int t52_0), .unset] [(.int p2), (.int p1)])) t
          refine XS.icmpYes X6.here hx rfl (pc0 := 69) (pc' := 76) rfl (hb hby at_69) rfl (tlt hc69).2.2.1 (by decide) (by decide) ?_
          show Steps p.tables e below (T6.setTop (mkF m 76 #[.val (.int p0), .val (.int p1), .val (.int p2), .val (.ref b1), .val (.ref b4), .val (.long (p0.toInt64)), .second, .val (.int t52_0), .unset] [])) t
          exact k
        refine OweW.step (T' := T6) (g' := (mkF m 77 #[.val (.int p0), .val (.int p1), .val (.int p2), .val (.ref b1), .val (.ref b4), .val (.long (p0.toInt64)), .second, .val (.int t52_0), .unset] [(.int (0 : Int32))])) (fun t k => ?_) ?_
        · show Steps p.tables e below (T6.setTop (mkF m 76 #[.val (.int p0), .val (.int p1), .val (.int p2), .val (.ref b1), .val (.ref b4), .val (.long (p0.toInt64)), .second, .val (.int t52_0), .unset] [])) t
          refine XS.iconst X6.here hx rfl (hb hby at_76) ?_
          show Steps p.tables e below (T6.setTop (mkF m 77 #[.val (.int p0), .val (.int p1), .val (.int p2), .val (.ref b1), .val (.ref b4), .val (.long (p0.toInt64)), .second, .val (.int t52_0), .unset] [(.int (0 : Int32))])) t
          exact k
        rw [show own_f0_52 p0 p1 p2 t52_0 = (own_f0_77 p1 p2 (0 : Int32)) from (by rw [own_f0_52, if_pos hc62, if_pos hc69])]
        exact j77 T6 _ X6 (0 : Int32) e6 N6
      · refine OweW.step (T' := T6) (g' := (mkF m 72 #[.val (.int p0), .val (.int p1), .val (.int p2), .val (.ref b1), .val (.ref b4), .val (.long (p0.toInt64)), .second, .val (.int t52_0), .unset] [])) (fun t k => ?_) ?_
        · show Steps p.tables e below (T6.setTop (mkF m 69 #[.val (.int p0), .val (.int p1), .val (.int p2), .val (.ref b1), .val (.ref b4), .val (.long (p0.toInt64)), .second, .val (.int t52_0), .unset] [(.int p2), (.int p1)])) t
          refine XS.icmpNo X6.here hx rfl (hb hby at_69) rfl (flt hc69).2.2.1 ?_
          show Steps p.tables e below (T6.setTop (mkF m 72 #[.val (.int p0), .val (.int p1), .val (.int p2), .val (.ref b1), .val (.ref b4), .val (.long (p0.toInt64)), .second, .val (.int t52_0), .unset] [])) t
          exact k
        refine OweW.step (T' := T6) (g' := (mkF m 77 #[.val (.int p0), .val (.int p1), .val (.int p2), .val (.ref b1), .val (.ref b4), .val (.long (p0.toInt64)), .second, .val (.int t52_0), .unset] [(.int (1 : Int32))])) (fun t k => ?_) ?_
        · show Steps p.tables e below (T6.setTop (mkF m 72 #[.val (.int p0), .val (.int p1), .val (.int p2), .val (.ref b1), .val (.ref b4), .val (.long (p0.toInt64)), .second, .val (.int t52_0), .unset] [])) t
          refine XS.iconst X6.here hx rfl (hb hby at_72) ?_
          show Steps p.tables e below (T6.setTop (mkF m 73 #[.val (.int p0), .val (.int p1), .val (.int p2), .val (.ref b1), .val (.ref b4), .val (.long (p0.toInt64)), .second, .val (.int t52_0), .unset] [(.int (1 : Int32))])) t
          refine XS.goto X6.here hx rfl (pc0 := 73) (pc' := 77) rfl (hb hby at_73) (by decide) (by decide) ?_
          show Steps p.tables e below (T6.setTop (mkF m 77 #[.val (.int p0), .val (.int p1), .val (.int p2), .val (.ref b1), .val (.ref b4), .val (.long (p0.toInt64)), .second, .val (.int t52_0), .unset] [(.int (1 : Int32))])) t
          exact k
        rw [show own_f0_52 p0 p1 p2 t52_0 = (own_f0_77 p1 p2 (1 : Int32)) from (by rw [own_f0_52, if_pos hc62, if_neg hc69])]
        exact j77 T6 _ X6 (1 : Int32) e6 N6
    · refine OweW.step (T' := T6) (g' := (mkF m 65 #[.val (.int p0), .val (.int p1), .val (.int p2), .val (.ref b1), .val (.ref b4), .val (.long (p0.toInt64)), .second, .val (.int t52_0), .unset] [])) (fun t k => ?_) ?_
      · show Steps p.tables e below (T6.setTop (mkF m 62 #[.val (.int p0), .val (.int p1), .val (.int p2), .val (.ref b1), .val (.ref b4), .val (.long (p0.toInt64)), .second, .val (.int t52_0), .unset] [(.int t52_0), (.int (own_f6_0 p0 p1 p2))])) t
        refine XS.icmpNo X6.here hx rfl (hb hby at_62) rfl (feq hc62).1 ?_
        show Steps p.tables e below (T6.setTop (mkF m 65 #[.val (.int p0), .val (.int p1), .val (.int p2), .val (.ref b1), .val (.ref b4), .val (.long (p0.toInt64)), .second, .val (.int t52_0), .unset] [])) t
        exact k
      rw [show own_f0_52 p0 p1 p2 t52_0 = (0 : Int32) from (by rw [own_f0_52, if_neg hc62])]
      refine OweW.ret X6 S5 (by rw [e6]; exact kh5) Bd.notSynchronized (v := (some (.int (0 : Int32)))) (fun h => by rw [Bd.returns] at h; cases h) (fun fs hr => ?_) ⟨rfl, N6⟩ (by decide) (by decide)
      show Steps p.tables e below (T6.setTop (mkF m 65 #[.val (.int p0), .val (.int p1), .val (.int p2), .val (.ref b1), .val (.ref b4), .val (.long (p0.toInt64)), .second, .val (.int t52_0), .unset] [])) _
      refine XS.iconst X6.here hx rfl (hb hby at_65) ?_
      show Steps p.tables e below (T6.setTop (mkF m 66 #[.val (.int p0), .val (.int p1), .val (.int p2), .val (.ref b1), .val (.ref b4), .val (.long (p0.toInt64)), .second, .val (.int t52_0), .unset] [(.int (0 : Int32))])) _
      exact retN X6 hx (t := .boolean) Bd.returns (by simp) (hb hby at_66) hr
  have j51 : ∀ (T : State) (Lc : List Loc) (X : Stand p l e room_1 (s.setVm T5.vm) m #[(.int p0), (.int p1), (.int p2)] below meth c T Lc 6 52) (eT : T.heap = h5) (N : Fr n0 Lc), OweW p e below s 24 1152 (QL (.int (own_f0_51 p0 p1 p2)) n0) T (mkF m 51 #[.val (.int p0), .val (.int p1), .val (.int p2), .val (.ref b1), .val (.ref b4), .val (.long (p0.toInt64)), .second, .unset, .unset] []) := by
    intro T51j Lc51j X51j e51j N51j
    refine OweW.step (T' := T51j) (g' := (mkF m 52 #[.val (.int p0), .val (.int p1), .val (.int p2), .val (.ref b1), .val (.ref b4), .val (.long (p0.toInt64)), .second, .unset, .unset] [(.int (0 : Int32))])) (fun t k => ?_) ?_
    · show Steps p.tables e below (T51j.setTop (mkF m 51 #[.val (.int p0), .val (.int p1), .val (.int p2), .val (.ref b1), .val (.ref b4), .val (.long (p0.toInt64)), .second, .unset, .unset] [])) t
      refine XS.iconst X51j.here hx rfl (hb hby at_51) ?_
      show Steps p.tables e below (T51j.setTop (mkF m 52 #[.val (.int p0), .val (.int p1), .val (.int p2), .val (.ref b1), .val (.ref b4), .val (.long (p0.toInt64)), .second, .unset, .unset] [(.int (0 : Int32))])) t
      exact k
    rw [show own_f0_51 p0 p1 p2 = (own_f0_52 p0 p1 p2 (0 : Int32)) from rfl]
    exact j52 T51j _ X51j (0 : Int32) e51j N51j
  by_cases hc34 : (lcmpW ((p0.toInt64) - (p1.toInt64)) (0 : Int64)) < (0 : Int32)
  · refine OweW.step (T' := T5) (g' := (mkF m 51 #[.val (.int p0), .val (.int p1), .val (.int p2), .val (.ref b1), .val (.ref b4), .val (.long (p0.toInt64)), .second, .unset, .unset] [])) (fun t k => ?_) ?_
    · show Steps p.tables e below (T5.setTop (mkF m 34 #[.val (.int p0), .val (.int p1), .val (.int p2), .val (.ref b1), .val (.ref b4), .val (.long (p0.toInt64)), .second, .unset, .unset] [(.int (lcmpW ((p0.toInt64) - (p1.toInt64)) (0 : Int64)))])) t
      refine XS.ifYes X5.here hx rfl (pc0 := 34) (pc' := 51) rfl (hb hby at_34) rfl ((if0 _ _).trans (tlt hc34).1) (by decide) (by decide) ?_
      show Steps p.tables e below (T5.setTop (mkF m 51 #[.val (.int p0), .val (.int p1), .val (.int p2), .val (.ref b1), .val (.ref b4), .val (.long (p0.toInt64)), .second, .unset, .unset] [])) t
      exact k
    refine OweW.cast (show (own_f0_51 p0 p1 p2) = (1 : Int32) from (show own_f0_0 p0 p1 p2 = (own_f0_51 p0 p1 p2) from (by rw [own_f0_0, if_pos hc34])).symm.trans (own_law p0 p1 p2 )) ?_
    exact j51 T5 _ X5 eh5 N5
  · refine OweW.step (T' := T5) (g' := (mkF m 37 #[.val (.int p0), .val (.int p1), .val (.int p2), .val (.ref b1), .val (.ref b4), .val (.long (p0.toInt64)), .second, .unset, .unset] [])) (fun t k => ?_) ?_
    · show Steps p.tables e below (T5.setTop (mkF m 34 #[.val (.int p0), .val (.int p1), .val (.int p2), .val (.ref b1), .val (.ref b4), .val (.long (p0.toInt64)), .second, .unset, .unset] [(.int (lcmpW ((p0.toInt64) - (p1.toInt64)) (0 : Int64)))])) t
      refine XS.ifNo X5.here hx rfl (hb hby at_34) rfl ((if0 _ _).trans (flt hc34).1) ?_
      show Steps p.tables e below (T5.setTop (mkF m 37 #[.val (.int p0), .val (.int p1), .val (.int p2), .val (.ref b1), .val (.ref b4), .val (.long (p0.toInt64)), .second, .unset, .unset] [])) t
      exact k
    refine OweW.step (T' := T5) (g' := (mkF m 44 #[.val (.int p0), .val (.int p1), .val (.int p2), .val (.ref b1), .val (.ref b4), .val (.long (p0.toInt64)), .second, .unset, .unset] [(.int (lcmpW ((p2.toInt64) - (p0.toInt64)) (0 : Int64)))])) (fun t k => ?_) ?_
    · show Steps p.tables e below (T5.setTop (mkF m 37 #[.val (.int p0), .val (.int p1), .val (.int p2), .val (.ref b1), .val (.ref b4), .val (.long (p0.toInt64)), .second, .unset, .unset] [])) t
      refine XS.iloadN X5.here hx rfl (hb hby at_37) rfl ?_
      show Steps p.tables e below (T5.setTop (mkF m 38 #[.val (.int p0), .val (.int p1), .val (.int p2), .val (.ref b1), .val (.ref b4), .val (.long (p0.toInt64)), .second, .unset, .unset] [(.int p2)])) t
      refine XS.i2l X5.here hx rfl (hb hby at_38) rfl ?_
      show Steps p.tables e below (T5.setTop (mkF m 39 #[.val (.int p0), .val (.int p1), .val (.int p2), .val (.ref b1), .val (.ref b4), .val (.long (p0.toInt64)), .second, .unset, .unset] [(.long (p2.toInt64))])) t
      refine XS.lload X5.here hx rfl (hb hby at_39) rfl ?_
      show Steps p.tables e below (T5.setTop (mkF m 41 #[.val (.int p0), .val (.int p1), .val (.int p2), .val (.ref b1), .val (.ref b4), .val (.long (p0.toInt64)), .second, .unset, .unset] [(.long (p0.toInt64)), (.long (p2.toInt64))])) t
      refine XS.lsub X5.here hx rfl (hb hby at_41) rfl ?_
      show Steps p.tables e below (T5.setTop (mkF m 42 #[.val (.int p0), .val (.int p1), .val (.int p2), .val (.ref b1), .val (.ref b4), .val (.long (p0.toInt64)), .second, .unset, .unset] [(.long ((p2.toInt64) - (p0.toInt64)))])) t
      refine XS.lconst X5.here hx rfl (hb hby at_42) ?_
      show Steps p.tables e below (T5.setTop (mkF m 43 #[.val (.int p0), .val (.int p1), .val (.int p2), .val (.ref b1), .val (.ref b4), .val (.long (p0.toInt64)), .second, .unset, .unset] [(.long (0 : Int64)), (.long ((p2.toInt64) - (p0.toInt64)))])) t
      refine XS.lcmp X5.here hx rfl (hb hby at_43) rfl ?_
      show Steps p.tables e below (T5.setTop (mkF m 44 #[.val (.int p0), .val (.int p1), .val (.int p2), .val (.ref b1), .val (.ref b4), .val (.long (p0.toInt64)), .second, .unset, .unset] [(.int (lcmpW ((p2.toInt64) - (p0.toInt64)) (0 : Int64)))])) t
      exact k
    by_cases hc44 : (lcmpW ((p2.toInt64) - (p0.toInt64)) (0 : Int64)) < (0 : Int32)
    · refine OweW.step (T' := T5) (g' := (mkF m 51 #[.val (.int p0), .val (.int p1), .val (.int p2), .val (.ref b1), .val (.ref b4), .val (.long (p0.toInt64)), .second, .unset, .unset] [])) (fun t k => ?_) ?_
      · show Steps p.tables e below (T5.setTop (mkF m 44 #[.val (.int p0), .val (.int p1), .val (.int p2), .val (.ref b1), .val (.ref b4), .val (.long (p0.toInt64)), .second, .unset, .unset] [(.int (lcmpW ((p2.toInt64) - (p0.toInt64)) (0 : Int64)))])) t
        refine XS.ifYes X5.here hx rfl (pc0 := 44) (pc' := 51) rfl (hb hby at_44) rfl ((if0 _ _).trans (tlt hc44).1) (by decide) (by decide) ?_
        show Steps p.tables e below (T5.setTop (mkF m 51 #[.val (.int p0), .val (.int p1), .val (.int p2), .val (.ref b1), .val (.ref b4), .val (.long (p0.toInt64)), .second, .unset, .unset] [])) t
        exact k
      refine OweW.cast (show (own_f0_51 p0 p1 p2) = (1 : Int32) from (show own_f0_0 p0 p1 p2 = (own_f0_51 p0 p1 p2) from (by rw [own_f0_0, if_neg hc34, if_pos hc44])).symm.trans (own_law p0 p1 p2 )) ?_
      exact j51 T5 _ X5 eh5 N5
    · refine OweW.step (T' := T5) (g' := (mkF m 47 #[.val (.int p0), .val (.int p1), .val (.int p2), .val (.ref b1), .val (.ref b4), .val (.long (p0.toInt64)), .second, .unset, .unset] [])) (fun t k => ?_) ?_
      · show Steps p.tables e below (T5.setTop (mkF m 44 #[.val (.int p0), .val (.int p1), .val (.int p2), .val (.ref b1), .val (.ref b4), .val (.long (p0.toInt64)), .second, .unset, .unset] [(.int (lcmpW ((p2.toInt64) - (p0.toInt64)) (0 : Int64)))])) t
        refine XS.ifNo X5.here hx rfl (hb hby at_44) rfl ((if0 _ _).trans (flt hc44).1) ?_
        show Steps p.tables e below (T5.setTop (mkF m 47 #[.val (.int p0), .val (.int p1), .val (.int p2), .val (.ref b1), .val (.ref b4), .val (.long (p0.toInt64)), .second, .unset, .unset] [])) t
        exact k
      refine OweW.step (T' := T5) (g' := (mkF m 52 #[.val (.int p0), .val (.int p1), .val (.int p2), .val (.ref b1), .val (.ref b4), .val (.long (p0.toInt64)), .second, .unset, .unset] [(.int (1 : Int32))])) (fun t k => ?_) ?_
      · show Steps p.tables e below (T5.setTop (mkF m 47 #[.val (.int p0), .val (.int p1), .val (.int p2), .val (.ref b1), .val (.ref b4), .val (.long (p0.toInt64)), .second, .unset, .unset] [])) t
        refine XS.iconst X5.here hx rfl (hb hby at_47) ?_
        show Steps p.tables e below (T5.setTop (mkF m 48 #[.val (.int p0), .val (.int p1), .val (.int p2), .val (.ref b1), .val (.ref b4), .val (.long (p0.toInt64)), .second, .unset, .unset] [(.int (1 : Int32))])) t
        refine XS.goto X5.here hx rfl (pc0 := 48) (pc' := 52) rfl (hb hby at_48) (by decide) (by decide) ?_
        show Steps p.tables e below (T5.setTop (mkF m 52 #[.val (.int p0), .val (.int p1), .val (.int p2), .val (.ref b1), .val (.ref b4), .val (.long (p0.toInt64)), .second, .unset, .unset] [(.int (1 : Int32))])) t
        exact k
      refine OweW.cast (show (own_f0_52 p0 p1 p2 (1 : Int32)) = (1 : Int32) from (show own_f0_0 p0 p1 p2 = (own_f0_52 p0 p1 p2 (1 : Int32)) from (by rw [own_f0_0, if_neg hc34, if_neg hc44])).symm.trans (own_law p0 p1 p2 )) ?_
      exact j52 T5 _ X5 (1 : Int32) eh5 N5
set_option maxRecDepth 65536 in
set_option maxHeartbeats 40000000 in
theorem comes_1 {Post : Tables → Env → Array Value → State → Outcome → State → Prop} (hpost : ∀ tb e args s v u, (limb_1_1.after args s (.returned v) u = true ∧ limb_1_2.after args s (.returned v) u = true ∧ True) → ReturnedEndW s (.returned v) u (Jvm.fieldLocs frame_1_writes args s ++ Jvm.arrayLocs frame_1_arrays args s ++ Jvm.staticLocs frame_1_statics s) 24 1152 → Post tb e args s (.returned v) u) :
    ArmFor flags0 classFile x code maxLocals ret World_1 tables_1 room_1 Calls_1 rest_1 Pre_1 Post := by
  intro l hfl _ _ p e ha hc hk s m args below hf hA hF happ hP
  obtain ⟨hcalls, hrest, hpre⟩ := hP
  obtain ⟨-, -, -, hnamed, -, -, -, hat⟩ := (Spec.applies_iff hf).mp happ
  obtain ⟨hg, hn⟩ := and_e (Cond.before_iff.mp (show (Jvm.Cond.and given_1 narrow_1).before args s = true from hpre))
  obtain ⟨ga1, gb1⟩ := and_e hg
  obtain ⟨ga2, gb2⟩ := and_e gb1
  obtain ⟨ga3, gb3⟩ := and_e gb2
  obtain ⟨w0, w1, w2, rfl⟩ : ∃ w0 w1 w2 : Value, args = #[w0, w1, w2] := by
    have hs : args.size = 3 := by simpa [Cond.value, given_1] using ga1
    obtain ⟨L⟩ := args
    match L, hs with
    | [w0, w1, w2], _ => exact ⟨w0, w1, w2, rfl⟩
  have hw := fun d (hd : d ∈ tables_1) => atoms_spec (ws := Jvm.Cond.code x code maxLocals ret :: tables_1) hat d (List.mem_cons_of_mem _ hd)
  obtain ⟨i0, ei0⟩ := is_v ga2
  obtain rfl : w0 = (.int i0) := Option.some.inj ei0
  obtain ⟨i1, ei1⟩ := is_v ga3
  obtain rfl : w1 = (.int i1) := Option.some.inj ei1
  obtain ⟨i2, ei2⟩ := is_v gb3
  obtain rfl : w2 = (.int i2) := Option.some.inj ei2
  obtain ⟨n, o, h1, h2, h3, _, L, rfl, ⟨rfl, N⟩, hq⟩ := own_rm0 l s _ hw tables_1 i0 i1 i2 s.heap s.heap.size (Nat.le_refl _) p e ha hc hk s m _ below hf ((Spec.applies_iff_loose hf).mp happ).1 ⟨rfl, State.Warmed39.refl s, rfl⟩ trivial
  refine ⟨n, _, h1, h2, h3, hpost _ _ _ _ _ _ ⟨Cond.after_iff.mpr rfl, Cond.after_iff.mpr (eq_i res_at (Term.int_eval (1)) rfl), trivial⟩ ⟨hq.1, hq.2.1, hq.2.2.1, (hq.2.2.2.sift fun y hy => Or.inr (N y hy)).mono (by decide) (by decide)⟩⟩
theorem main_1_1 : Claimed_1_1 := comes_1 fun _ _ _ _ _ _ h hF => ⟨h.1, hF⟩
theorem main_1_2 : Claimed_1_2 := comes_1 fun _ _ _ _ _ _ h hF => ⟨h.2.1, hF⟩
end Jvm.Pilot.@@N@@
namespace Jvm.Pilot.@@N@@
open Jvm Jvm.ClassFile Sem Op Lib Jvm.Free Jvm.Stand Jvm.Pilot.@@N@@.Jvm.D
/-! MADE BY PROGRAM (witnessworld.py) out of the Statement's table words and the real class files: 17 classes; the members and pool entries that the words name. The judged class is class 1, her method 1. -/
namespace start1
open Jvm.ClassFile
def u (s : String) : CpInfo := .utf8 (stringToUtf16 s)
/-- a pool by its gaps: so many unusable entries, then the entry; so many at the end -/
def gap : Nat → List CpInfo → List CpInfo
  | 0, r => r
  | n + 1, r => .unusable :: gap n r
def poolList (es : List (Nat × CpInfo)) (last : Nat) : List CpInfo := es.foldr (fun e r => gap e.1 (e.2 :: r)) (gap last [])
def pool (es : List (Nat × CpInfo)) (last : Nat) : Array CpInfo := ⟨poolList es last⟩
def fileOf (pool : Array CpInfo) (this : Nat) (attrs : Array Attribute := #[]) (ms : Array MethodInfo := #[]) (fl : Nat := 33) (sup : Nat := 0) (ifs : Array Nat := #[]) (fds : Array FieldInfo := #[]) : ClassFile where
  minorVersion := 0
  majorVersion := 65
  constantPool := pool
  accessFlags := fl
  thisClass := this
  superClass := sup
  interfaces := ifs
  fields := fds
  methods := ms
  attributes := attrs
def plain (name : String) (sup : Option ClassId) : Class where
  name := name
  kind := .ordinary
  loader := none
  accessFlags := 33
  super := sup
  interfaces := #[]
  cf := none
  fields := #[]
  methods := #[]
  instanceTypes := #[]
  staticTypes := #[]
  resolved := #[]
  callSites := []
  init := .initialized
  statics := none
  mirror := none

def pool0 : Array CpInfo := pool [(5, u "<init>"), (0, u "()V"), (1, .class_ 10), (1, u "java/lang/Object"), (85, u "clone"), (0, u "()Ljava/lang/Object;")] 26

def k0c0 : Code := { maxStack := 0, maxLocals := 1, code := object_method_1_code, exceptionTable := #[], attributes := #[] }
def k0m0 : Method := { name := "<init>", desc := "()V", sig := { parameters := [], returnType := none }, accessFlags := 1, code := some k0c0 }
def k0m1 : Method := { name := "clone", desc := "()Ljava/lang/Object;", sig := { parameters := [], returnType := some (.object "java/lang/Object") }, accessFlags := 260, code := none }
/-- java/lang/Object -/
def k0 : Class := { plain "java/lang/Object" none with
  accessFlags := 33
  interfaces := #[]
  cf := some (fileOf pool0 8 #[] #[{ accessFlags := 1, nameIndex := 5, descriptorIndex := 6, attributes := #[] }, { accessFlags := 260, nameIndex := 96, descriptorIndex := 97, attributes := #[] }] 33 0 #[] #[])
  fields := #[]
  methods := #[k0m0, k0m1]
  instanceTypes := #[]
  staticTypes := #[]
  resolved := Array.replicate 124 none
  statics := none }

def pool1 : Array CpInfo := pool [(2, .class_ 4), (1, u "java/lang/Object"), (0, u "<init>"), (0, u "()V"), (0, .class_ 8), (0, u "com/example/privlint/privlint/model/SigningCertificate"), (0, .methodref 7 10), (0, .nameAndType 5 11), (0, u "([B)V"), (0, .class_ 13), (0, u "com/example/privlint/privlint/model/Signer"), (0, .methodref 12 15), (0, .nameAndType 5 16), (0, u "(Lcom/example/privlint/privlint/model/SigningCertificate;II)V"), (0, .methodref 12 18), (0, .nameAndType 19 20), (0, u "isSignerOn"), (0, u "(I)Z"), (2, .integer 2147483648), (0, .integer 2147483647), (0, .class_ 26), (0, u "com/example/privlint/privlint/model/SignerIsSignerOnPinLaw"), (2, u "law"), (0, u "(III)Z")] 3

def k1m0 : Method := { name := "<init>", desc := "()V", sig := { parameters := [], returnType := none }, accessFlags := 1, code := none }
def k1c1 : Code := { maxStack := 5, maxLocals := 9, code := code, exceptionTable := #[], attributes := #[] }
def k1m1 : Method := { name := "law", desc := "(III)Z", sig := { parameters := [.int, .int, .int], returnType := some .boolean }, accessFlags := 9, code := some k1c1 }
/-- com/example/privlint/privlint/model/SignerIsSignerOnPinLaw -/
def k1 : Class := { plain "com/example/privlint/privlint/model/SignerIsSignerOnPinLaw" (some 0) with
  accessFlags := 49
  interfaces := #[]
  cf := some (fileOf pool1 25 #[] #[{ accessFlags := 1, nameIndex := 5, descriptorIndex := 6, attributes := #[] }, { accessFlags := 9, nameIndex := 29, descriptorIndex := 30, attributes := #[] }] 49 2 #[] #[])
  fields := #[]
  methods := #[k1m0, k1m1]
  instanceTypes := #[]
  staticTypes := #[]
  resolved := Array.replicate 34 none
  statics := none }

def pool2 : Array CpInfo := pool [(1, .methodref 2 3), (0, .class_ 4), (0, .nameAndType 5 6), (0, u "java/lang/Object"), (0, u "<init>"), (0, u "()V"), (0, .methodref 8 9), (0, .class_ 10), (0, .nameAndType 11 12), (0, u "[B"), (0, u "clone"), (0, u "()Ljava/lang/Object;"), (0, .fieldref 14 15), (0, .class_ 16), (0, .nameAndType 17 10), (0, u "com/example/privlint/privlint/model/SigningCertificate"), (0, u "encoded"), (34, u "SHOWN_BYTES"), (0, u "I"), (2, u "([B)V")] 24

def k2c0 : Code := { maxStack := 2, maxLocals := 2, code := prog_83_method_1_code, exceptionTable := #[], attributes := #[] }
def k2m0 : Method := { name := "<init>", desc := "([B)V", sig := { parameters := [(.array .byte)], returnType := none }, accessFlags := 1, code := some k2c0 }
/-- com/example/privlint/privlint/model/SigningCertificate -/
def k2 : Class := { plain "com/example/privlint/privlint/model/SigningCertificate" (some 0) with
  accessFlags := 49
  interfaces := #[]
  cf := some (fileOf pool2 14 #[] #[{ accessFlags := 1, nameIndex := 5, descriptorIndex := 56, attributes := #[] }] 49 2 #[] #[{ accessFlags := 26, nameIndex := 52, descriptorIndex := 53, attributes := #[] }, { accessFlags := 18, nameIndex := 17, descriptorIndex := 10, attributes := #[] }])
  fields := #[{ name := "SHOWN_BYTES", type := .int, accessFlags := 26, slot := 0, constantValue := 0 }, { name := "encoded", type := (.array .byte), accessFlags := 18, slot := 0, constantValue := 0 }]
  methods := #[k2m0]
  instanceTypes := #[(.array .byte)]
  staticTypes := #[.int]
  resolved := Array.replicate 81 none
  statics := none }

def pool3 : Array CpInfo := pool [(1, .class_ 2), (0, u "java/lang/Cloneable"), (0, .class_ 4), (0, u "java/lang/Object")] 2

/-- java/lang/Cloneable -/
def k3 : Class := { plain "java/lang/Cloneable" (some 0) with
  accessFlags := 1537
  interfaces := #[]
  cf := some (fileOf pool3 1 #[] #[] 1537 3 #[] #[])
  fields := #[]
  methods := #[]
  instanceTypes := #[]
  staticTypes := #[]
  resolved := Array.replicate 7 none
  statics := none }

def pool4 : Array CpInfo := pool [(1, .methodref 2 3), (0, .class_ 4), (0, .nameAndType 5 6), (0, u "java/lang/Object"), (0, u "<init>"), (0, u "()V"), (0, .class_ 8), (0, u "java/lang/Record")] 13

def k4c0 : Code := { maxStack := 1, maxLocals := 1, code := jdk_30_method_1_code, exceptionTable := #[], attributes := #[] }
def k4m0 : Method := { name := "<init>", desc := "()V", sig := { parameters := [], returnType := none }, accessFlags := 4, code := some k4c0 }
/-- java/lang/Record -/
def k4 : Class := { plain "java/lang/Record" (some 0) with
  accessFlags := 1057
  interfaces := #[]
  cf := some (fileOf pool4 7 #[] #[{ accessFlags := 4, nameIndex := 5, descriptorIndex := 6, attributes := #[] }] 1057 2 #[] #[])
  fields := #[]
  methods := #[k4m0]
  instanceTypes := #[]
  staticTypes := #[]
  resolved := Array.replicate 22 none
  statics := none }

def pool5 : Array CpInfo := pool [(1, .methodref 2 3), (0, .class_ 4), (0, .nameAndType 5 6), (0, u "java/lang/Record"), (0, u "<init>"), (0, u "()V"), (0, .string 8), (0, u "certificate"), (0, .methodref 10 11), (0, .class_ 12), (0, .nameAndType 13 14), (0, u "java/util/Objects"), (0, u "requireNonNull"), (0, u "(Ljava/lang/Object;Ljava/lang/String;)Ljava/lang/Object;"), (0, .fieldref 16 17), (0, .class_ 18), (0, .nameAndType 8 19), (0, u "com/example/privlint/privlint/model/Signer"), (0, u "Lcom/example/privlint/privlint/model/SigningCertificate;"), (0, .fieldref 16 21), (0, .nameAndType 22 23), (0, u "minLevel"), (0, u "I"), (0, .fieldref 16 25), (0, .nameAndType 26 23), (0, u "maxLevel"), (12, u "(Lcom/example/privlint/privlint/model/SigningCertificate;II)V"), (3, u "isSignerOn"), (0, u "(I)Z")] 27

def k5c0 : Code := { maxStack := 2, maxLocals := 4, code := prog_81_method_1_code, exceptionTable := #[], attributes := #[] }
def k5m0 : Method := { name := "<init>", desc := "(Lcom/example/privlint/privlint/model/SigningCertificate;II)V", sig := { parameters := [(.object "com/example/privlint/privlint/model/SigningCertificate"), .int, .int], returnType := none }, accessFlags := 1, code := some k5c0 }
def k5c1 : Code := { maxStack := 2, maxLocals := 2, code := prog_81_method_2_code, exceptionTable := #[], attributes := #[] }
def k5m1 : Method := { name := "isSignerOn", desc := "(I)Z", sig := { parameters := [.int], returnType := some .boolean }, accessFlags := 1, code := some k5c1 }
/-- com/example/privlint/privlint/model/Signer -/
def k5 : Class := { plain "com/example/privlint/privlint/model/Signer" (some 4) with
  accessFlags := 49
  interfaces := #[]
  cf := some (fileOf pool5 16 #[] #[{ accessFlags := 1, nameIndex := 5, descriptorIndex := 39, attributes := #[] }, { accessFlags := 1, nameIndex := 43, descriptorIndex := 44, attributes := #[] }] 49 2 #[] #[{ accessFlags := 18, nameIndex := 8, descriptorIndex := 19, attributes := #[] }, { accessFlags := 18, nameIndex := 22, descriptorIndex := 23, attributes := #[] }, { accessFlags := 18, nameIndex := 26, descriptorIndex := 23, attributes := #[] }])
  fields := #[{ name := "certificate", type := (.object "com/example/privlint/privlint/model/SigningCertificate"), accessFlags := 18, slot := 0, constantValue := 0 }, { name := "minLevel", type := .int, accessFlags := 18, slot := 1, constantValue := 0 }, { name := "maxLevel", type := .int, accessFlags := 18, slot := 2, constantValue := 0 }]
  methods := #[k5m0, k5m1]
  instanceTypes := #[(.object "com/example/privlint/privlint/model/SigningCertificate"), .int, .int]
  staticTypes := #[]
  resolved := Array.replicate 72 none
  statics := none }

def pool6 : Array CpInfo := pool [(1, .class_ 2), (0, u "java/io/Serializable"), (0, .class_ 4), (0, u "java/lang/Object")] 2

/-- java/io/Serializable -/
def k6 : Class := { plain "java/io/Serializable" (some 0) with
  accessFlags := 1537
  interfaces := #[]
  cf := some (fileOf pool6 1 #[] #[] 1537 3 #[] #[])
  fields := #[]
  methods := #[]
  instanceTypes := #[]
  staticTypes := #[]
  resolved := Array.replicate 7 none
  statics := none }

def pool7 : Array CpInfo := pool [(1, .class_ 2), (0, u "java/lang/Comparable"), (0, .class_ 4), (0, u "java/lang/Object")] 7

/-- java/lang/Comparable -/
def k7 : Class := { plain "java/lang/Comparable" (some 0) with
  accessFlags := 1537
  interfaces := #[]
  cf := some (fileOf pool7 1 #[] #[] 1537 3 #[] #[])
  fields := #[]
  methods := #[]
  instanceTypes := #[]
  staticTypes := #[]
  resolved := Array.replicate 12 none
  statics := none }

def pool8 : Array CpInfo := pool [(2, .class_ 4), (1, u "java/lang/CharSequence"), (42, .class_ 48), (0, u "java/lang/CharSequence$1CodePointIterator"), (10, .class_ 60), (0, u "java/lang/CharSequence$1CharIterator"), (5, .class_ 67), (0, u "java/lang/Object")] 63

/-- java/lang/CharSequence -/
def k8 : Class := { plain "java/lang/CharSequence" (some 0) with
  accessFlags := 1537
  interfaces := #[]
  cf := some (fileOf pool8 2 #[.nestMembers #[47, 59]] #[] 1537 66 #[] #[])
  fields := #[]
  methods := #[]
  instanceTypes := #[]
  staticTypes := #[]
  resolved := Array.replicate 131 none
  statics := none }

def pool9 : Array CpInfo := pool [(1, .class_ 2), (0, u "java/lang/constant/Constable"), (0, .class_ 4), (0, u "java/lang/Object")] 6

/-- java/lang/constant/Constable -/
def k9 : Class := { plain "java/lang/constant/Constable" (some 0) with
  accessFlags := 1537
  interfaces := #[]
  cf := some (fileOf pool9 1 #[] #[] 1537 3 #[] #[])
  fields := #[]
  methods := #[]
  instanceTypes := #[]
  staticTypes := #[]
  resolved := Array.replicate 11 none
  statics := none }

def pool10 : Array CpInfo := pool [(1, .class_ 2), (0, u "java/lang/constant/ConstantDesc"), (0, .class_ 4), (0, u "java/lang/Object")] 32

/-- java/lang/constant/ConstantDesc -/
def k10 : Class := { plain "java/lang/constant/ConstantDesc" (some 0) with
  accessFlags := 1537
  interfaces := #[]
  cf := some (fileOf pool10 1 #[] #[] 1537 3 #[] #[])
  fields := #[]
  methods := #[]
  instanceTypes := #[]
  staticTypes := #[]
  resolved := Array.replicate 37 none
  statics := none }

def pool11 : Array CpInfo := pool [(2, .class_ 4), (1, u "java/lang/Object"), (0, u "<init>"), (0, u "()V"), (3, .class_ 12), (1, u "java/lang/String"), (0, u "value"), (0, u "[B"), (2, u "coder"), (0, u "B"), (2, u "hash"), (0, u "I"), (2, u "hashIsZero"), (0, u "Z"), (13, u "COMPACT_STRINGS"), (534, .class_ 576), (0, u "java/lang/CharSequence"), (22, u "CASE_INSENSITIVE_ORDER"), (0, u "Ljava/util/Comparator;"), (500, u "serialPersistentFields"), (0, u "[Ljava/io/ObjectStreamField;"), (0, .class_ 1104), (0, u "java/lang/String$CaseInsensitiveComparator"), (1, .class_ 1107), (0, u "java/io/Serializable"), (0, .class_ 1109), (0, u "java/lang/Comparable"), (0, .class_ 1111), (0, u "java/lang/constant/Constable"), (0, .class_ 1113), (0, u "java/lang/constant/ConstantDesc"), (2, u "serialVersionUID"), (0, u "J"), (3, u "REPL"), (0, u "C"), (2, u "LATIN1"), (1, u "UTF16")] 323

def k11m0 : Method := { name := "<init>", desc := "()V", sig := { parameters := [], returnType := none }, accessFlags := 1, code := none }
/-- java/lang/String -/
def k11 : Class := { plain "java/lang/String" (some 0) with
  accessFlags := 49
  interfaces := #[6, 7, 8, 9, 10]
  cf := some (fileOf pool11 10 #[.nestMembers #[1103]] #[{ accessFlags := 1, nameIndex := 5, descriptorIndex := 6, attributes := #[] }] 49 2 #[1106, 1108, 575, 1110, 1112] #[{ accessFlags := 18, nameIndex := 13, descriptorIndex := 14, attributes := #[] }, { accessFlags := 18, nameIndex := 17, descriptorIndex := 18, attributes := #[] }, { accessFlags := 2, nameIndex := 21, descriptorIndex := 22, attributes := #[] }, { accessFlags := 2, nameIndex := 25, descriptorIndex := 26, attributes := #[] }, { accessFlags := 26, nameIndex := 1116, descriptorIndex := 1117, attributes := #[] }, { accessFlags := 24, nameIndex := 40, descriptorIndex := 26, attributes := #[] }, { accessFlags := 26, nameIndex := 1101, descriptorIndex := 1102, attributes := #[] }, { accessFlags := 26, nameIndex := 1121, descriptorIndex := 1122, attributes := #[] }, { accessFlags := 25, nameIndex := 599, descriptorIndex := 600, attributes := #[] }, { accessFlags := 24, nameIndex := 1125, descriptorIndex := 18, attributes := #[] }, { accessFlags := 24, nameIndex := 1127, descriptorIndex := 18, attributes := #[] }])
  fields := #[{ name := "value", type := (.array .byte), accessFlags := 18, slot := 0, constantValue := 0 }, { name := "coder", type := .byte, accessFlags := 18, slot := 1, constantValue := 0 }, { name := "hash", type := .int, accessFlags := 2, slot := 2, constantValue := 0 }, { name := "hashIsZero", type := .boolean, accessFlags := 2, slot := 3, constantValue := 0 }, { name := "serialVersionUID", type := .long, accessFlags := 26, slot := 0, constantValue := 0 }, { name := "COMPACT_STRINGS", type := .boolean, accessFlags := 24, slot := 1, constantValue := 0 }, { name := "serialPersistentFields", type := (.array (.object "java/io/ObjectStreamField")), accessFlags := 26, slot := 2, constantValue := 0 }, { name := "REPL", type := .char, accessFlags := 26, slot := 3, constantValue := 0 }, { name := "CASE_INSENSITIVE_ORDER", type := (.object "java/util/Comparator"), accessFlags := 25, slot := 4, constantValue := 0 }, { name := "LATIN1", type := .byte, accessFlags := 24, slot := 5, constantValue := 0 }, { name := "UTF16", type := .byte, accessFlags := 24, slot := 6, constantValue := 0 }]
  methods := #[k11m0]
  instanceTypes := #[(.array .byte), .byte, .int, .boolean]
  staticTypes := #[.long, .boolean, (.array (.object "java/io/ObjectStreamField")), .char, (.object "java/util/Comparator"), .byte, .byte]
  resolved := Array.replicate 1451 none
  statics := none }

def pool12 : Array CpInfo := pool [(2, .class_ 4), (1, u "java/lang/Object"), (0, u "<init>"), (0, u "()V"), (35, .class_ 44), (1, u "java/util/Objects"), (0, u "requireNonNull"), (48, u "(Ljava/lang/Object;Ljava/lang/String;)Ljava/lang/Object;")] 89

def k12m0 : Method := { name := "<init>", desc := "()V", sig := { parameters := [], returnType := none }, accessFlags := 2, code := none }
def k12c1 : Code := { maxStack := 3, maxLocals := 2, code := jdk_31_method_11_code, exceptionTable := #[], attributes := #[] }
def k12m1 : Method := { name := "requireNonNull", desc := "(Ljava/lang/Object;Ljava/lang/String;)Ljava/lang/Object;", sig := { parameters := [(.object "java/lang/Object"), (.object "java/lang/String")], returnType := some (.object "java/lang/Object") }, accessFlags := 9, code := some k12c1 }
/-- java/util/Objects -/
def k12 : Class := { plain "java/util/Objects" (some 0) with
  accessFlags := 49
  interfaces := #[]
  cf := some (fileOf pool12 42 #[] #[{ accessFlags := 2, nameIndex := 5, descriptorIndex := 6, attributes := #[] }, { accessFlags := 9, nameIndex := 45, descriptorIndex := 94, attributes := #[] }] 49 2 #[] #[])
  fields := #[]
  methods := #[k12m0, k12m1]
  instanceTypes := #[]
  staticTypes := #[]
  resolved := Array.replicate 184 none
  statics := none }

/-- the primitive byte -/
def k13 : Class := { plain "byte" none with kind := .primitive 'B', accessFlags := 0x411 }
/-- [B -/
def k14 : Class := { plain "[B" (some 0) with kind := .array 13 .byte, interfaces := #[3, 6], accessFlags := 1041 }

/-- the primitive int -/
def k15 : Class := { plain "int" none with kind := .primitive 'I', accessFlags := 0x411 }
/-- [I -/
def k16 : Class := { plain "[I" (some 0) with kind := .array 15 .int, interfaces := #[3, 6], accessFlags := 1041 }

def heap : Heap := #[]
def classes : Array Class := #[k0, k1, k2, k3, k4, k5, k6, k7, k8, k9, k10, k11, k12, k13, k14, k15, k16]
def interned : List (Array UInt16 × Addr) := []
def slotsUsed : Nat := 0
def theMethod : MethodId := ⟨1, 1⟩
def args0 : Array Value := #[.int 5, .int 3, .int 9]
def aboutOver (below : List Frame) : State where
  vm := { classes := classes, interned := interned.toArray }
  heap := heap
  slotsUsed := slotsUsed
  threads := #[{ frames := .invoking theMethod args0 :: below }]
def below0 : List Frame := [.native { method := ⟨0, 0⟩, args := #[] }]
def about1 : State := aboutOver below0
def p0 : Program := .bare "" "" ""
def e0 : Env := launch0.env 0 0 0
theorem w_frames : about1.frames = Frame.invoking theMethod args0 :: below0 := rfl
set_option maxRecDepth 65536 in
theorem w_args : argsFit about1.vm theMethod args0 = true := by decide +kernel
set_option maxRecDepth 65536 in
theorem w_heap : heapFits about1 = true := by decide +kernel
set_option maxRecDepth 65536 in
theorem w_runnable : about1.curStatus? = some .runnable := by decide +kernel
set_option maxRecDepth 65536 in
theorem w_alone : about1.alone = true := by decide +kernel
set_option maxRecDepth 65536 in
theorem w_named : about1.methodNamed? x = some theMethod := by decide +kernel
set_option maxRecDepth 65536 in
theorem w_hears : about1.hears theMethod below0 = true := by decide +kernel
set_option maxRecDepth 65536 in
theorem w_ripe : about1.ripe theMethod args0 below0 = true := by decide +kernel
theorem w_running : about1.status = .running := rfl
set_option maxRecDepth 65536 in
theorem w_room : about1.hasRoom e0.platform room_1 = true :=
  launch0.hasRoom_least _ room_1 (by decide +kernel) (by decide +kernel) (by decide +kernel) (by decide +kernel) (by decide +kernel) (by decide +kernel)
theorem allAtoms_all (ts : List Jvm.Cond) (a : Array Jvm.Value) (st : Jvm.State) : (allAtoms ts).before a st = ts.all (fun c => c.before a st) := by
  induction ts with
  | nil => rfl
  | cons c t ih =>
    show (Jvm.Cond.and c (allAtoms t)).before a st = _
    rw [Jvm.Cond.before_and, ih, List.all_cons]
def words1 : List Jvm.Cond := Jvm.Cond.code x code maxLocals ret :: tables_1
/-- a 'code' word, met by the world's own term for the bytes: nothing is compared byte by byte -/
theorem code_word {y : MethodName} {bytes : ByteArray} {mx : Nat} {rt : Option FieldType} {a : Array Value} {s : State} {m : MethodId} {meth : Method} {c : Code} (h1 : s.methodNamed? y = some m) (h2 : s.vm.method? m = some meth) (h3 : meth.code = some c) (h4 : c.code = bytes)
    (h5 : (c.maxLocals == mx && c.exceptionTable.isEmpty && decide (c.maxStack ≤ mostOperands) && decide (meth.sig.returnType = rt) && !meth.locks && decide (parseMethodDescriptor y.desc = some meth.sig)) = true) : (Jvm.Cond.code y bytes mx rt).before a s = true := by
  simp only [Bool.and_eq_true, beq_iff_eq, Bool.not_eq_true', decide_eq_true_eq] at h5
  obtain ⟨⟨⟨⟨⟨g1, g2⟩, g3⟩, g4⟩, g5⟩, g6⟩ := h5
  simp [Cond.before, Cond.holds, Cond.value, h1, h2, h3, h4, g1, g2, g3, g4, g5, g6]
def isCode : Jvm.Cond → Bool
  | .code _ _ _ _ => true
  | _ => false
theorem all_split {L : List Jvm.Cond} {P : Jvm.Cond → Bool} (h1 : L.all (fun c => isCode c || P c) = true) (h2 : ∀ c ∈ L.filter isCode, P c = true) : L.all P = true := by
  refine List.all_eq_true.mpr fun c hc => ?_
  have h := List.all_eq_true.mp h1 c hc
  rcases Bool.eq_false_or_eq_true (isCode c) with hi | hi
  · exact h2 c (List.mem_filter.mpr ⟨hc, hi⟩)
  · simpa [hi] using h
set_option maxRecDepth 65536 in
theorem w_c0 : (Jvm.Cond.code x code maxLocals ret).before args0 about1 = true := code_word (m := ⟨1, 1⟩) (meth := k1m1) (c := k1c1) (by decide +kernel) rfl rfl rfl (by decide +kernel)
set_option maxRecDepth 65536 in
theorem w_c1 : (Jvm.Cond.code ({ cls := "com/example/privlint/privlint/model/SigningCertificate", name := "<init>", desc := "([B)V" } : Jvm.MethodName) prog_83_method_1_code (2 : Nat) (Option.none : Option Jvm.ClassFile.FieldType)).before args0 about1 = true := code_word (m := ⟨2, 0⟩) (meth := k2m0) (c := k2c0) (by decide +kernel) rfl rfl rfl (by decide +kernel)
set_option maxRecDepth 65536 in
theorem w_c2 : (Jvm.Cond.code ({ cls := "java/lang/Object", name := "<init>", desc := "()V" } : Jvm.MethodName) object_method_1_code (1 : Nat) (Option.none : Option Jvm.ClassFile.FieldType)).before args0 about1 = true := code_word (m := ⟨0, 0⟩) (meth := k0m0) (c := k0c0) (by decide +kernel) rfl rfl rfl (by decide +kernel)
set_option maxRecDepth 65536 in
theorem w_c3 : (Jvm.Cond.code ({ cls := "com/example/privlint/privlint/model/Signer", name := "<init>", desc := "(Lcom/example/privlint/privlint/model/SigningCertificate;II)V" } : Jvm.MethodName) prog_81_method_1_code (4 : Nat) (Option.none : Option Jvm.ClassFile.FieldType)).before args0 about1 = true := code_word (m := ⟨5, 0⟩) (meth := k5m0) (c := k5c0) (by decide +kernel) rfl rfl rfl (by decide +kernel)
set_option maxRecDepth 65536 in
theorem w_c4 : (Jvm.Cond.code ({ cls := "java/lang/Record", name := "<init>", desc := "()V" } : Jvm.MethodName) jdk_30_method_1_code (1 : Nat) (Option.none : Option Jvm.ClassFile.FieldType)).before args0 about1 = true := code_word (m := ⟨4, 0⟩) (meth := k4m0) (c := k4c0) (by decide +kernel) rfl rfl rfl (by decide +kernel)
set_option maxRecDepth 65536 in
theorem w_c5 : (Jvm.Cond.code ({ cls := "java/util/Objects", name := "requireNonNull", desc := "(Ljava/lang/Object;Ljava/lang/String;)Ljava/lang/Object;" } : Jvm.MethodName) jdk_31_method_11_code (2 : Nat) (Option.some (Jvm.ClassFile.FieldType.object "java/lang/Object"))).before args0 about1 = true := code_word (m := ⟨12, 1⟩) (meth := k12m1) (c := k12c1) (by decide +kernel) rfl rfl rfl (by decide +kernel)
set_option maxRecDepth 65536 in
theorem w_c6 : (Jvm.Cond.code ({ cls := "com/example/privlint/privlint/model/Signer", name := "isSignerOn", desc := "(I)Z" } : Jvm.MethodName) prog_81_method_2_code (2 : Nat) (Option.some Jvm.ClassFile.FieldType.boolean)).before args0 about1 = true := code_word (m := ⟨5, 1⟩) (meth := k5m1) (c := k5c1) (by decide +kernel) rfl rfl rfl (by decide +kernel)
def codes1 : List Jvm.Cond := [Jvm.Cond.code x code maxLocals ret, Jvm.Cond.code ({ cls := "com/example/privlint/privlint/model/SigningCertificate", name := "<init>", desc := "([B)V" } : Jvm.MethodName) prog_83_method_1_code (2 : Nat) (Option.none : Option Jvm.ClassFile.FieldType), Jvm.Cond.code ({ cls := "java/lang/Object", name := "<init>", desc := "()V" } : Jvm.MethodName) object_method_1_code (1 : Nat) (Option.none : Option Jvm.ClassFile.FieldType), Jvm.Cond.code ({ cls := "com/example/privlint/privlint/model/Signer", name := "<init>", desc := "(Lcom/example/privlint/privlint/model/SigningCertificate;II)V" } : Jvm.MethodName) prog_81_method_1_code (4 : Nat) (Option.none : Option Jvm.ClassFile.FieldType), Jvm.Cond.code ({ cls := "java/lang/Record", name := "<init>", desc := "()V" } : Jvm.MethodName) jdk_30_method_1_code (1 : Nat) (Option.none : Option Jvm.ClassFile.FieldType), Jvm.Cond.code ({ cls := "java/util/Objects", name := "requireNonNull", desc := "(Ljava/lang/Object;Ljava/lang/String;)Ljava/lang/Object;" } : Jvm.MethodName) jdk_31_method_11_code (2 : Nat) (Option.some (Jvm.ClassFile.FieldType.object "java/lang/Object")), Jvm.Cond.code ({ cls := "com/example/privlint/privlint/model/Signer", name := "isSignerOn", desc := "(I)Z" } : Jvm.MethodName) prog_81_method_2_code (2 : Nat) (Option.some Jvm.ClassFile.FieldType.boolean)]
set_option maxRecDepth 65536 in
theorem codes_eq : words1.filter isCode = codes1 := rfl
theorem w_codes : ∀ c ∈ words1.filter isCode, c.before args0 about1 = true := by
  rw [codes_eq]
  intro c hc
  simp only [codes1, List.mem_cons, List.not_mem_nil, or_false] at hc
  rcases hc with rfl | rfl | rfl | rfl | rfl | rfl | rfl
  · exact w_c0
  · exact w_c1
  · exact w_c2
  · exact w_c3
  · exact w_c4
  · exact w_c5
  · exact w_c6
set_option maxRecDepth 65536 in
theorem w_t1 : (words1.take 24).all (fun c => isCode c || c.before args0 about1) = true := by decide +kernel
set_option maxRecDepth 65536 in
theorem w_t2 : ((words1.drop 24).take 24).all (fun c => isCode c || c.before args0 about1) = true := by decide +kernel
set_option maxRecDepth 65536 in
theorem w_t3 : ((words1.drop 24).drop 24).all (fun c => isCode c || c.before args0 about1) = true := by decide +kernel
theorem w_tables : (allAtoms (Jvm.Cond.code x code maxLocals ret :: tables_1)).before args0 about1 = true := by
  rw [allAtoms_all]
  show words1.all (fun c => c.before args0 about1) = true
  refine all_split ?_ w_codes
  rw [← List.take_append_drop 24 words1, List.all_append, w_t1, ← List.take_append_drop 24 (words1.drop 24), List.all_append, w_t2, w_t3]
  rfl
set_option maxRecDepth 65536 in
theorem w_case : (Jvm.Cond.and given_1 narrow_1).before args0 about1 = true := by decide +kernel
theorem w_applies : (headSpec (Jvm.Cond.code x code maxLocals ret :: tables_1) room_1).applies x e0.platform about1 = true :=
  (Spec.applies_iff w_frames).mpr ⟨w_running, w_runnable, w_alone, w_named, w_hears, w_ripe, w_room, w_tables⟩
theorem atStart : AtStart classFile x code maxLocals ret World_1 tables_1 room_1 Calls_1 rest_1 Pre_1 launch0 p0 e0 about1 theMethod args0 below0 :=
  ⟨lists_1, trivial, launch0.admits_env _ _ _, launch0.least_env, fairChoices_fair.cas, fairChoices_fair.clock, w_frames, w_args, w_heap, w_applies, trivial, trivial, w_case⟩
end start1
theorem witness_1 : WitnessClaimed_1 := ⟨start1.p0, start1.e0, start1.about1, start1.theMethod, start1.args0, start1.below0, start1.atStart⟩
end Jvm.Pilot.@@N@@
