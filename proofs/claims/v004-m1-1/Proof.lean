import JvmDerived
import JvmDerived.Pilot.@@N@@Statement
import JvmDerived.Pilot.@@N@@Code
set_option linter.unusedVariables false
set_option linter.unusedSimpArgs false
namespace Jvm.RoadKit
open Sem ClassFile Op Lib Jvm.Stand Jvm.Free Jvm.LawKit
section New
variable {p : Program} {l : Launch} {e : Env} {R : Room} {s : State} {m : MethodId} {args : Array Value} {below : List Frame} {meth : Method} {c : Code} {T : State} {locs : List Loc} {cells slots : Nat}
theorem retI (X : Stand p l e R s m args below meth c T locs cells slots) (hx : p.tables.exec = Jvm.exec) {pc : Nat} {Ls : Array Slot} {z : Int32} {rest : List Value} (hret : meth.sig.returnType = some .int) (hd : decode c.code pc = .ok (.ireturn, 1)) {fs : List Frame}
    (hl : ∀ (f : JFrame) (acts : List Action), f.method = m → f.locked = none → f.entered = [] → (doReturn e (T.setTop f) acts (some (.int z))).1 = T.setFrames fs) : Steps p.tables e below (T.setTop (mkF m pc Ls (.int z :: rest))) (T.setFrames fs) := by
  have hm' : T.vm.method? m = some meth := X.method'
  have hn : narrow .int (.int z) = .int z := rfl
  show Steps p.tables e below (T.setTop { method := m, pc := pc, locals := Ls, stack := _ :: rest, locked := none }) _
  jvm_step X.here [X.here.top, hx, hd, hm', hret, hn]
  first | (intro acts; rw [hl _ acts rfl rfl rfl]) | rw [hl _ _ rfl rfl rfl]
  exact Steps.refl _
theorem retJ (X : Stand p l e R s m args below meth c T locs cells slots) (hx : p.tables.exec = Jvm.exec) {pc : Nat} {Ls : Array Slot} {z : Int64} {rest : List Value} (hret : meth.sig.returnType = some .long) (hd : decode c.code pc = .ok (.lreturn, 1)) {fs : List Frame}
    (hl : ∀ (f : JFrame) (acts : List Action), f.method = m → f.locked = none → f.entered = [] → (doReturn e (T.setTop f) acts (some (.long z))).1 = T.setFrames fs) : Steps p.tables e below (T.setTop (mkF m pc Ls (.long z :: rest))) (T.setFrames fs) := by
  have hm' : T.vm.method? m = some meth := X.method'
  show Steps p.tables e below (T.setTop { method := m, pc := pc, locals := Ls, stack := _ :: rest, locked := none }) _
  jvm_step X.here [X.here.top, hx, hd, hm', hret, narrow]
  first | (intro acts; rw [hl _ acts rfl rfl rfl]) | rw [hl _ _ rfl rfl rfl]
  exact Steps.refl _
theorem retA (X : Stand p l e R s m args below meth c T locs cells slots) (hx : p.tables.exec = Jvm.exec) {pc : Nat} {Ls : Array Slot} {z : Value} {t : FieldType} {rest : List Value} (hret : meth.sig.returnType = some t) (ht : t.isReference = true) (hz : z.isRef = true) (hd : decode c.code pc = .ok (.areturn, 1)) {fs : List Frame}
    (hl : ∀ (f : JFrame) (acts : List Action), f.method = m → f.locked = none → f.entered = [] → (doReturn e (T.setTop f) acts (some z)).1 = T.setFrames fs) : Steps p.tables e below (T.setTop (mkF m pc Ls (z :: rest))) (T.setFrames fs) := by
  have hm' : T.vm.method? m = some meth := X.method'
  show Steps p.tables e below (T.setTop { method := m, pc := pc, locals := Ls, stack := _ :: rest, locked := none }) _
  jvm_step X.here [X.here.top, hx, hd, hm', hret, hz, ht]
  first | (intro acts; rw [hl _ acts rfl rfl rfl]) | rw [hl _ _ rfl rfl rfl]
  exact Steps.refl _
/-- what a body's contract owes from a state on -/
def Owe (p : Program) (e : Env) (below : List Frame) (first : State) (ck sk : Nat) (Q : Option Value → Heap → List Loc → Prop) (T : State) (g : JFrame) : Prop :=
  ∃ s₂ o, Steps p.tables e below (T.setTop g) s₂ ∧ s₂.status = .running ∧ Ended s₂ below o ∧ ∃ v L, o = .returned v ∧ Q v s₂.heap L ∧ FrameEnd first o s₂ L ck sk
theorem Owe.step {first : State} {ck sk : Nat} {Q : Option Value → Heap → List Loc → Prop} {T T' : State} {g g' : JFrame} (h : ∀ t, Steps p.tables e below (T'.setTop g') t → Steps p.tables e below (T.setTop g) t)
    (k : Owe p e below first ck sk Q T' g') : Owe p e below first ck sk Q T g := by
  obtain ⟨s₂, o, h1, h2⟩ := k
  exact ⟨s₂, o, h _ h1, h2⟩
theorem Owe.ret {ck sk : Nat} {Q : Option Value → Heap → List Loc → Prop} {g : JFrame} (X : Stand p l e R s m args below meth c T locs cells slots) (hlk : meth.locks = false) {v : Option Value} (hv : meth.sig.returnType = none → v = none)
    (hst : ∀ fs, (∀ (f : JFrame) (acts : List Action), f.method = m → f.locked = none → f.entered = [] → (doReturn e (T.setTop f) acts v).1 = T.setFrames fs) → Steps p.tables e below (T.setTop g) (T.setFrames fs))
    (hQ : Q v T.heap locs) (hc : cells ≤ ck) (hs : slots ≤ sk) : Owe p e below s ck sk Q T g := by
  obtain ⟨fs, hr, hrun, hended, hW, hsame⟩ := X.leave (v := v) hv hlk
  exact ⟨_, _, hst fs hr, hrun, hended, _, _, rfl, hQ, ⟨_, rfl⟩, hW, hsame.mono hc hs⟩
/-- a body that writes nothing and makes nothing: it returns w -/
def QP (w : Value) (h0 : Heap) (n0 : Nat) (v : Option Value) (h : Heap) (L : List Loc) : Prop := v = some w ∧ Fr n0 L ∧ h = h0
/-- .. and returns nothing -/
def QN (h0 : Heap) (n0 : Nat) (v : Option Value) (h : Heap) (L : List Loc) : Prop := v = none ∧ Fr n0 L ∧ h = h0
/-- the law itself -/
def QL (w : Value) (n0 : Nat) (v : Option Value) (h : Heap) (L : List Loc) : Prop := v = some w ∧ Fr n0 L
theorem Owe.cast {first : State} {ck sk n0 : Nat} {w w' : Int32} {g : JFrame} (q : w' = w) (k : Owe p e below first ck sk (QL (.int w') n0) T g) : Owe p e below first ck sk (QL (.int w) n0) T g := q ▸ k
end New
end Jvm.RoadKit
namespace Jvm.RoadKit
open Sem ClassFile Op Lib Jvm.Stand Jvm.Free Jvm.LawKit
section Arrays
variable {p : Program} {l : Launch} {e : Env} {R : Room} {s : State} {m : MethodId} {args : Array Value} {below : List Frame} {meth : Method} {c : Code} {T : State} {locs : List Loc} {cells slots : Nat}
variable {Z : State} {h h' : Heap} {a b : Addr} {ty : FieldType} {n sl : Nat} {f : Nat → Value} {v : Value} {ws : List Addr}
/-- an array of n places; place j holds f j -/
def AV (Z : State) (h : Heap) (a : Addr) (ty : FieldType) (n : Nat) (f : Nat → Value) : Prop := ∃ c : Cell, Arr Z h a c ty ∧ c.slots.size = n ∧ ∀ j, j < n → c.slots[j]? = some (f j)
abbrev AI (Z : State) (h : Heap) (a : Addr) (ty : FieldType) (n : Nat) (f : Nat → Int32) : Prop := AV Z h a ty n (fun k => .int (f k))
abbrev AJ (Z : State) (h : Heap) (a : Addr) (n : Nat) (f : Nat → Int64) : Prop := AV Z h a .long n (fun k => .long (f k))
def own_upd {α : Type} (f : Nat → α) (j : Nat) (x : α) : Nat → α := fun k => if k = j then x else f k
theorem own_upd_same {α : Type} (f : Nat → α) (j : Nat) (x : α) : own_upd f j x j = x := if_pos rfl
theorem own_upd_other {α : Type} (f : Nat → α) (j k : Nat) (x : α) (q : k ≠ j) : own_upd f j x k = f k := if_neg q
theorem AV.lt (F : AV Z h a ty n f) : a < h.size := by obtain ⟨c, A, -⟩ := F; exact A.lt
theorem AV.ext (F : AV Z h a ty n f) (E : Ext h h') : AV Z h' a ty n f := by obtain ⟨c, A, r⟩ := F; exact ⟨c, A.ext E, r⟩
theorem AV.other (F : AV Z h b ty n f) (W : Wr h h' a sl v) (q : b ≠ a) : AV Z h' b ty n f := by obtain ⟨c, A, r⟩ := F; exact ⟨c, A.other W q, r⟩
theorem AV.keep (F : AV Z h a ty n f) (K : Keep h h' ws) (q : a ∉ ws) : AV Z h' a ty n f := by obtain ⟨c, A, r⟩ := F; exact ⟨c, ⟨K.2.1 a c A.1 q, A.2⟩, r⟩
theorem AV.congr {f' : Nat → Value} (F : AV Z h a ty n f) (q : ∀ k, k < n → f k = f' k) : AV Z h a ty n f' := by obtain ⟨c, A, S, H⟩ := F; exact ⟨c, A, S, fun k hk => by rw [← q k hk]; exact H k hk⟩
theorem AV.new {k : ClassId} {z : Int32} (A : Arr Z h a (newA k ty z) ty) (e : z.toNatClampNeg = n) : AV Z h a ty n (fun _ => defaultValue ty) := by
  subst e
  exact ⟨_, A, sz_new _ _ _, fun j hj => by simp [newA, hj]⟩
theorem AV.set {j : Nat} (F : AV Z h a ty n f) (W : Wr h h' a j v) : AV Z h' a ty n (own_upd f j v) := by
  obtain ⟨c, A, S, H⟩ := F
  refine ⟨_, A.same W, by rw [sz_set]; exact S, fun k hk => ?_⟩
  by_cases u : k = j
  · subst u; simp [Cell.setSlot, S, hk, own_upd]
  · have := H k hk
    simp only [Cell.setSlot, own_upd, if_neg u] at this ⊢
    rw [Array.getElem?_setIfInBounds_ne (fun q => u q.symm)]; exact this
theorem AI.set {j : Nat} {g : Nat → Int32} {x : Int32} (F : AI Z h a ty n g) (W : Wr h h' a j (.int x)) : AI Z h' a ty n (own_upd g j x) := (AV.set F W).congr fun k _ => by unfold own_upd; split <;> rfl
theorem AJ.set {j : Nat} {g : Nat → Int64} {x : Int64} (F : AJ Z h a n g) (W : Wr h h' a j (.long x)) : AJ Z h' a n (own_upd g j x) := (AV.set F W).congr fun k _ => by unfold own_upd; split <;> rfl
theorem in_of {c : Cell} {j : Int32} (S : c.slots.size = n) (j0 : ¬ j < 0) (jn : j.toNatClampNeg < n) : ¬ (j < 0 ∨ c.slots.size ≤ j.toNatClampNeg) := by rw [S]; exact fun q => q.elim j0 fun y => absurd jn (Nat.not_lt.mpr y)
theorem ldAI (X : Stand p l e R s m args below meth c T locs cells slots) (hx : p.tables.exec = Jvm.exec) (hZ : Z.Warmed39 s.vm) (eT : T.heap = h) (F : AV Z h a .int n f) {j : Int32} (j0 : ¬ j < 0) (jn : j.toNatClampNeg < n) {g : JFrame} (hg : g.method = m) {rest : List Value} (hs : g.stack = .int j :: .ref a :: rest) (hd : decode c.code g.pc = .ok (.iaload, 1)) (target : State)
    (hr : Steps p.tables e below (T.setTop { g with pc := g.pc + 1, stack := f j.toNatClampNeg :: rest }) target) : Steps p.tables e below (T.setTop g) target := by
  obtain ⟨cl, A, S, H⟩ := F
  exact X.iaload hx (by rw [eT]; exact A.1) (State.isArrayOf_alike hZ.alike A.2.1) A.2.2 (in_of S j0 jn) (H _ jn) hg hs hd target hr
theorem ldAB (X : Stand p l e R s m args below meth c T locs cells slots) (hx : p.tables.exec = Jvm.exec) (hZ : Z.Warmed39 s.vm) (eT : T.heap = h) (F : AV Z h a .byte n f) {j : Int32} (j0 : ¬ j < 0) (jn : j.toNatClampNeg < n) {g : JFrame} (hg : g.method = m) {rest : List Value} (hs : g.stack = .int j :: .ref a :: rest) (hd : decode c.code g.pc = .ok (.baload, 1)) (target : State)
    (hr : Steps p.tables e below (T.setTop { g with pc := g.pc + 1, stack := f j.toNatClampNeg :: rest }) target) : Steps p.tables e below (T.setTop g) target := by
  obtain ⟨cl, A, S, H⟩ := F
  exact X.baloadBytes hx (by rw [eT]; exact A.1) (State.isArrayOf_alike hZ.alike A.2.1) A.2.2 (in_of S j0 jn) (H _ jn) hg hs hd target hr
theorem ldAJ (X : Stand p l e R s m args below meth c T locs cells slots) (hx : p.tables.exec = Jvm.exec) (hZ : Z.Warmed39 s.vm) (eT : T.heap = h) (F : AV Z h a .long n f) {j : Int32} (j0 : ¬ j < 0) (jn : j.toNatClampNeg < n) {g : JFrame} (hg : g.method = m) {rest : List Value} (hs : g.stack = .int j :: .ref a :: rest) (hd : decode c.code g.pc = .ok (.laload, 1)) (target : State)
    (hr : Steps p.tables e below (T.setTop { g with pc := g.pc + 1, stack := f j.toNatClampNeg :: rest }) target) : Steps p.tables e below (T.setTop g) target := by
  obtain ⟨cl, A, S, H⟩ := F
  exact X.laload hx (by rw [eT]; exact A.1) (State.isArrayOf_alike hZ.alike A.2.1) A.2.2 (in_of S j0 jn) (H _ jn) hg hs hd target hr
theorem stAI (X : Stand p l e R s m args below meth c T locs cells slots) (hx : p.tables.exec = Jvm.exec) (hZ : Z.Warmed39 s.vm) (eT : T.heap = h) {f : Nat → Int32} (F : AI Z h a .int n f) {j x : Int32} (j0 : ¬ j < 0) (jn : j.toNatClampNeg < n) {g : JFrame} (hg : g.method = m) {rest : List Value} (hs : g.stack = .int x :: .int j :: .ref a :: rest) (hd : decode c.code g.pc = .ok (.iastore, 1)) :
    ∃ T' h', Stand p l e R s m args below meth c T' (locs ++ [⟨a, j.toNatClampNeg⟩]) cells slots ∧ T'.heap = h' ∧ Wr h h' a j.toNatClampNeg (.int x) ∧ AI Z h' a .int n (own_upd f j.toNatClampNeg x) ∧ ∀ target, Steps p.tables e below (T'.setTop { g with pc := g.pc + 1, stack := rest }) target → Steps p.tables e below (T.setTop g) target := by
  obtain ⟨cl, A, S, H⟩ := id F
  obtain ⟨T', h', X', e', W, st⟩ := stI X hx hZ eT A (in_of S j0 jn) hg hs hd
  exact ⟨T', h', X', e', W, AI.set F W, st⟩
theorem stAB (X : Stand p l e R s m args below meth c T locs cells slots) (hx : p.tables.exec = Jvm.exec) (hZ : Z.Warmed39 s.vm) (eT : T.heap = h) {f : Nat → Int32} (F : AI Z h a .byte n f) {j x : Int32} (j0 : ¬ j < 0) (jn : j.toNatClampNeg < n) {g : JFrame} (hg : g.method = m) {rest : List Value} (hs : g.stack = .int x :: .int j :: .ref a :: rest) (hd : decode c.code g.pc = .ok (.bastore, 1)) :
    ∃ T' h', Stand p l e R s m args below meth c T' (locs ++ [⟨a, j.toNatClampNeg⟩]) cells slots ∧ T'.heap = h' ∧ Wr h h' a j.toNatClampNeg (.int (nar .byte x)) ∧ AI Z h' a .byte n (own_upd f j.toNatClampNeg (nar .byte x)) ∧ ∀ target, Steps p.tables e below (T'.setTop { g with pc := g.pc + 1, stack := rest }) target → Steps p.tables e below (T.setTop g) target := by
  obtain ⟨cl, A, S, H⟩ := id F
  obtain ⟨T', h', X', e', W, st⟩ := stB X hx hZ eT A (in_of S j0 jn) hg hs hd
  exact ⟨T', h', X', e', W, AI.set F W, st⟩
theorem stAC (X : Stand p l e R s m args below meth c T locs cells slots) (hx : p.tables.exec = Jvm.exec) (hZ : Z.Warmed39 s.vm) (eT : T.heap = h) {f : Nat → Int32} (F : AI Z h a .char n f) {j x : Int32} (j0 : ¬ j < 0) (jn : j.toNatClampNeg < n) {g : JFrame} (hg : g.method = m) {rest : List Value} (hs : g.stack = .int x :: .int j :: .ref a :: rest) (hd : decode c.code g.pc = .ok (.castore, 1)) :
    ∃ T' h', Stand p l e R s m args below meth c T' (locs ++ [⟨a, j.toNatClampNeg⟩]) cells slots ∧ T'.heap = h' ∧ Wr h h' a j.toNatClampNeg (.int (nar .char x)) ∧ AI Z h' a .char n (own_upd f j.toNatClampNeg (nar .char x)) ∧ ∀ target, Steps p.tables e below (T'.setTop { g with pc := g.pc + 1, stack := rest }) target → Steps p.tables e below (T.setTop g) target := by
  obtain ⟨cl, A, S, H⟩ := id F
  obtain ⟨T', h', X', e', W, st⟩ := stC X hx hZ eT A (in_of S j0 jn) hg hs hd
  exact ⟨T', h', X', e', W, AI.set F W, st⟩
theorem stAJ (X : Stand p l e R s m args below meth c T locs cells slots) (hx : p.tables.exec = Jvm.exec) (hZ : Z.Warmed39 s.vm) (eT : T.heap = h) {f : Nat → Int64} (F : AJ Z h a n f) {j : Int32} {x : Int64} (j0 : ¬ j < 0) (jn : j.toNatClampNeg < n) {g : JFrame} (hg : g.method = m) {rest : List Value} (hs : g.stack = .long x :: .int j :: .ref a :: rest) (hd : decode c.code g.pc = .ok (.lastore, 1)) :
    ∃ T' h', Stand p l e R s m args below meth c T' (locs ++ [⟨a, j.toNatClampNeg⟩]) cells slots ∧ T'.heap = h' ∧ Wr h h' a j.toNatClampNeg (.long x) ∧ AJ Z h' a n (own_upd f j.toNatClampNeg x) ∧ ∀ target, Steps p.tables e below (T'.setTop { g with pc := g.pc + 1, stack := rest }) target → Steps p.tables e below (T.setTop g) target := by
  obtain ⟨cl, A, S, H⟩ := id F
  obtain ⟨T', h', X', e', W, st⟩ := stJ X hx hZ eT A (in_of S j0 jn) hg hs hd
  exact ⟨T', h', X', e', W, AJ.set F W, st⟩
theorem lenA (X : Stand p l e R s m args below meth c T locs cells slots) (hx : p.tables.exec = Jvm.exec) (hZ : Z.Warmed39 s.vm) (eT : T.heap = h) (F : AV Z h a ty n f) {z : Int32} (hn : n.toInt32 = z) {g : JFrame} (hg : g.method = m) {rest : List Value} (hs : g.stack = .ref a :: rest) (hd : decode c.code g.pc = .ok (.arraylength, 1)) (target : State)
    (hr : Steps p.tables e below (T.setTop { g with pc := g.pc + 1, stack := .int z :: rest }) target) : Steps p.tables e below (T.setTop g) target := by
  obtain ⟨cl, A, S, H⟩ := F
  subst hn
  exact X.arraylength hx (by rw [eT]; exact A.1) (State.isArrayOf_alike hZ.alike A.2.1) hg hs hd target (by rw [S]; exact hr)
end Arrays
end Jvm.RoadKit
namespace Jvm.Pilot.@@N@@
open Jvm Jvm.ClassFile Sem Op Lib Jvm.Free Jvm.Stand Jvm.LawKit Jvm.RoadKit Bundle Jvm.Pilot.@@N@@.Jvm.D
theorem own_irem (x y : Int32) : x - (x / y) * y = x % y := by
  apply Int32.toInt_inj.mp
  have h1 := Int32.le_toInt (x % y)
  have h2 := Int32.toInt_lt (x % y)
  rw [Int32.toInt_sub, Int32.toInt_mul, Int32.toInt_div, Int.bmod_mul_bmod, Int.sub_bmod_bmod, Int.mul_comm (x.toInt.tdiv y.toInt), ← Int.tmod_def, ← Int32.toInt_mod]
  exact Int.bmod_eq_of_le_mul_two (by omega) (by omega)
/-- an index, told by its int -/
theorem own_ix {j : Int32} {n : Nat} (h0 : 0 ≤ j.toInt) (h1 : j.toInt < (n : Int)) : ¬ j < 0 ∧ j.toNatClampNeg < n := by
  rw [Int32.lt_iff_toInt_lt]
  have e0 : (0 : Int32).toInt = 0 := rfl
  have e1 : j.toNatClampNeg = j.toInt.toNat := rfl
  rw [e0, e1]; omega
def own_W (w : Int32) : Prop := 0 ≤ w.toInt ∧ w.toInt ≤ 4
theorem own_w5 (x : Int32) : own_W ((x &&& (2147483647 : Int32)) - ((x &&& (2147483647 : Int32)) / (5 : Int32)) * (5 : Int32)) := by
  have h := c_mask x 2147483647 31 (by decide) (by decide)
  rw [own_irem]
  have r := c_irem (x &&& (2147483647 : Int32)) 5 5 (by decide)
  constructor <;> omega
theorem own_c4 (x : Int32) : x &&& (3 : Int32) = 0 ∨ x &&& (3 : Int32) = 1 ∨ x &&& (3 : Int32) = 2 ∨ x &&& (3 : Int32) = 3 := by
  have h := c_mask x 3 2 (by decide) (by decide)
  simp only [← Int32.toInt_inj, Int32.reduceToInt]
  omega
/-- five widths -/
theorem own_w45 {w : Int32} (h : own_W w) : w = 0 ∨ w = 1 ∨ w = 2 ∨ w = 3 ∨ w = 4 := by
  obtain ⟨h1, h2⟩ := h
  simp only [← Int32.toInt_inj, Int32.reduceToInt]
  omega
theorem own_z4 {z : Int32} {n : Nat} (h : z.toInt = n) (hn : n ≤ 3) : (z = 0 ∧ n = 0) ∨ (z = 1 ∧ n = 1) ∨ (z = 2 ∧ n = 2) ∨ (z = 3 ∧ n = 3) := by
  simp only [← Int32.toInt_inj, Int32.reduceToInt]
  omega
theorem own_nn {w z : Int32} {n : Nat} (hw : own_W w) (hz : z.toInt = n) (hn : n ≤ 3) : ¬ (w * z) < 0 ∧ (w * z).toNatClampNeg ≤ 12 := by
  rcases own_w45 hw with rfl | rfl | rfl | rfl | rfl <;> rcases own_z4 hz hn with ⟨rfl, rfl⟩ | ⟨rfl, rfl⟩ | ⟨rfl, rfl⟩ | ⟨rfl, rfl⟩ <;> decide
def own_inv (t i : Int32) (n : Nat) : Prop := 0 ≤ i.toInt ∧ i.toInt ≤ t.toInt ∧ t.toInt - i.toInt ≤ n
theorem own_z {t i : Int32} (h : own_inv t i 0) : ¬ i < t := by
  have := h.2.2
  rw [Int32.lt_iff_toInt_lt]; omega
theorem own_v0 {z : Int32} {n : Nat} (hz : z.toInt = n) (hn : n ≤ 3) : own_inv z (0 : Int32) 3 := by
  have e : (0 : Int32).toInt = 0 := rfl
  unfold own_inv; omega
theorem own_v0w {w : Int32} (hw : own_W w) : own_inv w (0 : Int32) 4 := by
  have e : (0 : Int32).toInt = 0 := rfl
  obtain ⟨h1, h2⟩ := hw
  unfold own_inv; omega
theorem own_inc {i t : Int32} (h : 0 ≤ i.toInt) (hl : i < t) : (i + (1 : Int32)).toInt = i.toInt + 1 := by
  have e : (1 : Int32).toInt = 1 := rfl
  have a := c_iadd i 1
  have r := rng32 (i + 1)
  have q := rng32 t
  rw [Int32.lt_iff_toInt_lt] at hl
  rw [e] at a
  omega
theorem own_v1 {z i : Int32} {n m : Nat} (h : own_inv z i (m + 1)) (hz : z.toInt = n) (hn : n ≤ 3) (hl : i < z) : own_inv z (i + (1 : Int32)) m := by
  have a := own_inc h.1 hl
  rw [Int32.lt_iff_toInt_lt] at hl
  obtain ⟨h1, h2, h3⟩ := h
  unfold own_inv; omega
theorem own_v1w {w j : Int32} {m : Nat} (h : own_inv w j (m + 1)) (hw : own_W w) (hl : j < w) : own_inv w (j + (1 : Int32)) m := by
  have a := own_inc h.1 hl
  rw [Int32.lt_iff_toInt_lt] at hl
  obtain ⟨h1, h2, h3⟩ := h
  unfold own_inv; omega
theorem own_clamp {j : Int32} (h : 0 ≤ j.toInt) : (j.toNatClampNeg : Int) = j.toInt := by
  have e : j.toNatClampNeg = j.toInt.toNat := rfl
  rw [e]; omega
theorem own_i33 {z i : Int32} {n m : Nat} (h : own_inv z i m) (hz : z.toInt = n) (hl : i < z) : ¬ i < 0 ∧ i.toNatClampNeg < n := by
  rw [Int32.lt_iff_toInt_lt] at hl
  exact own_ix h.1 (by omega)
/-- the place of byte j of the i-th int -/
def own_m (w i j : Int32) : Nat := i.toNatClampNeg * w.toNatClampNeg + j.toNatClampNeg
def own_byte (w : Int32) (fv : Nat → Int32) (k : Nat) : Int32 := nar .byte (((fv (k / w.toNatClampNeg)) >>> (((8 : Int32) * ((w - (1 : Int32)) - (k % w.toNatClampNeg).toInt32)) &&& 31)).toInt8.toInt32)
def own_g (w : Int32) (fv : Nat → Int32) (m : Nat) : Nat → Int32 := fun k => if k < m then own_byte w fv k else 0
theorem own_g0 {Z : State} {h : Heap} {a : Addr} {n : Nat} {w : Int32} {fv : Nat → Int32} (A : AI Z h a .byte n (fun _ => (0 : Int32))) : AI Z h a .byte n (own_g w fv (own_m w (0 : Int32) (0 : Int32))) :=
  AV.congr A fun k _ => by
    have e : own_m w (0 : Int32) (0 : Int32) = 0 := by show 0 * _ + 0 = 0; simp
    unfold own_g; rw [e, if_neg (Nat.not_lt_zero k)]
/-- the sizes, as plain numbers -/
theorem own_pl {w z i : Int32} {n m : Nat} (hw : own_W w) (hz : z.toInt = n) (hn : n ≤ 3) (h : own_inv z i m) (hl : i < z) : i.toInt ≤ 2 ∧ (i * w).toInt = i.toInt * w.toInt ∧ (w * z).toInt = w.toInt * z.toInt ∧ 0 ≤ i.toInt * w.toInt ∧ i.toInt * w.toInt + w.toInt ≤ w.toInt * z.toInt ∧ w.toInt * z.toInt ≤ 12 := by
  have e : i = 0 ∨ i = 1 ∨ i = 2 := by
    rw [Int32.lt_iff_toInt_lt] at hl
    obtain ⟨h1, h2, h3⟩ := h
    simp only [← Int32.toInt_inj, Int32.reduceToInt]
    omega
  rcases own_w45 hw with rfl | rfl | rfl | rfl | rfl <;> rcases own_z4 hz hn with ⟨rfl, rfl⟩ | ⟨rfl, rfl⟩ | ⟨rfl, rfl⟩ | ⟨rfl, rfl⟩ <;> rcases e with rfl | rfl | rfl <;> first | decide | exact absurd hl (by decide)
theorem own_at45 {w z i j : Int32} {n m m' : Nat} (hw : own_W w) (hz : z.toInt = n) (hn : n ≤ 3) (h : own_inv z i m) (hl : i < z) (h' : own_inv w j m') (hl' : j < w) : (i * w + j).toInt = i.toInt * w.toInt + j.toInt ∧ (i * w + j).toNatClampNeg = own_m w i j ∧ own_m w i j < (w * z).toNatClampNeg := by
  obtain ⟨p0, p1, p2, p3, p4, p5⟩ := own_pl hw hz hn h hl
  have a := c_iadd (i * w) j
  have r := rng32 (i * w + j)
  rw [Int32.lt_iff_toInt_lt] at hl'
  have w1 := hw.1
  have j0 := h'.1
  have e1 : (i * w + j).toInt = i.toInt * w.toInt + j.toInt := by omega
  have c1 := own_clamp h.1
  have c2 := own_clamp w1
  have c3 := own_clamp j0
  have c4 : ((i * w + j).toNatClampNeg : Int) = (i * w + j).toInt := own_clamp (by omega)
  have c5 : ((w * z).toNatClampNeg : Int) = (w * z).toInt := own_clamp (by omega)
  have c6 : ((own_m w i j : Nat) : Int) = i.toInt * w.toInt + j.toInt := by
    unfold own_m; rw [Int.natCast_add, Int.natCast_mul, c1, c2, c3]
  refine ⟨e1, ?_, ?_⟩ <;> omega
theorem own_ix45 {w z i j : Int32} {n m m' : Nat} (hw : own_W w) (hz : z.toInt = n) (hn : n ≤ 3) (h : own_inv z i m) (hl : i < z) (h' : own_inv w j m') (hl' : j < w) : ¬ (i * w + j) < 0 ∧ (i * w + j).toNatClampNeg < (w * z).toNatClampNeg := by
  obtain ⟨e1, e2, e3⟩ := own_at45 hw hz hn h hl h' hl'
  obtain ⟨p0, p1, p2, p3, p4, p5⟩ := own_pl hw hz hn h hl
  have j0 := h'.1
  refine ⟨?_, by rw [e2]; exact e3⟩
  have e : (0 : Int32).toInt = 0 := rfl
  rw [Int32.lt_iff_toInt_lt]; omega
theorem own_gs {Z : State} {hp : Heap} {a : Addr} {N : Nat} {fv : Nat → Int32} {w z i j : Int32} {n m m' : Nat} (hw : own_W w) (hz : z.toInt = n) (hn : n ≤ 3) (h : own_inv z i m) (hl : i < z) (h' : own_inv w j m') (hl' : j < w)
    (A : AI Z hp a .byte N (own_upd (own_g w fv (own_m w i j)) (i * w + j).toNatClampNeg (nar .byte (((fv (i).toNatClampNeg) >>> (((8 : Int32) * ((w - (1 : Int32)) - j)) &&& 31)).toInt8.toInt32)))) : AI Z hp a .byte N (own_g w fv (own_m w i (j + (1 : Int32)))) := by
  obtain ⟨e1, e2, -⟩ := own_at45 hw hz hn h hl h' hl'
  have ej := own_inc h'.1 hl'
  rw [Int32.lt_iff_toInt_lt] at hl'
  have w1 := hw.1
  have w2 := hw.2
  have j0 := h'.1
  have c2 := own_clamp w1
  have c3 := own_clamp j0
  have c4 := own_clamp (j := j + 1) (by omega)
  have wp : 0 < w.toNatClampNeg := by omega
  have jl : j.toNatClampNeg < w.toNatClampNeg := by omega
  have em : own_m w i (j + (1 : Int32)) = own_m w i j + 1 := by unfold own_m; omega
  have d1 : own_m w i j / w.toNatClampNeg = i.toNatClampNeg := by
    unfold own_m; rw [Nat.add_comm, Nat.add_mul_div_right _ _ wp, Nat.div_eq_of_lt jl, Nat.zero_add]
  have d2 : own_m w i j % w.toNatClampNeg = j.toNatClampNeg := by
    unfold own_m; rw [Nat.add_comm, Nat.add_mul_mod_self_right, Nat.mod_eq_of_lt jl]
  have d3 : (j.toNatClampNeg).toInt32 = j := by
    have jl4 : j.toNatClampNeg < 2 ^ 31 := by omega
    apply Int32.toInt_inj.mp
    rw [len_toInt jl4]; exact c3
  refine AV.congr A fun k _ => ?_
  rw [e2, em]
  by_cases u : k = own_m w i j
  · subst u
    rw [own_upd_same]
    unfold own_g own_byte
    rw [if_pos (Nat.lt_succ_self _), d1, d2, d3]
  · rw [own_upd_other _ _ _ _ u]
    unfold own_g
    by_cases v : k < own_m w i j
    · rw [if_pos v, if_pos (by omega)]
    · rw [if_neg v, if_neg (by omega)]
theorem own_gn {Z : State} {hp : Heap} {a : Addr} {N : Nat} {fv : Nat → Int32} {w z i j : Int32} {n m m' : Nat} (hw : own_W w) (h' : own_inv w j m') (hl' : ¬ j < w) (h : own_inv z i m) (hl : i < z) (hz : z.toInt = n) (hn : n ≤ 3)
    (A : AI Z hp a .byte N (own_g w fv (own_m w i j))) : AI Z hp a .byte N (own_g w fv (own_m w (i + (1 : Int32)) (0 : Int32))) := by
  have ei := own_inc h.1 hl
  rw [Int32.lt_iff_toInt_lt] at hl'
  obtain ⟨j0, j1, -⟩ := h'
  have i0 := h.1
  have c1 := own_clamp i0
  have c2 := own_clamp hw.1
  have c3 := own_clamp j0
  have c4 := own_clamp (j := i + 1) (by omega)
  have e : own_m w (i + (1 : Int32)) (0 : Int32) = own_m w i j := by
    have q1 : (i + (1 : Int32)).toNatClampNeg = i.toNatClampNeg + 1 := by omega
    have q2 : j.toNatClampNeg = w.toNatClampNeg := by omega
    have q3 : (0 : Int32).toNatClampNeg = 0 := rfl
    unfold own_m; rw [q1, q2, q3, Nat.add_mul, Nat.one_mul, Nat.add_zero]
  rw [e]; exact A
theorem own_fin {Z : State} {hp : Heap} {a : Addr} {N : Nat} {fv : Nat → Int32} {w z i : Int32} {m : Nat} (h : own_inv z i m) (hl : ¬ i < z) (A : AI Z hp a .byte N (own_g w fv (own_m w i (0 : Int32)))) : AI Z hp a .byte N (own_g w fv (own_m w z (0 : Int32))) := by
  have e : i = z := by
    rw [Int32.lt_iff_toInt_lt] at hl
    obtain ⟨h1, h2, h3⟩ := h
    exact Int32.toInt_inj.mp (by omega)
  rw [← e]; exact A
def own_rd (at_ w : Int32) (n : Nat) : Prop := 0 ≤ at_.toInt ∧ at_.toInt ≤ 8 ∧ at_.toInt + w.toInt ≤ n
theorem own_rk {p k w : Int32} {n : Nat} (h : own_rd p w n) (hk : 0 ≤ k.toInt ∧ k.toInt < 4) (hl : k.toInt < w.toInt) : ¬ (p + k) < 0 ∧ (p + k).toNatClampNeg < n := by
  obtain ⟨h1, h2, h3⟩ := h
  have a := c_iadd p k
  have r := rng32 (p + k)
  exact own_ix (by omega) (by omega)
theorem own_rk0 {p w : Int32} {n : Nat} (h : own_rd p w n) (hl : ¬ w < (1 : Int32)) : ¬ p < 0 ∧ p.toNatClampNeg < n := by
  have e : (1 : Int32).toInt = 1 := rfl
  rw [Int32.lt_iff_toInt_lt] at hl
  obtain ⟨h1, h2, h3⟩ := h
  exact own_ix (by omega) (by omega)
theorem own_rk1 {p w : Int32} {n : Nat} (h : own_rd p w n) (hl : ¬ w < (2 : Int32)) : ¬ (p + (1 : Int32)) < 0 ∧ (p + (1 : Int32)).toNatClampNeg < n := by
  have e : (2 : Int32).toInt = 2 := rfl
  have e' : (1 : Int32).toInt = 1 := rfl
  rw [Int32.lt_iff_toInt_lt] at hl
  exact own_rk h (by decide) (by omega)
theorem own_rk2 {p w : Int32} {n : Nat} (h : own_rd p w n) (hl : ¬ w < (3 : Int32)) : ¬ (p + (2 : Int32)) < 0 ∧ (p + (2 : Int32)).toNatClampNeg < n := by
  have e : (3 : Int32).toInt = 3 := rfl
  have e' : (2 : Int32).toInt = 2 := rfl
  rw [Int32.lt_iff_toInt_lt] at hl
  exact own_rk h (by decide) (by omega)
theorem own_rk3 {p w : Int32} {n : Nat} (h : own_rd p w n) (hl : ¬ w < (4 : Int32)) : ¬ (p + (3 : Int32)) < 0 ∧ (p + (3 : Int32)).toNatClampNeg < n := by
  have e : (4 : Int32).toInt = 4 := rfl
  have e' : (3 : Int32).toInt = 3 := rfl
  rw [Int32.lt_iff_toInt_lt] at hl
  exact own_rk h (by decide) (by omega)
theorem own_mul {w z : Int32} (hw : own_W w) (hz : 0 ≤ z.toInt ∧ z.toInt ≤ 3) : (w * z).toInt = w.toInt * z.toInt ∧ 0 ≤ (w * z).toInt ∧ (w * z).toInt ≤ 12 := by
  have e : z = 0 ∨ z = 1 ∨ z = 2 ∨ z = 3 := by
    simp only [← Int32.toInt_inj, Int32.reduceToInt]
    omega
  rcases own_w45 hw with rfl | rfl | rfl | rfl | rfl <;> rcases e with rfl | rfl | rfl | rfl <;> decide
theorem own_len {w z : Int32} (hw : own_W w) (hz : 0 ≤ z.toInt ∧ z.toInt ≤ 3) : ((w * z).toNatClampNeg).toInt32 = w * z := by
  obtain ⟨-, h1, h2⟩ := own_mul hw hz
  have c := own_clamp h1
  apply Int32.toInt_inj.mp
  rw [len_toInt (by omega)]; exact c
theorem own_rd0 {w z : Int32} (hw : own_W w) (hz : 0 ≤ z.toInt ∧ z.toInt ≤ 3) (h1 : 1 ≤ z.toInt) : own_rd (0 : Int32) w (w * z).toNatClampNeg := by
  obtain ⟨e, h2, h3⟩ := own_mul hw hz
  have c := own_clamp h2
  have e0 : (0 : Int32).toInt = 0 := rfl
  obtain ⟨w1, w2⟩ := hw
  have q : w.toInt * 1 ≤ w.toInt * z.toInt := Int.mul_le_mul_of_nonneg_left h1 w1
  unfold own_rd; omega
theorem own_rd1 {w z : Int32} (hw : own_W w) (hz : 0 ≤ z.toInt ∧ z.toInt ≤ 3) (h1 : 2 ≤ z.toInt) : own_rd w w (w * z).toNatClampNeg := by
  obtain ⟨e, h2, h3⟩ := own_mul hw hz
  have c := own_clamp h2
  obtain ⟨w1, w2⟩ := hw
  have q : w.toInt * 2 ≤ w.toInt * z.toInt := Int.mul_le_mul_of_nonneg_left h1 w1
  unfold own_rd; omega
theorem own_rd2 {w z : Int32} (hw : own_W w) (hz : 0 ≤ z.toInt ∧ z.toInt ≤ 3) (h1 : 3 ≤ z.toInt) : own_rd ((2 : Int32) * w) w (w * z).toNatClampNeg := by
  obtain ⟨e, h2, h3⟩ := own_mul hw hz
  have c := own_clamp h2
  have a : ((2 : Int32) * w).toInt = 2 * w.toInt := by rcases own_w45 hw with rfl | rfl | rfl | rfl | rfl <;> decide
  obtain ⟨w1, w2⟩ := hw
  have q : w.toInt * 3 ≤ w.toInt * z.toInt := Int.mul_le_mul_of_nonneg_left h1 w1
  unfold own_rd; omega
theorem own_d1_0 : decode prog_41_method_30_code 0 = .ok (.iload_n 0, 1) := by decide +kernel
theorem own_d1_1 : decode prog_41_method_30_code 1 = .ok (.aload_n 1, 1) := by decide +kernel
theorem own_d1_2 : decode prog_41_method_30_code 2 = .ok (.arraylength, 1) := by decide +kernel
theorem own_d1_3 : decode prog_41_method_30_code 3 = .ok (.imul, 1) := by decide +kernel
theorem own_d1_4 : decode prog_41_method_30_code 4 = .ok (.newarray .byte, 2) := by decide +kernel
theorem own_d1_6 : decode prog_41_method_30_code 6 = .ok (.astore_n 2, 1) := by decide +kernel
theorem own_d1_7 : decode prog_41_method_30_code 7 = .ok (.iconst 0, 1) := by decide +kernel
theorem own_d1_8 : decode prog_41_method_30_code 8 = .ok (.istore_n 3, 1) := by decide +kernel
theorem own_d1_9 : decode prog_41_method_30_code 9 = .ok (.iload_n 3, 1) := by decide +kernel
theorem own_d1_10 : decode prog_41_method_30_code 10 = .ok (.aload_n 1, 1) := by decide +kernel
theorem own_d1_11 : decode prog_41_method_30_code 11 = .ok (.arraylength, 1) := by decide +kernel
theorem own_d1_12 : decode prog_41_method_30_code 12 = .ok (.if_icmp .ge 46, 3) := by decide +kernel
theorem own_d1_15 : decode prog_41_method_30_code 15 = .ok (.iconst 0, 1) := by decide +kernel
theorem own_d1_16 : decode prog_41_method_30_code 16 = .ok (.istore 4, 2) := by decide +kernel
theorem own_d1_18 : decode prog_41_method_30_code 18 = .ok (.iload 4, 2) := by decide +kernel
theorem own_d1_20 : decode prog_41_method_30_code 20 = .ok (.iload_n 0, 1) := by decide +kernel
theorem own_d1_21 : decode prog_41_method_30_code 21 = .ok (.if_icmp .ge 31, 3) := by decide +kernel
theorem own_d1_24 : decode prog_41_method_30_code 24 = .ok (.aload_n 2, 1) := by decide +kernel
theorem own_d1_25 : decode prog_41_method_30_code 25 = .ok (.iload_n 3, 1) := by decide +kernel
theorem own_d1_26 : decode prog_41_method_30_code 26 = .ok (.iload_n 0, 1) := by decide +kernel
theorem own_d1_27 : decode prog_41_method_30_code 27 = .ok (.imul, 1) := by decide +kernel
theorem own_d1_28 : decode prog_41_method_30_code 28 = .ok (.iload 4, 2) := by decide +kernel
theorem own_d1_30 : decode prog_41_method_30_code 30 = .ok (.iadd, 1) := by decide +kernel
theorem own_d1_31 : decode prog_41_method_30_code 31 = .ok (.aload_n 1, 1) := by decide +kernel
theorem own_d1_32 : decode prog_41_method_30_code 32 = .ok (.iload_n 3, 1) := by decide +kernel
theorem own_d1_33 : decode prog_41_method_30_code 33 = .ok (.iaload, 1) := by decide +kernel
theorem own_d1_34 : decode prog_41_method_30_code 34 = .ok (.bipush 8, 2) := by decide +kernel
theorem own_d1_36 : decode prog_41_method_30_code 36 = .ok (.iload_n 0, 1) := by decide +kernel
theorem own_d1_37 : decode prog_41_method_30_code 37 = .ok (.iconst 1, 1) := by decide +kernel
theorem own_d1_38 : decode prog_41_method_30_code 38 = .ok (.isub, 1) := by decide +kernel
theorem own_d1_39 : decode prog_41_method_30_code 39 = .ok (.iload 4, 2) := by decide +kernel
theorem own_d1_41 : decode prog_41_method_30_code 41 = .ok (.isub, 1) := by decide +kernel
theorem own_d1_42 : decode prog_41_method_30_code 42 = .ok (.imul, 1) := by decide +kernel
theorem own_d1_43 : decode prog_41_method_30_code 43 = .ok (.ishr, 1) := by decide +kernel
theorem own_d1_44 : decode prog_41_method_30_code 44 = .ok (.i2b, 1) := by decide +kernel
theorem own_d1_45 : decode prog_41_method_30_code 45 = .ok (.bastore, 1) := by decide +kernel
theorem own_d1_46 : decode prog_41_method_30_code 46 = .ok (.iinc 4 1, 3) := by decide +kernel
theorem own_d1_49 : decode prog_41_method_30_code 49 = .ok (.goto (-31), 3) := by decide +kernel
theorem own_d1_52 : decode prog_41_method_30_code 52 = .ok (.iinc 3 1, 3) := by decide +kernel
theorem own_d1_55 : decode prog_41_method_30_code 55 = .ok (.goto (-46), 3) := by decide +kernel
theorem own_d1_58 : decode prog_41_method_30_code 58 = .ok (.aload_n 2, 1) := by decide +kernel
theorem own_d1_59 : decode prog_41_method_30_code 59 = .ok (.areturn, 1) := by decide +kernel
theorem own_st1_16 {z0 : Value} {z1 : Value} {z2 : Value} {z3 : Value} {s9_4 : Slot} {v : Int32} (h : One s9_4) : storeLocals #[.val z0, .val z1, .val z2, .val z3, s9_4] 4 (.int v) = some #[.val z0, .val z1, .val z2, .val z3, .val (.int v)] := by
  rcases h with rfl | ⟨w, rfl, hw⟩
  · rfl
  · cases w <;> first | rfl | (simp [Value.category] at hw)
theorem own_pn0 : plainName "com/example/rasterline/rasterline/formats/png/KnownChunk" = true := by first | (simp [plainName, overriddenIn]; done) | decide +kernel
theorem own_ef1 (m : MethodId) (p0 : Int32) (a1 : Addr) : entryFrame m #[(.int p0), (.ref a1)] 5 = mkF m 0 #[.val (.int p0), .val (.ref a1), .unset, .unset, .unset] [] := by first | (simp [entryFrame, mkF, argsToLocals, Value.category]; done) | rfl
def own_Q1 (Z : State) (p0 : Int32) (a1 : Addr) (nc : Nat) (fv : Nat → Int32) (zc : Int32) (h0 : Heap) (n0 : Nat) (v : Option Value) (h : Heap) (L : List Loc) : Prop := ∃ b1 : Addr, v = some (.ref b1) ∧ Fr n0 L ∧ Keep h0 h [] ∧ h0.size ≤ b1 ∧ AI Z h b1 .byte (p0 * zc).toNatClampNeg (own_g p0 fv (own_m p0 zc (0 : Int32)))
set_option maxRecDepth 65536 in
set_option maxHeartbeats 40000000 in
theorem own_rm1 (l : Launch) (Z : State) (aA : Array Value) (hw : ∀ d ∈ tables_1, d.before aA Z = true) (ws : List Jvm.Cond) (p0 : Int32) (a1 : Addr) (nc : Nat) (fv : Nat → Int32) (zc : Int32) (h0 : Heap) (n0 : Nat) (Z0 : n0 ≤ h0.size) (A_vs : AI Z h0 a1 .int nc fv) (hz : nc.toInt32 = zc) (hz2 : zc.toInt = nc) (hc3 : nc ≤ 3) (hW : own_W p0) :
    MetFree l (⟨"com/example/rasterline/rasterline/formats/png/KnownChunk", "packed", "(I[I)[B"⟩ : MethodName) (head1 (Jvm.Cond.code (⟨"com/example/rasterline/rasterline/formats/png/KnownChunk", "packed", "(I[I)[B"⟩ : MethodName) prog_41_method_30_code 5 (some (.array .byte)) :: ws) ({ frames := 0, cells := 1, slots := 12, locals := 0 } : Room)) (fun a U => a = #[(.int p0), (.ref a1)] ∧ Z.Warmed39 U.vm ∧ U.heap = h0) (fun _ _ _ _ _ => True) (fun _ U o U' => ∃ v L, o = .returned v ∧ (own_Q1 Z p0 a1 nc fv zc h0 n0) v U'.heap L ∧ FrameEnd U o U' L ({ frames := 0, cells := 1, slots := 12, locals := 0 } : Room).cells ({ frames := 0, cells := 1, slots := 12, locals := 0 } : Room).slots) := by
  refine MetFree.of_bodySF (plainFor_of_name own_pn0) hisR ?_
  intro p e s m args below meth c s₁ Bd hml0 hP hK
  obtain ⟨rfl, hZ, hh⟩ := hP
  have hx := Bd.exec
  have hby := Bd.bytes
  have hml : c.maxLocals = 5 := hml0
  have hown : s.vm.findClass "com/example/rasterline/rasterline/formats/png/KnownChunk" = some m.cls := findClass_of_methodNamed Bd.named
  have hnm := (name_of_methodNamed Bd.named Bd.method).1
  have X0 : Stand p l e ({ frames := 0, cells := 1, slots := 12, locals := 0 } : Room) s m #[(.int p0), (.ref a1)] below meth c s₁ [] 0 0 := Stand.of_body Bd
  have e0 : s₁.heap = h0 := by rw [← hh, Bd.state]; rfl
  have N0 := Fr.nil n0
  refine Owe.step (T := s₁) (T' := s₁) (g' := (mkF m 0 #[.val (.int p0), .val (.ref a1), .unset, .unset, .unset] [])) (fun t k => castTop (own_ef1 m p0 a1) k) ?_
  obtain ⟨T1, h1, k1, X1, e1, E1, A1, st1⟩ := newP X0 hx hZ (hw _ (List.mem_of_getElem? (i := 6) rfl)) e0 (g := (mkF m 4 #[.val (.int p0), .val (.ref a1), .unset, .unset, .unset] [(.int (p0 * zc))])) rfl (hb hby own_d1_4) rfl (own_nn hW hz2 hc3).1 (cap := 12) (own_nn hW hz2 hc3).2 (by decide) (by decide) (by decide)
  obtain ⟨b1, g1⟩ : ∃ z, z = h0.size := ⟨_, rfl⟩
  rw [← g1] at A1 st1
  have ne_a1_b1 : a1 ≠ b1 := Nat.ne_of_lt (Nat.lt_of_lt_of_le A_vs.lt (Nat.le_of_eq g1.symm))
  have g_b1 : n0 ≤ b1 := Nat.le_trans Z0 (Nat.le_of_eq g1.symm)
  have sz_b1 : h0.size ≤ b1 := Nat.le_trans (Keep.refl h0 []).1 (Nat.le_of_eq g1.symm)
  have A_vs_x1 := A_vs.ext E1
  have K1 := (Keep.refl h0 []).ext E1
  have Zn1 : n0 ≤ h1.size := Nat.le_trans Z0 E1.1
  have V1 : AI Z h1 b1 .byte (p0 * zc).toNatClampNeg (fun _ => (0 : Int32)) := AV.new A1 rfl
  refine Owe.step (T' := T1) (g' := (mkF m 9 #[.val (.int p0), .val (.ref a1), .val (.ref b1), .val (.int (0 : Int32)), .unset] [])) (fun t k => ?_) ?_
  · show Steps p.tables e below (s₁.setTop (mkF m 0 #[.val (.int p0), .val (.ref a1), .unset, .unset, .unset] [])) t
    refine XS.iloadN X0.here hx rfl (hb hby own_d1_0) rfl ?_
    show Steps p.tables e below (s₁.setTop (mkF m 1 #[.val (.int p0), .val (.ref a1), .unset, .unset, .unset] [(.int p0)])) t
    refine XS.aloadN X0.here hx rfl (hb hby own_d1_1) rfl rfl ?_
    show Steps p.tables e below (s₁.setTop (mkF m 2 #[.val (.int p0), .val (.ref a1), .unset, .unset, .unset] [(.ref a1), (.int p0)])) t
    refine lenA X0 hx hZ e0 A_vs (z := zc) hz (g := (mkF m 2 #[.val (.int p0), .val (.ref a1), .unset, .unset, .unset] [(.ref a1), (.int p0)])) rfl rfl (hb hby own_d1_2) _ ?_
    show Steps p.tables e below (s₁.setTop (mkF m 3 #[.val (.int p0), .val (.ref a1), .unset, .unset, .unset] [(.int zc), (.int p0)])) t
    refine XS.imul X0.here hx rfl (hb hby own_d1_3) rfl ?_
    show Steps p.tables e below (s₁.setTop (mkF m 4 #[.val (.int p0), .val (.ref a1), .unset, .unset, .unset] [(.int (p0 * zc))])) t
    refine st1 _ ?_
    show Steps p.tables e below (T1.setTop (mkF m 6 #[.val (.int p0), .val (.ref a1), .unset, .unset, .unset] [(.ref b1)])) t
    refine XS.astoreN X1.here hx rfl (hb hby own_d1_6) rfl rfl (l' := #[.val (.int p0), .val (.ref a1), .val (.ref b1), .unset, .unset]) rfl ?_
    show Steps p.tables e below (T1.setTop (mkF m 7 #[.val (.int p0), .val (.ref a1), .val (.ref b1), .unset, .unset] [])) t
    refine XS.iconst X1.here hx rfl (hb hby own_d1_7) ?_
    show Steps p.tables e below (T1.setTop (mkF m 8 #[.val (.int p0), .val (.ref a1), .val (.ref b1), .unset, .unset] [(.int (0 : Int32))])) t
    refine XS.istoreN X1.here hx rfl (hb hby own_d1_8) rfl (l' := #[.val (.int p0), .val (.ref a1), .val (.ref b1), .val (.int (0 : Int32)), .unset]) rfl ?_
    show Steps p.tables e below (T1.setTop (mkF m 9 #[.val (.int p0), .val (.ref a1), .val (.ref b1), .val (.int (0 : Int32)), .unset] [])) t
    exact k
  have j9 : ∀ (n : Nat) (T : State) (Lc : List Loc) (X : Stand p l e ({ frames := 0, cells := 1, slots := 12, locals := 0 } : Room) s m #[(.int p0), (.ref a1)] below meth c T Lc 1 12) (v9_3 : Int32) (s9_4 : Slot) (hh9 : Heap) (eT : T.heap = hh9) (N : Fr n0 Lc) (Zl9 : n0 ≤ hh9.size) (Kl9 : Keep h0 hh9 []) (Gl9_0 : AI Z hh9 a1 .int nc fv) (Gl9_1 : AI Z hh9 b1 .byte (p0 * zc).toNatClampNeg (own_g p0 fv (own_m p0 v9_3 (0 : Int32)))) (H_s9_4 : One s9_4) (hv9 : own_inv zc v9_3 n), Owe p e below s ({ frames := 0, cells := 1, slots := 12, locals := 0 } : Room).cells ({ frames := 0, cells := 1, slots := 12, locals := 0 } : Room).slots (own_Q1 Z p0 a1 nc fv zc h0 n0) T (mkF m 9 #[.val (.int p0), .val (.ref a1), .val (.ref b1), .val (.int v9_3), s9_4] []) := by
    intro n
    induction n with
    | zero =>
      intro T9j Lc9j X9j v9_3 s9_4 hh9 e9j N9j Zl9 Kl9 Gl9_0 Gl9_1 H_s9_4 hv9
      refine Owe.ret X9j Bd.notSynchronized (v := (some (.ref b1))) (fun h => by rw [Bd.returns] at h; cases h) (fun fs hr => ?_) (by rw [e9j]; exact ⟨b1, rfl, N9j, Kl9, sz_b1, (own_fin hv9 (by first | exact hc12 | exact own_z hv9) Gl9_1)⟩) (by decide) (by decide)
      show Steps p.tables e below (T9j.setTop (mkF m 9 #[.val (.int p0), .val (.ref a1), .val (.ref b1), .val (.int v9_3), s9_4] [])) _
      refine XS.iloadN X9j.here hx rfl (hb hby own_d1_9) rfl ?_
      show Steps p.tables e below (T9j.setTop (mkF m 10 #[.val (.int p0), .val (.ref a1), .val (.ref b1), .val (.int v9_3), s9_4] [(.int v9_3)])) _
      refine XS.aloadN X9j.here hx rfl (hb hby own_d1_10) rfl rfl ?_
      show Steps p.tables e below (T9j.setTop (mkF m 11 #[.val (.int p0), .val (.ref a1), .val (.ref b1), .val (.int v9_3), s9_4] [(.ref a1), (.int v9_3)])) _
      refine lenA X9j hx hZ e9j Gl9_0 (z := zc) hz (g := (mkF m 11 #[.val (.int p0), .val (.ref a1), .val (.ref b1), .val (.int v9_3), s9_4] [(.ref a1), (.int v9_3)])) rfl rfl (hb hby own_d1_11) _ ?_
      show Steps p.tables e below (T9j.setTop (mkF m 12 #[.val (.int p0), .val (.ref a1), .val (.ref b1), .val (.int v9_3), s9_4] [(.int zc), (.int v9_3)])) _
      refine XS.icmpYes X9j.here hx rfl (pc0 := 12) (pc' := 58) rfl (hb hby own_d1_12) rfl (flt (own_z hv9)).2.1 (by decide) (by decide) ?_
      show Steps p.tables e below (T9j.setTop (mkF m 58 #[.val (.int p0), .val (.ref a1), .val (.ref b1), .val (.int v9_3), s9_4] [])) _
      refine XS.aloadN X9j.here hx rfl (hb hby own_d1_58) rfl rfl ?_
      show Steps p.tables e below (T9j.setTop (mkF m 59 #[.val (.int p0), .val (.ref a1), .val (.ref b1), .val (.int v9_3), s9_4] [(.ref b1)])) _
      exact retA X9j hx Bd.returns rfl rfl (hb hby own_d1_59) hr
    | succ n ih9 =>
      intro T9j Lc9j X9j v9_3 s9_4 hh9 e9j N9j Zl9 Kl9 Gl9_0 Gl9_1 H_s9_4 hv9
      refine Owe.step (T' := T9j) (g' := (mkF m 12 #[.val (.int p0), .val (.ref a1), .val (.ref b1), .val (.int v9_3), s9_4] [(.int zc), (.int v9_3)])) (fun t k => ?_) ?_
      · show Steps p.tables e below (T9j.setTop (mkF m 9 #[.val (.int p0), .val (.ref a1), .val (.ref b1), .val (.int v9_3), s9_4] [])) t
        refine XS.iloadN X9j.here hx rfl (hb hby own_d1_9) rfl ?_
        show Steps p.tables e below (T9j.setTop (mkF m 10 #[.val (.int p0), .val (.ref a1), .val (.ref b1), .val (.int v9_3), s9_4] [(.int v9_3)])) t
        refine XS.aloadN X9j.here hx rfl (hb hby own_d1_10) rfl rfl ?_
        show Steps p.tables e below (T9j.setTop (mkF m 11 #[.val (.int p0), .val (.ref a1), .val (.ref b1), .val (.int v9_3), s9_4] [(.ref a1), (.int v9_3)])) t
        refine lenA X9j hx hZ e9j Gl9_0 (z := zc) hz (g := (mkF m 11 #[.val (.int p0), .val (.ref a1), .val (.ref b1), .val (.int v9_3), s9_4] [(.ref a1), (.int v9_3)])) rfl rfl (hb hby own_d1_11) _ ?_
        show Steps p.tables e below (T9j.setTop (mkF m 12 #[.val (.int p0), .val (.ref a1), .val (.ref b1), .val (.int v9_3), s9_4] [(.int zc), (.int v9_3)])) t
        exact k
      by_cases hc12 : v9_3 < zc
      · refine Owe.step (T' := T9j) (g' := (mkF m 15 #[.val (.int p0), .val (.ref a1), .val (.ref b1), .val (.int v9_3), s9_4] [])) (fun t k => ?_) ?_
        · show Steps p.tables e below (T9j.setTop (mkF m 12 #[.val (.int p0), .val (.ref a1), .val (.ref b1), .val (.int v9_3), s9_4] [(.int zc), (.int v9_3)])) t
          refine XS.icmpNo X9j.here hx rfl (hb hby own_d1_12) rfl (tlt hc12).2.1 ?_
          show Steps p.tables e below (T9j.setTop (mkF m 15 #[.val (.int p0), .val (.ref a1), .val (.ref b1), .val (.int v9_3), s9_4] [])) t
          exact k
        refine Owe.step (T' := T9j) (g' := (mkF m 18 #[.val (.int p0), .val (.ref a1), .val (.ref b1), .val (.int v9_3), .val (.int (0 : Int32))] [])) (fun t k => ?_) ?_
        · show Steps p.tables e below (T9j.setTop (mkF m 15 #[.val (.int p0), .val (.ref a1), .val (.ref b1), .val (.int v9_3), s9_4] [])) t
          refine XS.iconst X9j.here hx rfl (hb hby own_d1_15) ?_
          show Steps p.tables e below (T9j.setTop (mkF m 16 #[.val (.int p0), .val (.ref a1), .val (.ref b1), .val (.int v9_3), s9_4] [(.int (0 : Int32))])) t
          refine XS.istore X9j.here hx rfl (hb hby own_d1_16) rfl (l' := #[.val (.int p0), .val (.ref a1), .val (.ref b1), .val (.int v9_3), .val (.int (0 : Int32))]) (own_st1_16 H_s9_4) ?_
          show Steps p.tables e below (T9j.setTop (mkF m 18 #[.val (.int p0), .val (.ref a1), .val (.ref b1), .val (.int v9_3), .val (.int (0 : Int32))] [])) t
          exact k
        have j18 : ∀ (n : Nat) (T : State) (Lc : List Loc) (X : Stand p l e ({ frames := 0, cells := 1, slots := 12, locals := 0 } : Room) s m #[(.int p0), (.ref a1)] below meth c T Lc 1 12) (v18_4 : Int32) (hh18 : Heap) (eT : T.heap = hh18) (N : Fr n0 Lc) (Zl18 : n0 ≤ hh18.size) (Kl18 : Keep h0 hh18 []) (Gl18_0 : AI Z hh18 a1 .int nc fv) (Gl18_1 : AI Z hh18 b1 .byte (p0 * zc).toNatClampNeg (own_g p0 fv (own_m p0 v9_3 v18_4))) (hv18 : own_inv p0 v18_4 n), Owe p e below s ({ frames := 0, cells := 1, slots := 12, locals := 0 } : Room).cells ({ frames := 0, cells := 1, slots := 12, locals := 0 } : Room).slots (own_Q1 Z p0 a1 nc fv zc h0 n0) T (mkF m 18 #[.val (.int p0), .val (.ref a1), .val (.ref b1), .val (.int v9_3), .val (.int v18_4)] []) := by
          intro n
          induction n with
          | zero =>
            intro T18j Lc18j X18j v18_4 hh18 e18j N18j Zl18 Kl18 Gl18_0 Gl18_1 hv18
            refine Owe.step (T' := T18j) (g' := (mkF m 9 #[.val (.int p0), .val (.ref a1), .val (.ref b1), .val (.int (v9_3 + (1 : Int32))), .val (.int v18_4)] [])) (fun t k => ?_) ?_
            · show Steps p.tables e below (T18j.setTop (mkF m 18 #[.val (.int p0), .val (.ref a1), .val (.ref b1), .val (.int v9_3), .val (.int v18_4)] [])) t
              refine XS.iload X18j.here hx rfl (hb hby own_d1_18) rfl ?_
              show Steps p.tables e below (T18j.setTop (mkF m 20 #[.val (.int p0), .val (.ref a1), .val (.ref b1), .val (.int v9_3), .val (.int v18_4)] [(.int v18_4)])) t
              refine XS.iloadN X18j.here hx rfl (hb hby own_d1_20) rfl ?_
              show Steps p.tables e below (T18j.setTop (mkF m 21 #[.val (.int p0), .val (.ref a1), .val (.ref b1), .val (.int v9_3), .val (.int v18_4)] [(.int p0), (.int v18_4)])) t
              refine XS.icmpYes X18j.here hx rfl (pc0 := 21) (pc' := 52) rfl (hb hby own_d1_21) rfl (flt (own_z hv18)).2.1 (by decide) (by decide) ?_
              show Steps p.tables e below (T18j.setTop (mkF m 52 #[.val (.int p0), .val (.ref a1), .val (.ref b1), .val (.int v9_3), .val (.int v18_4)] [])) t
              refine XS.iinc X18j.here hx rfl (hb hby own_d1_52) rfl (l' := #[.val (.int p0), .val (.ref a1), .val (.ref b1), .val (.int (v9_3 + (1 : Int32))), .val (.int v18_4)]) rfl ?_
              show Steps p.tables e below (T18j.setTop (mkF m 55 #[.val (.int p0), .val (.ref a1), .val (.ref b1), .val (.int (v9_3 + (1 : Int32))), .val (.int v18_4)] [])) t
              refine XS.goto X18j.here hx rfl (pc0 := 55) (pc' := 9) rfl (hb hby own_d1_55) (by decide) (by decide) ?_
              show Steps p.tables e below (T18j.setTop (mkF m 9 #[.val (.int p0), .val (.ref a1), .val (.ref b1), .val (.int (v9_3 + (1 : Int32))), .val (.int v18_4)] [])) t
              exact k
            exact ih9 T18j _ X18j (v9_3 + (1 : Int32)) (.val (.int v18_4)) hh18 e18j N18j Zl18 Kl18 Gl18_0 (own_gn hW hv18 (by first | exact hc21 | exact own_z hv18) hv9 hc12 hz2 hc3 Gl18_1) (by first | exact One.u | exact One.val rfl) (own_v1 hv9 hz2 hc3 hc12)
          | succ n ih18 =>
            intro T18j Lc18j X18j v18_4 hh18 e18j N18j Zl18 Kl18 Gl18_0 Gl18_1 hv18
            refine Owe.step (T' := T18j) (g' := (mkF m 21 #[.val (.int p0), .val (.ref a1), .val (.ref b1), .val (.int v9_3), .val (.int v18_4)] [(.int p0), (.int v18_4)])) (fun t k => ?_) ?_
            · show Steps p.tables e below (T18j.setTop (mkF m 18 #[.val (.int p0), .val (.ref a1), .val (.ref b1), .val (.int v9_3), .val (.int v18_4)] [])) t
              refine XS.iload X18j.here hx rfl (hb hby own_d1_18) rfl ?_
              show Steps p.tables e below (T18j.setTop (mkF m 20 #[.val (.int p0), .val (.ref a1), .val (.ref b1), .val (.int v9_3), .val (.int v18_4)] [(.int v18_4)])) t
              refine XS.iloadN X18j.here hx rfl (hb hby own_d1_20) rfl ?_
              show Steps p.tables e below (T18j.setTop (mkF m 21 #[.val (.int p0), .val (.ref a1), .val (.ref b1), .val (.int v9_3), .val (.int v18_4)] [(.int p0), (.int v18_4)])) t
              exact k
            by_cases hc21 : v18_4 < p0
            · refine Owe.step (T' := T18j) (g' := (mkF m 24 #[.val (.int p0), .val (.ref a1), .val (.ref b1), .val (.int v9_3), .val (.int v18_4)] [])) (fun t k => ?_) ?_
              · show Steps p.tables e below (T18j.setTop (mkF m 21 #[.val (.int p0), .val (.ref a1), .val (.ref b1), .val (.int v9_3), .val (.int v18_4)] [(.int p0), (.int v18_4)])) t
                refine XS.icmpNo X18j.here hx rfl (hb hby own_d1_21) rfl (tlt hc21).2.1 ?_
                show Steps p.tables e below (T18j.setTop (mkF m 24 #[.val (.int p0), .val (.ref a1), .val (.ref b1), .val (.int v9_3), .val (.int v18_4)] [])) t
                exact k
              obtain ⟨T2, h2, X2, e2, W2, V2, st2⟩ := stAB X18j hx hZ e18j Gl18_1 (j := ((v9_3 * p0) + v18_4)) (own_ix45 hW hz2 hc3 hv9 hc12 hv18 hc21).1 (own_ix45 hW hz2 hc3 hv9 hc12 hv18 hc21).2 (g := (mkF m 45 #[.val (.int p0), .val (.ref a1), .val (.ref b1), .val (.int v9_3), .val (.int v18_4)] [(.int (((fv (v9_3).toNatClampNeg) >>> (((8 : Int32) * ((p0 - (1 : Int32)) - v18_4)) &&& 31)).toInt8.toInt32)), (.int ((v9_3 * p0) + v18_4)), (.ref b1)])) rfl rfl (hb hby own_d1_45)
              have Gl18_0_w2 := Gl18_0.other W2 ne_a1_b1
              have K2 := Kl18.wr W2 (Or.inr sz_b1)
              have N2 := Fr.snoc X2 N18j g_b1
              have Zn2 : n0 ≤ h2.size := Nat.le_trans Zl18 (Keep.of_wr W2).1
              refine Owe.step (T' := T2) (g' := (mkF m 18 #[.val (.int p0), .val (.ref a1), .val (.ref b1), .val (.int v9_3), .val (.int (v18_4 + (1 : Int32)))] [])) (fun t k => ?_) ?_
              · show Steps p.tables e below (T18j.setTop (mkF m 24 #[.val (.int p0), .val (.ref a1), .val (.ref b1), .val (.int v9_3), .val (.int v18_4)] [])) t
                refine XS.aloadN X18j.here hx rfl (hb hby own_d1_24) rfl rfl ?_
                show Steps p.tables e below (T18j.setTop (mkF m 25 #[.val (.int p0), .val (.ref a1), .val (.ref b1), .val (.int v9_3), .val (.int v18_4)] [(.ref b1)])) t
                refine XS.iloadN X18j.here hx rfl (hb hby own_d1_25) rfl ?_
                show Steps p.tables e below (T18j.setTop (mkF m 26 #[.val (.int p0), .val (.ref a1), .val (.ref b1), .val (.int v9_3), .val (.int v18_4)] [(.int v9_3), (.ref b1)])) t
                refine XS.iloadN X18j.here hx rfl (hb hby own_d1_26) rfl ?_
                show Steps p.tables e below (T18j.setTop (mkF m 27 #[.val (.int p0), .val (.ref a1), .val (.ref b1), .val (.int v9_3), .val (.int v18_4)] [(.int p0), (.int v9_3), (.ref b1)])) t
                refine XS.imul X18j.here hx rfl (hb hby own_d1_27) rfl ?_
                show Steps p.tables e below (T18j.setTop (mkF m 28 #[.val (.int p0), .val (.ref a1), .val (.ref b1), .val (.int v9_3), .val (.int v18_4)] [(.int (v9_3 * p0)), (.ref b1)])) t
                refine XS.iload X18j.here hx rfl (hb hby own_d1_28) rfl ?_
                show Steps p.tables e below (T18j.setTop (mkF m 30 #[.val (.int p0), .val (.ref a1), .val (.ref b1), .val (.int v9_3), .val (.int v18_4)] [(.int v18_4), (.int (v9_3 * p0)), (.ref b1)])) t
                refine XS.iadd X18j.here hx rfl (hb hby own_d1_30) rfl ?_
                show Steps p.tables e below (T18j.setTop (mkF m 31 #[.val (.int p0), .val (.ref a1), .val (.ref b1), .val (.int v9_3), .val (.int v18_4)] [(.int ((v9_3 * p0) + v18_4)), (.ref b1)])) t
                refine XS.aloadN X18j.here hx rfl (hb hby own_d1_31) rfl rfl ?_
                show Steps p.tables e below (T18j.setTop (mkF m 32 #[.val (.int p0), .val (.ref a1), .val (.ref b1), .val (.int v9_3), .val (.int v18_4)] [(.ref a1), (.int ((v9_3 * p0) + v18_4)), (.ref b1)])) t
                refine XS.iloadN X18j.here hx rfl (hb hby own_d1_32) rfl ?_
                show Steps p.tables e below (T18j.setTop (mkF m 33 #[.val (.int p0), .val (.ref a1), .val (.ref b1), .val (.int v9_3), .val (.int v18_4)] [(.int v9_3), (.ref a1), (.int ((v9_3 * p0) + v18_4)), (.ref b1)])) t
                refine ldAI X18j hx hZ e18j Gl18_0 (j := v9_3) (own_i33 hv9 hz2 hc12).1 (own_i33 hv9 hz2 hc12).2 (g := (mkF m 33 #[.val (.int p0), .val (.ref a1), .val (.ref b1), .val (.int v9_3), .val (.int v18_4)] [(.int v9_3), (.ref a1), (.int ((v9_3 * p0) + v18_4)), (.ref b1)])) rfl rfl (hb hby own_d1_33) _ ?_
                show Steps p.tables e below (T18j.setTop (mkF m 34 #[.val (.int p0), .val (.ref a1), .val (.ref b1), .val (.int v9_3), .val (.int v18_4)] [(.int (fv (v9_3).toNatClampNeg)), (.int ((v9_3 * p0) + v18_4)), (.ref b1)])) t
                refine XS.bipush X18j.here hx rfl (hb hby own_d1_34) ?_
                show Steps p.tables e below (T18j.setTop (mkF m 36 #[.val (.int p0), .val (.ref a1), .val (.ref b1), .val (.int v9_3), .val (.int v18_4)] [(.int (8 : Int32)), (.int (fv (v9_3).toNatClampNeg)), (.int ((v9_3 * p0) + v18_4)), (.ref b1)])) t
                refine XS.iloadN X18j.here hx rfl (hb hby own_d1_36) rfl ?_
                show Steps p.tables e below (T18j.setTop (mkF m 37 #[.val (.int p0), .val (.ref a1), .val (.ref b1), .val (.int v9_3), .val (.int v18_4)] [(.int p0), (.int (8 : Int32)), (.int (fv (v9_3).toNatClampNeg)), (.int ((v9_3 * p0) + v18_4)), (.ref b1)])) t
                refine XS.iconst X18j.here hx rfl (hb hby own_d1_37) ?_
                show Steps p.tables e below (T18j.setTop (mkF m 38 #[.val (.int p0), .val (.ref a1), .val (.ref b1), .val (.int v9_3), .val (.int v18_4)] [(.int (1 : Int32)), (.int p0), (.int (8 : Int32)), (.int (fv (v9_3).toNatClampNeg)), (.int ((v9_3 * p0) + v18_4)), (.ref b1)])) t
                refine XS.isub X18j.here hx rfl (hb hby own_d1_38) rfl ?_
                show Steps p.tables e below (T18j.setTop (mkF m 39 #[.val (.int p0), .val (.ref a1), .val (.ref b1), .val (.int v9_3), .val (.int v18_4)] [(.int (p0 - (1 : Int32))), (.int (8 : Int32)), (.int (fv (v9_3).toNatClampNeg)), (.int ((v9_3 * p0) + v18_4)), (.ref b1)])) t
                refine XS.iload X18j.here hx rfl (hb hby own_d1_39) rfl ?_
                show Steps p.tables e below (T18j.setTop (mkF m 41 #[.val (.int p0), .val (.ref a1), .val (.ref b1), .val (.int v9_3), .val (.int v18_4)] [(.int v18_4), (.int (p0 - (1 : Int32))), (.int (8 : Int32)), (.int (fv (v9_3).toNatClampNeg)), (.int ((v9_3 * p0) + v18_4)), (.ref b1)])) t
                refine XS.isub X18j.here hx rfl (hb hby own_d1_41) rfl ?_
                show Steps p.tables e below (T18j.setTop (mkF m 42 #[.val (.int p0), .val (.ref a1), .val (.ref b1), .val (.int v9_3), .val (.int v18_4)] [(.int ((p0 - (1 : Int32)) - v18_4)), (.int (8 : Int32)), (.int (fv (v9_3).toNatClampNeg)), (.int ((v9_3 * p0) + v18_4)), (.ref b1)])) t
                refine XS.imul X18j.here hx rfl (hb hby own_d1_42) rfl ?_
                show Steps p.tables e below (T18j.setTop (mkF m 43 #[.val (.int p0), .val (.ref a1), .val (.ref b1), .val (.int v9_3), .val (.int v18_4)] [(.int ((8 : Int32) * ((p0 - (1 : Int32)) - v18_4))), (.int (fv (v9_3).toNatClampNeg)), (.int ((v9_3 * p0) + v18_4)), (.ref b1)])) t
                refine XS.ishr X18j.here hx rfl (hb hby own_d1_43) rfl ?_
                show Steps p.tables e below (T18j.setTop (mkF m 44 #[.val (.int p0), .val (.ref a1), .val (.ref b1), .val (.int v9_3), .val (.int v18_4)] [(.int ((fv (v9_3).toNatClampNeg) >>> (((8 : Int32) * ((p0 - (1 : Int32)) - v18_4)) &&& 31))), (.int ((v9_3 * p0) + v18_4)), (.ref b1)])) t
                refine XS.i2b X18j.here hx rfl (hb hby own_d1_44) rfl ?_
                show Steps p.tables e below (T18j.setTop (mkF m 45 #[.val (.int p0), .val (.ref a1), .val (.ref b1), .val (.int v9_3), .val (.int v18_4)] [(.int (((fv (v9_3).toNatClampNeg) >>> (((8 : Int32) * ((p0 - (1 : Int32)) - v18_4)) &&& 31)).toInt8.toInt32)), (.int ((v9_3 * p0) + v18_4)), (.ref b1)])) t
                refine st2 _ ?_
                show Steps p.tables e below (T2.setTop (mkF m 46 #[.val (.int p0), .val (.ref a1), .val (.ref b1), .val (.int v9_3), .val (.int v18_4)] [])) t
                refine XS.iinc X2.here hx rfl (hb hby own_d1_46) rfl (l' := #[.val (.int p0), .val (.ref a1), .val (.ref b1), .val (.int v9_3), .val (.int (v18_4 + (1 : Int32)))]) rfl ?_
                show Steps p.tables e below (T2.setTop (mkF m 49 #[.val (.int p0), .val (.ref a1), .val (.ref b1), .val (.int v9_3), .val (.int (v18_4 + (1 : Int32)))] [])) t
                refine XS.goto X2.here hx rfl (pc0 := 49) (pc' := 18) rfl (hb hby own_d1_49) (by decide) (by decide) ?_
                show Steps p.tables e below (T2.setTop (mkF m 18 #[.val (.int p0), .val (.ref a1), .val (.ref b1), .val (.int v9_3), .val (.int (v18_4 + (1 : Int32)))] [])) t
                exact k
              exact ih18 T2 _ X2 (v18_4 + (1 : Int32)) h2 e2 N2 Zn2 K2 Gl18_0_w2 (own_gs hW hz2 hc3 hv9 hc12 hv18 hc21 V2) (own_v1w hv18 hW hc21)
            · refine Owe.step (T' := T18j) (g' := (mkF m 52 #[.val (.int p0), .val (.ref a1), .val (.ref b1), .val (.int v9_3), .val (.int v18_4)] [])) (fun t k => ?_) ?_
              · show Steps p.tables e below (T18j.setTop (mkF m 21 #[.val (.int p0), .val (.ref a1), .val (.ref b1), .val (.int v9_3), .val (.int v18_4)] [(.int p0), (.int v18_4)])) t
                refine XS.icmpYes X18j.here hx rfl (pc0 := 21) (pc' := 52) rfl (hb hby own_d1_21) rfl (flt hc21).2.1 (by decide) (by decide) ?_
                show Steps p.tables e below (T18j.setTop (mkF m 52 #[.val (.int p0), .val (.ref a1), .val (.ref b1), .val (.int v9_3), .val (.int v18_4)] [])) t
                exact k
              refine Owe.step (T' := T18j) (g' := (mkF m 9 #[.val (.int p0), .val (.ref a1), .val (.ref b1), .val (.int (v9_3 + (1 : Int32))), .val (.int v18_4)] [])) (fun t k => ?_) ?_
              · show Steps p.tables e below (T18j.setTop (mkF m 52 #[.val (.int p0), .val (.ref a1), .val (.ref b1), .val (.int v9_3), .val (.int v18_4)] [])) t
                refine XS.iinc X18j.here hx rfl (hb hby own_d1_52) rfl (l' := #[.val (.int p0), .val (.ref a1), .val (.ref b1), .val (.int (v9_3 + (1 : Int32))), .val (.int v18_4)]) rfl ?_
                show Steps p.tables e below (T18j.setTop (mkF m 55 #[.val (.int p0), .val (.ref a1), .val (.ref b1), .val (.int (v9_3 + (1 : Int32))), .val (.int v18_4)] [])) t
                refine XS.goto X18j.here hx rfl (pc0 := 55) (pc' := 9) rfl (hb hby own_d1_55) (by decide) (by decide) ?_
                show Steps p.tables e below (T18j.setTop (mkF m 9 #[.val (.int p0), .val (.ref a1), .val (.ref b1), .val (.int (v9_3 + (1 : Int32))), .val (.int v18_4)] [])) t
                exact k
              exact ih9 T18j _ X18j (v9_3 + (1 : Int32)) (.val (.int v18_4)) hh18 e18j N18j Zl18 Kl18 Gl18_0 (own_gn hW hv18 (by first | exact hc21 | exact own_z hv18) hv9 hc12 hz2 hc3 Gl18_1) (by first | exact One.u | exact One.val rfl) (own_v1 hv9 hz2 hc3 hc12)
        exact j18 4 T9j _ X9j (0 : Int32) hh9 e9j N9j Zl9 Kl9 Gl9_0 Gl9_1 (own_v0w hW)
      · refine Owe.step (T' := T9j) (g' := (mkF m 58 #[.val (.int p0), .val (.ref a1), .val (.ref b1), .val (.int v9_3), s9_4] [])) (fun t k => ?_) ?_
        · show Steps p.tables e below (T9j.setTop (mkF m 12 #[.val (.int p0), .val (.ref a1), .val (.ref b1), .val (.int v9_3), s9_4] [(.int zc), (.int v9_3)])) t
          refine XS.icmpYes X9j.here hx rfl (pc0 := 12) (pc' := 58) rfl (hb hby own_d1_12) rfl (flt hc12).2.1 (by decide) (by decide) ?_
          show Steps p.tables e below (T9j.setTop (mkF m 58 #[.val (.int p0), .val (.ref a1), .val (.ref b1), .val (.int v9_3), s9_4] [])) t
          exact k
        refine Owe.ret X9j Bd.notSynchronized (v := (some (.ref b1))) (fun h => by rw [Bd.returns] at h; cases h) (fun fs hr => ?_) (by rw [e9j]; exact ⟨b1, rfl, N9j, Kl9, sz_b1, (own_fin hv9 (by first | exact hc12 | exact own_z hv9) Gl9_1)⟩) (by decide) (by decide)
        show Steps p.tables e below (T9j.setTop (mkF m 58 #[.val (.int p0), .val (.ref a1), .val (.ref b1), .val (.int v9_3), s9_4] [])) _
        refine XS.aloadN X9j.here hx rfl (hb hby own_d1_58) rfl rfl ?_
        show Steps p.tables e below (T9j.setTop (mkF m 59 #[.val (.int p0), .val (.ref a1), .val (.ref b1), .val (.int v9_3), s9_4] [(.ref b1)])) _
        exact retA X9j hx Bd.returns rfl rfl (hb hby own_d1_59) hr
  exact j9 3 T1 _ X1 (0 : Int32) .unset h1 e1 N0 Zn1 K1 A_vs_x1 (own_g0 V1) (by first | exact One.u | exact One.val rfl) (own_v0 hz2 hc3)
theorem own_d2_0 : decode method_3_code 0 = .ok (.iconst 0, 1) := by decide +kernel
theorem own_d2_1 : decode method_3_code 1 = .ok (.istore_n 3, 1) := by decide +kernel
theorem own_d2_2 : decode method_3_code 2 = .ok (.iload_n 2, 1) := by decide +kernel
theorem own_d2_3 : decode method_3_code 3 = .ok (.iconst 1, 1) := by decide +kernel
theorem own_d2_4 : decode method_3_code 4 = .ok (.if_icmp .lt 11, 3) := by decide +kernel
theorem own_d2_7 : decode method_3_code 7 = .ok (.aload_n 0, 1) := by decide +kernel
theorem own_d2_8 : decode method_3_code 8 = .ok (.iload_n 1, 1) := by decide +kernel
theorem own_d2_9 : decode method_3_code 9 = .ok (.baload, 1) := by decide +kernel
theorem own_d2_10 : decode method_3_code 10 = .ok (.sipush 255, 3) := by decide +kernel
theorem own_d2_13 : decode method_3_code 13 = .ok (.iand, 1) := by decide +kernel
theorem own_d2_14 : decode method_3_code 14 = .ok (.istore_n 3, 1) := by decide +kernel
theorem own_d2_15 : decode method_3_code 15 = .ok (.iload_n 2, 1) := by decide +kernel
theorem own_d2_16 : decode method_3_code 16 = .ok (.iconst 2, 1) := by decide +kernel
theorem own_d2_17 : decode method_3_code 17 = .ok (.if_icmp .lt 18, 3) := by decide +kernel
theorem own_d2_20 : decode method_3_code 20 = .ok (.iload_n 3, 1) := by decide +kernel
theorem own_d2_21 : decode method_3_code 21 = .ok (.bipush 8, 2) := by decide +kernel
theorem own_d2_23 : decode method_3_code 23 = .ok (.ishl, 1) := by decide +kernel
theorem own_d2_24 : decode method_3_code 24 = .ok (.aload_n 0, 1) := by decide +kernel
theorem own_d2_25 : decode method_3_code 25 = .ok (.iload_n 1, 1) := by decide +kernel
theorem own_d2_26 : decode method_3_code 26 = .ok (.iconst 1, 1) := by decide +kernel
theorem own_d2_27 : decode method_3_code 27 = .ok (.iadd, 1) := by decide +kernel
theorem own_d2_28 : decode method_3_code 28 = .ok (.baload, 1) := by decide +kernel
theorem own_d2_29 : decode method_3_code 29 = .ok (.sipush 255, 3) := by decide +kernel
theorem own_d2_32 : decode method_3_code 32 = .ok (.iand, 1) := by decide +kernel
theorem own_d2_33 : decode method_3_code 33 = .ok (.ior, 1) := by decide +kernel
theorem own_d2_34 : decode method_3_code 34 = .ok (.istore_n 3, 1) := by decide +kernel
theorem own_d2_35 : decode method_3_code 35 = .ok (.iload_n 2, 1) := by decide +kernel
theorem own_d2_36 : decode method_3_code 36 = .ok (.iconst 3, 1) := by decide +kernel
theorem own_d2_37 : decode method_3_code 37 = .ok (.if_icmp .lt 18, 3) := by decide +kernel
theorem own_d2_40 : decode method_3_code 40 = .ok (.iload_n 3, 1) := by decide +kernel
theorem own_d2_41 : decode method_3_code 41 = .ok (.bipush 8, 2) := by decide +kernel
theorem own_d2_43 : decode method_3_code 43 = .ok (.ishl, 1) := by decide +kernel
theorem own_d2_44 : decode method_3_code 44 = .ok (.aload_n 0, 1) := by decide +kernel
theorem own_d2_45 : decode method_3_code 45 = .ok (.iload_n 1, 1) := by decide +kernel
theorem own_d2_46 : decode method_3_code 46 = .ok (.iconst 2, 1) := by decide +kernel
theorem own_d2_47 : decode method_3_code 47 = .ok (.iadd, 1) := by decide +kernel
theorem own_d2_48 : decode method_3_code 48 = .ok (.baload, 1) := by decide +kernel
theorem own_d2_49 : decode method_3_code 49 = .ok (.sipush 255, 3) := by decide +kernel
theorem own_d2_52 : decode method_3_code 52 = .ok (.iand, 1) := by decide +kernel
theorem own_d2_53 : decode method_3_code 53 = .ok (.ior, 1) := by decide +kernel
theorem own_d2_54 : decode method_3_code 54 = .ok (.istore_n 3, 1) := by decide +kernel
theorem own_d2_55 : decode method_3_code 55 = .ok (.iload_n 2, 1) := by decide +kernel
theorem own_d2_56 : decode method_3_code 56 = .ok (.iconst 4, 1) := by decide +kernel
theorem own_d2_57 : decode method_3_code 57 = .ok (.if_icmp .lt 18, 3) := by decide +kernel
theorem own_d2_60 : decode method_3_code 60 = .ok (.iload_n 3, 1) := by decide +kernel
theorem own_d2_61 : decode method_3_code 61 = .ok (.bipush 8, 2) := by decide +kernel
theorem own_d2_63 : decode method_3_code 63 = .ok (.ishl, 1) := by decide +kernel
theorem own_d2_64 : decode method_3_code 64 = .ok (.aload_n 0, 1) := by decide +kernel
theorem own_d2_65 : decode method_3_code 65 = .ok (.iload_n 1, 1) := by decide +kernel
theorem own_d2_66 : decode method_3_code 66 = .ok (.iconst 3, 1) := by decide +kernel
theorem own_d2_67 : decode method_3_code 67 = .ok (.iadd, 1) := by decide +kernel
theorem own_d2_68 : decode method_3_code 68 = .ok (.baload, 1) := by decide +kernel
theorem own_d2_69 : decode method_3_code 69 = .ok (.sipush 255, 3) := by decide +kernel
theorem own_d2_72 : decode method_3_code 72 = .ok (.iand, 1) := by decide +kernel
theorem own_d2_73 : decode method_3_code 73 = .ok (.ior, 1) := by decide +kernel
theorem own_d2_74 : decode method_3_code 74 = .ok (.istore_n 3, 1) := by decide +kernel
theorem own_d2_75 : decode method_3_code 75 = .ok (.iload_n 3, 1) := by decide +kernel
theorem own_d2_76 : decode method_3_code 76 = .ok (.ireturn, 1) := by decide +kernel
theorem own_pn1 : plainName "com/example/rasterline/rasterline/formats/png/KnownChunkPackedPinLaw" = true := by first | (simp [plainName, overriddenIn]; done) | decide +kernel
theorem own_ef2 (m : MethodId) (a0 : Addr) (p1 : Int32) (p2 : Int32) : entryFrame m #[(.ref a0), (.int p1), (.int p2)] 4 = mkF m 0 #[.val (.ref a0), .val (.int p1), .val (.int p2), .unset] [] := by first | (simp [entryFrame, mkF, argsToLocals, Value.category]; done) | rfl
def own_f2_55 (p1 : Int32) (p2 : Int32) (fb : Nat → Int32) (v55_3 : Int32) : Int32 := (if p2 < (4 : Int32) then v55_3 else ((v55_3 <<< ((8 : Int32) &&& 31)) ||| ((fb ((p1 + (3 : Int32))).toNatClampNeg) &&& (255 : Int32))))
def own_f2_35 (p1 : Int32) (p2 : Int32) (fb : Nat → Int32) (v35_3 : Int32) : Int32 := (if p2 < (3 : Int32) then (own_f2_55 p1 p2 fb v35_3) else (own_f2_55 p1 p2 fb ((v35_3 <<< ((8 : Int32) &&& 31)) ||| ((fb ((p1 + (2 : Int32))).toNatClampNeg) &&& (255 : Int32)))))
def own_f2_15 (p1 : Int32) (p2 : Int32) (fb : Nat → Int32) (v15_3 : Int32) : Int32 := (if p2 < (2 : Int32) then (own_f2_35 p1 p2 fb v15_3) else (own_f2_35 p1 p2 fb ((v15_3 <<< ((8 : Int32) &&& 31)) ||| ((fb ((p1 + (1 : Int32))).toNatClampNeg) &&& (255 : Int32)))))
def own_f2_0 (p1 : Int32) (p2 : Int32) (fb : Nat → Int32) : Int32 := (if p2 < (1 : Int32) then (own_f2_15 p1 p2 fb (0 : Int32)) else (own_f2_15 p1 p2 fb ((fb (p1).toNatClampNeg) &&& (255 : Int32))))
set_option maxRecDepth 65536 in
set_option maxHeartbeats 40000000 in
theorem own_rm2 (l : Launch) (Z : State) (aA : Array Value) (hw : ∀ d ∈ tables_1, d.before aA Z = true) (ws : List Jvm.Cond) (a0 : Addr) (p1 : Int32) (p2 : Int32) (nb : Nat) (fb : Nat → Int32) (h0 : Heap) (n0 : Nat) (Z0 : n0 ≤ h0.size) (A_b : AI Z h0 a0 .byte nb fb) (hB : own_rd p1 p2 nb) :
    MetFree l (⟨"com/example/rasterline/rasterline/formats/png/KnownChunkPackedPinLaw", "read", "([BII)I"⟩ : MethodName) (head1 (Jvm.Cond.code (⟨"com/example/rasterline/rasterline/formats/png/KnownChunkPackedPinLaw", "read", "([BII)I"⟩ : MethodName) method_3_code 4 (some .int) :: ws) ({ frames := 0, cells := 0, slots := 0, locals := 0 } : Room)) (fun a U => a = #[(.ref a0), (.int p1), (.int p2)] ∧ Z.Warmed39 U.vm ∧ U.heap = h0) (fun _ _ _ _ _ => True) (fun _ U o U' => ∃ v L, o = .returned v ∧ (QP (.int (own_f2_0 p1 p2 fb)) h0 n0) v U'.heap L ∧ FrameEnd U o U' L ({ frames := 0, cells := 0, slots := 0, locals := 0 } : Room).cells ({ frames := 0, cells := 0, slots := 0, locals := 0 } : Room).slots) := by
  refine MetFree.of_bodySF (plainFor_of_name own_pn1) hisR ?_
  intro p e s m args below meth c s₁ Bd hml0 hP hK
  obtain ⟨rfl, hZ, hh⟩ := hP
  have hx := Bd.exec
  have hby := Bd.bytes
  have hml : c.maxLocals = 4 := hml0
  have hown : s.vm.findClass "com/example/rasterline/rasterline/formats/png/KnownChunkPackedPinLaw" = some m.cls := findClass_of_methodNamed Bd.named
  have hnm := (name_of_methodNamed Bd.named Bd.method).1
  have X0 : Stand p l e ({ frames := 0, cells := 0, slots := 0, locals := 0 } : Room) s m #[(.ref a0), (.int p1), (.int p2)] below meth c s₁ [] 0 0 := Stand.of_body Bd
  have e0 : s₁.heap = h0 := by rw [← hh, Bd.state]; rfl
  have N0 := Fr.nil n0
  refine Owe.step (T := s₁) (T' := s₁) (g' := (mkF m 0 #[.val (.ref a0), .val (.int p1), .val (.int p2), .unset] [])) (fun t k => castTop (own_ef2 m a0 p1 p2) k) ?_
  refine Owe.step (T' := s₁) (g' := (mkF m 4 #[.val (.ref a0), .val (.int p1), .val (.int p2), .val (.int (0 : Int32))] [(.int (1 : Int32)), (.int p2)])) (fun t k => ?_) ?_
  · show Steps p.tables e below (s₁.setTop (mkF m 0 #[.val (.ref a0), .val (.int p1), .val (.int p2), .unset] [])) t
    refine XS.iconst X0.here hx rfl (hb hby own_d2_0) ?_
    show Steps p.tables e below (s₁.setTop (mkF m 1 #[.val (.ref a0), .val (.int p1), .val (.int p2), .unset] [(.int (0 : Int32))])) t
    refine XS.istoreN X0.here hx rfl (hb hby own_d2_1) rfl (l' := #[.val (.ref a0), .val (.int p1), .val (.int p2), .val (.int (0 : Int32))]) rfl ?_
    show Steps p.tables e below (s₁.setTop (mkF m 2 #[.val (.ref a0), .val (.int p1), .val (.int p2), .val (.int (0 : Int32))] [])) t
    refine XS.iloadN X0.here hx rfl (hb hby own_d2_2) rfl ?_
    show Steps p.tables e below (s₁.setTop (mkF m 3 #[.val (.ref a0), .val (.int p1), .val (.int p2), .val (.int (0 : Int32))] [(.int p2)])) t
    refine XS.iconst X0.here hx rfl (hb hby own_d2_3) ?_
    show Steps p.tables e below (s₁.setTop (mkF m 4 #[.val (.ref a0), .val (.int p1), .val (.int p2), .val (.int (0 : Int32))] [(.int (1 : Int32)), (.int p2)])) t
    exact k
  have j15 : ∀ (T : State) (Lc : List Loc) (X : Stand p l e ({ frames := 0, cells := 0, slots := 0, locals := 0 } : Room) s m #[(.ref a0), (.int p1), (.int p2)] below meth c T Lc 0 0) (v15_3 : Int32) (eT : T.heap = h0) (N : Fr n0 Lc), Owe p e below s ({ frames := 0, cells := 0, slots := 0, locals := 0 } : Room).cells ({ frames := 0, cells := 0, slots := 0, locals := 0 } : Room).slots (QP (.int (own_f2_15 p1 p2 fb v15_3)) h0 n0) T (mkF m 15 #[.val (.ref a0), .val (.int p1), .val (.int p2), .val (.int v15_3)] []) := by
    intro T15j Lc15j X15j v15_3 e15j N15j
    refine Owe.step (T' := T15j) (g' := (mkF m 17 #[.val (.ref a0), .val (.int p1), .val (.int p2), .val (.int v15_3)] [(.int (2 : Int32)), (.int p2)])) (fun t k => ?_) ?_
    · show Steps p.tables e below (T15j.setTop (mkF m 15 #[.val (.ref a0), .val (.int p1), .val (.int p2), .val (.int v15_3)] [])) t
      refine XS.iloadN X15j.here hx rfl (hb hby own_d2_15) rfl ?_
      show Steps p.tables e below (T15j.setTop (mkF m 16 #[.val (.ref a0), .val (.int p1), .val (.int p2), .val (.int v15_3)] [(.int p2)])) t
      refine XS.iconst X15j.here hx rfl (hb hby own_d2_16) ?_
      show Steps p.tables e below (T15j.setTop (mkF m 17 #[.val (.ref a0), .val (.int p1), .val (.int p2), .val (.int v15_3)] [(.int (2 : Int32)), (.int p2)])) t
      exact k
    have j35 : ∀ (T : State) (Lc : List Loc) (X : Stand p l e ({ frames := 0, cells := 0, slots := 0, locals := 0 } : Room) s m #[(.ref a0), (.int p1), (.int p2)] below meth c T Lc 0 0) (v35_3 : Int32) (eT : T.heap = h0) (N : Fr n0 Lc), Owe p e below s ({ frames := 0, cells := 0, slots := 0, locals := 0 } : Room).cells ({ frames := 0, cells := 0, slots := 0, locals := 0 } : Room).slots (QP (.int (own_f2_35 p1 p2 fb v35_3)) h0 n0) T (mkF m 35 #[.val (.ref a0), .val (.int p1), .val (.int p2), .val (.int v35_3)] []) := by
      intro T35j Lc35j X35j v35_3 e35j N35j
      refine Owe.step (T' := T35j) (g' := (mkF m 37 #[.val (.ref a0), .val (.int p1), .val (.int p2), .val (.int v35_3)] [(.int (3 : Int32)), (.int p2)])) (fun t k => ?_) ?_
      · show Steps p.tables e below (T35j.setTop (mkF m 35 #[.val (.ref a0), .val (.int p1), .val (.int p2), .val (.int v35_3)] [])) t
        refine XS.iloadN X35j.here hx rfl (hb hby own_d2_35) rfl ?_
        show Steps p.tables e below (T35j.setTop (mkF m 36 #[.val (.ref a0), .val (.int p1), .val (.int p2), .val (.int v35_3)] [(.int p2)])) t
        refine XS.iconst X35j.here hx rfl (hb hby own_d2_36) ?_
        show Steps p.tables e below (T35j.setTop (mkF m 37 #[.val (.ref a0), .val (.int p1), .val (.int p2), .val (.int v35_3)] [(.int (3 : Int32)), (.int p2)])) t
        exact k
      have j55 : ∀ (T : State) (Lc : List Loc) (X : Stand p l e ({ frames := 0, cells := 0, slots := 0, locals := 0 } : Room) s m #[(.ref a0), (.int p1), (.int p2)] below meth c T Lc 0 0) (v55_3 : Int32) (eT : T.heap = h0) (N : Fr n0 Lc), Owe p e below s ({ frames := 0, cells := 0, slots := 0, locals := 0 } : Room).cells ({ frames := 0, cells := 0, slots := 0, locals := 0 } : Room).slots (QP (.int (own_f2_55 p1 p2 fb v55_3)) h0 n0) T (mkF m 55 #[.val (.ref a0), .val (.int p1), .val (.int p2), .val (.int v55_3)] []) := by
        intro T55j Lc55j X55j v55_3 e55j N55j
        refine Owe.step (T' := T55j) (g' := (mkF m 57 #[.val (.ref a0), .val (.int p1), .val (.int p2), .val (.int v55_3)] [(.int (4 : Int32)), (.int p2)])) (fun t k => ?_) ?_
        · show Steps p.tables e below (T55j.setTop (mkF m 55 #[.val (.ref a0), .val (.int p1), .val (.int p2), .val (.int v55_3)] [])) t
          refine XS.iloadN X55j.here hx rfl (hb hby own_d2_55) rfl ?_
          show Steps p.tables e below (T55j.setTop (mkF m 56 #[.val (.ref a0), .val (.int p1), .val (.int p2), .val (.int v55_3)] [(.int p2)])) t
          refine XS.iconst X55j.here hx rfl (hb hby own_d2_56) ?_
          show Steps p.tables e below (T55j.setTop (mkF m 57 #[.val (.ref a0), .val (.int p1), .val (.int p2), .val (.int v55_3)] [(.int (4 : Int32)), (.int p2)])) t
          exact k
        by_cases hc57 : p2 < (4 : Int32)
        · refine Owe.step (T' := T55j) (g' := (mkF m 75 #[.val (.ref a0), .val (.int p1), .val (.int p2), .val (.int v55_3)] [])) (fun t k => ?_) ?_
          · show Steps p.tables e below (T55j.setTop (mkF m 57 #[.val (.ref a0), .val (.int p1), .val (.int p2), .val (.int v55_3)] [(.int (4 : Int32)), (.int p2)])) t
            refine XS.icmpYes X55j.here hx rfl (pc0 := 57) (pc' := 75) rfl (hb hby own_d2_57) rfl (tlt hc57).1 (by decide) (by decide) ?_
            show Steps p.tables e below (T55j.setTop (mkF m 75 #[.val (.ref a0), .val (.int p1), .val (.int p2), .val (.int v55_3)] [])) t
            exact k
          rw [show own_f2_55 p1 p2 fb v55_3 = v55_3 from (by rw [own_f2_55, if_pos hc57])]
          refine Owe.ret X55j Bd.notSynchronized (v := (some (.int v55_3))) (fun h => by rw [Bd.returns] at h; cases h) (fun fs hr => ?_) ⟨rfl, N55j, e55j⟩ (by decide) (by decide)
          show Steps p.tables e below (T55j.setTop (mkF m 75 #[.val (.ref a0), .val (.int p1), .val (.int p2), .val (.int v55_3)] [])) _
          refine XS.iloadN X55j.here hx rfl (hb hby own_d2_75) rfl ?_
          show Steps p.tables e below (T55j.setTop (mkF m 76 #[.val (.ref a0), .val (.int p1), .val (.int p2), .val (.int v55_3)] [(.int v55_3)])) _
          exact retI X55j hx Bd.returns (hb hby own_d2_76) hr
        · refine Owe.step (T' := T55j) (g' := (mkF m 60 #[.val (.ref a0), .val (.int p1), .val (.int p2), .val (.int v55_3)] [])) (fun t k => ?_) ?_
          · show Steps p.tables e below (T55j.setTop (mkF m 57 #[.val (.ref a0), .val (.int p1), .val (.int p2), .val (.int v55_3)] [(.int (4 : Int32)), (.int p2)])) t
            refine XS.icmpNo X55j.here hx rfl (hb hby own_d2_57) rfl (flt hc57).1 ?_
            show Steps p.tables e below (T55j.setTop (mkF m 60 #[.val (.ref a0), .val (.int p1), .val (.int p2), .val (.int v55_3)] [])) t
            exact k
          rw [show own_f2_55 p1 p2 fb v55_3 = ((v55_3 <<< ((8 : Int32) &&& 31)) ||| ((fb ((p1 + (3 : Int32))).toNatClampNeg) &&& (255 : Int32))) from (by rw [own_f2_55, if_neg hc57])]
          refine Owe.ret X55j Bd.notSynchronized (v := (some (.int ((v55_3 <<< ((8 : Int32) &&& 31)) ||| ((fb ((p1 + (3 : Int32))).toNatClampNeg) &&& (255 : Int32)))))) (fun h => by rw [Bd.returns] at h; cases h) (fun fs hr => ?_) ⟨rfl, N55j, e55j⟩ (by decide) (by decide)
          show Steps p.tables e below (T55j.setTop (mkF m 60 #[.val (.ref a0), .val (.int p1), .val (.int p2), .val (.int v55_3)] [])) _
          refine XS.iloadN X55j.here hx rfl (hb hby own_d2_60) rfl ?_
          show Steps p.tables e below (T55j.setTop (mkF m 61 #[.val (.ref a0), .val (.int p1), .val (.int p2), .val (.int v55_3)] [(.int v55_3)])) _
          refine XS.bipush X55j.here hx rfl (hb hby own_d2_61) ?_
          show Steps p.tables e below (T55j.setTop (mkF m 63 #[.val (.ref a0), .val (.int p1), .val (.int p2), .val (.int v55_3)] [(.int (8 : Int32)), (.int v55_3)])) _
          refine XS.ishl X55j.here hx rfl (hb hby own_d2_63) rfl ?_
          show Steps p.tables e below (T55j.setTop (mkF m 64 #[.val (.ref a0), .val (.int p1), .val (.int p2), .val (.int v55_3)] [(.int (v55_3 <<< ((8 : Int32) &&& 31)))])) _
          refine XS.aloadN X55j.here hx rfl (hb hby own_d2_64) rfl rfl ?_
          show Steps p.tables e below (T55j.setTop (mkF m 65 #[.val (.ref a0), .val (.int p1), .val (.int p2), .val (.int v55_3)] [(.ref a0), (.int (v55_3 <<< ((8 : Int32) &&& 31)))])) _
          refine XS.iloadN X55j.here hx rfl (hb hby own_d2_65) rfl ?_
          show Steps p.tables e below (T55j.setTop (mkF m 66 #[.val (.ref a0), .val (.int p1), .val (.int p2), .val (.int v55_3)] [(.int p1), (.ref a0), (.int (v55_3 <<< ((8 : Int32) &&& 31)))])) _
          refine XS.iconst X55j.here hx rfl (hb hby own_d2_66) ?_
          show Steps p.tables e below (T55j.setTop (mkF m 67 #[.val (.ref a0), .val (.int p1), .val (.int p2), .val (.int v55_3)] [(.int (3 : Int32)), (.int p1), (.ref a0), (.int (v55_3 <<< ((8 : Int32) &&& 31)))])) _
          refine XS.iadd X55j.here hx rfl (hb hby own_d2_67) rfl ?_
          show Steps p.tables e below (T55j.setTop (mkF m 68 #[.val (.ref a0), .val (.int p1), .val (.int p2), .val (.int v55_3)] [(.int (p1 + (3 : Int32))), (.ref a0), (.int (v55_3 <<< ((8 : Int32) &&& 31)))])) _
          refine ldAB X55j hx hZ e55j A_b (j := (p1 + (3 : Int32))) (own_rk3 hB hc57).1 (own_rk3 hB hc57).2 (g := (mkF m 68 #[.val (.ref a0), .val (.int p1), .val (.int p2), .val (.int v55_3)] [(.int (p1 + (3 : Int32))), (.ref a0), (.int (v55_3 <<< ((8 : Int32) &&& 31)))])) rfl rfl (hb hby own_d2_68) _ ?_
          show Steps p.tables e below (T55j.setTop (mkF m 69 #[.val (.ref a0), .val (.int p1), .val (.int p2), .val (.int v55_3)] [(.int (fb ((p1 + (3 : Int32))).toNatClampNeg)), (.int (v55_3 <<< ((8 : Int32) &&& 31)))])) _
          refine XS.sipush X55j.here hx rfl (hb hby own_d2_69) ?_
          show Steps p.tables e below (T55j.setTop (mkF m 72 #[.val (.ref a0), .val (.int p1), .val (.int p2), .val (.int v55_3)] [(.int (255 : Int32)), (.int (fb ((p1 + (3 : Int32))).toNatClampNeg)), (.int (v55_3 <<< ((8 : Int32) &&& 31)))])) _
          refine XS.iand X55j.here hx rfl (hb hby own_d2_72) rfl ?_
          show Steps p.tables e below (T55j.setTop (mkF m 73 #[.val (.ref a0), .val (.int p1), .val (.int p2), .val (.int v55_3)] [(.int ((fb ((p1 + (3 : Int32))).toNatClampNeg) &&& (255 : Int32))), (.int (v55_3 <<< ((8 : Int32) &&& 31)))])) _
          refine XS.ior X55j.here hx rfl (hb hby own_d2_73) rfl ?_
          show Steps p.tables e below (T55j.setTop (mkF m 74 #[.val (.ref a0), .val (.int p1), .val (.int p2), .val (.int v55_3)] [(.int ((v55_3 <<< ((8 : Int32) &&& 31)) ||| ((fb ((p1 + (3 : Int32))).toNatClampNeg) &&& (255 : Int32))))])) _
          refine XS.istoreN X55j.here hx rfl (hb hby own_d2_74) rfl (l' := #[.val (.ref a0), .val (.int p1), .val (.int p2), .val (.int ((v55_3 <<< ((8 : Int32) &&& 31)) ||| ((fb ((p1 + (3 : Int32))).toNatClampNeg) &&& (255 : Int32))))]) rfl ?_
          show Steps p.tables e below (T55j.setTop (mkF m 75 #[.val (.ref a0), .val (.int p1), .val (.int p2), .val (.int ((v55_3 <<< ((8 : Int32) &&& 31)) ||| ((fb ((p1 + (3 : Int32))).toNatClampNeg) &&& (255 : Int32))))] [])) _
          refine XS.iloadN X55j.here hx rfl (hb hby own_d2_75) rfl ?_
          show Steps p.tables e below (T55j.setTop (mkF m 76 #[.val (.ref a0), .val (.int p1), .val (.int p2), .val (.int ((v55_3 <<< ((8 : Int32) &&& 31)) ||| ((fb ((p1 + (3 : Int32))).toNatClampNeg) &&& (255 : Int32))))] [(.int ((v55_3 <<< ((8 : Int32) &&& 31)) ||| ((fb ((p1 + (3 : Int32))).toNatClampNeg) &&& (255 : Int32))))])) _
          exact retI X55j hx Bd.returns (hb hby own_d2_76) hr
      by_cases hc37 : p2 < (3 : Int32)
      · refine Owe.step (T' := T35j) (g' := (mkF m 55 #[.val (.ref a0), .val (.int p1), .val (.int p2), .val (.int v35_3)] [])) (fun t k => ?_) ?_
        · show Steps p.tables e below (T35j.setTop (mkF m 37 #[.val (.ref a0), .val (.int p1), .val (.int p2), .val (.int v35_3)] [(.int (3 : Int32)), (.int p2)])) t
          refine XS.icmpYes X35j.here hx rfl (pc0 := 37) (pc' := 55) rfl (hb hby own_d2_37) rfl (tlt hc37).1 (by decide) (by decide) ?_
          show Steps p.tables e below (T35j.setTop (mkF m 55 #[.val (.ref a0), .val (.int p1), .val (.int p2), .val (.int v35_3)] [])) t
          exact k
        rw [show own_f2_35 p1 p2 fb v35_3 = (own_f2_55 p1 p2 fb v35_3) from (by rw [own_f2_35, if_pos hc37])]
        exact j55 T35j _ X35j v35_3 e35j N35j
      · refine Owe.step (T' := T35j) (g' := (mkF m 40 #[.val (.ref a0), .val (.int p1), .val (.int p2), .val (.int v35_3)] [])) (fun t k => ?_) ?_
        · show Steps p.tables e below (T35j.setTop (mkF m 37 #[.val (.ref a0), .val (.int p1), .val (.int p2), .val (.int v35_3)] [(.int (3 : Int32)), (.int p2)])) t
          refine XS.icmpNo X35j.here hx rfl (hb hby own_d2_37) rfl (flt hc37).1 ?_
          show Steps p.tables e below (T35j.setTop (mkF m 40 #[.val (.ref a0), .val (.int p1), .val (.int p2), .val (.int v35_3)] [])) t
          exact k
        refine Owe.step (T' := T35j) (g' := (mkF m 55 #[.val (.ref a0), .val (.int p1), .val (.int p2), .val (.int ((v35_3 <<< ((8 : Int32) &&& 31)) ||| ((fb ((p1 + (2 : Int32))).toNatClampNeg) &&& (255 : Int32))))] [])) (fun t k => ?_) ?_
        · show Steps p.tables e below (T35j.setTop (mkF m 40 #[.val (.ref a0), .val (.int p1), .val (.int p2), .val (.int v35_3)] [])) t
          refine XS.iloadN X35j.here hx rfl (hb hby own_d2_40) rfl ?_
          show Steps p.tables e below (T35j.setTop (mkF m 41 #[.val (.ref a0), .val (.int p1), .val (.int p2), .val (.int v35_3)] [(.int v35_3)])) t
          refine XS.bipush X35j.here hx rfl (hb hby own_d2_41) ?_
          show Steps p.tables e below (T35j.setTop (mkF m 43 #[.val (.ref a0), .val (.int p1), .val (.int p2), .val (.int v35_3)] [(.int (8 : Int32)), (.int v35_3)])) t
          refine XS.ishl X35j.here hx rfl (hb hby own_d2_43) rfl ?_
          show Steps p.tables e below (T35j.setTop (mkF m 44 #[.val (.ref a0), .val (.int p1), .val (.int p2), .val (.int v35_3)] [(.int (v35_3 <<< ((8 : Int32) &&& 31)))])) t
          refine XS.aloadN X35j.here hx rfl (hb hby own_d2_44) rfl rfl ?_
          show Steps p.tables e below (T35j.setTop (mkF m 45 #[.val (.ref a0), .val (.int p1), .val (.int p2), .val (.int v35_3)] [(.ref a0), (.int (v35_3 <<< ((8 : Int32) &&& 31)))])) t
          refine XS.iloadN X35j.here hx rfl (hb hby own_d2_45) rfl ?_
          show Steps p.tables e below (T35j.setTop (mkF m 46 #[.val (.ref a0), .val (.int p1), .val (.int p2), .val (.int v35_3)] [(.int p1), (.ref a0), (.int (v35_3 <<< ((8 : Int32) &&& 31)))])) t
          refine XS.iconst X35j.here hx rfl (hb hby own_d2_46) ?_
          show Steps p.tables e below (T35j.setTop (mkF m 47 #[.val (.ref a0), .val (.int p1), .val (.int p2), .val (.int v35_3)] [(.int (2 : Int32)), (.int p1), (.ref a0), (.int (v35_3 <<< ((8 : Int32) &&& 31)))])) t
          refine XS.iadd X35j.here hx rfl (hb hby own_d2_47) rfl ?_
          show Steps p.tables e below (T35j.setTop (mkF m 48 #[.val (.ref a0), .val (.int p1), .val (.int p2), .val (.int v35_3)] [(.int (p1 + (2 : Int32))), (.ref a0), (.int (v35_3 <<< ((8 : Int32) &&& 31)))])) t
          refine ldAB X35j hx hZ e35j A_b (j := (p1 + (2 : Int32))) (own_rk2 hB hc37).1 (own_rk2 hB hc37).2 (g := (mkF m 48 #[.val (.ref a0), .val (.int p1), .val (.int p2), .val (.int v35_3)] [(.int (p1 + (2 : Int32))), (.ref a0), (.int (v35_3 <<< ((8 : Int32) &&& 31)))])) rfl rfl (hb hby own_d2_48) _ ?_
          show Steps p.tables e below (T35j.setTop (mkF m 49 #[.val (.ref a0), .val (.int p1), .val (.int p2), .val (.int v35_3)] [(.int (fb ((p1 + (2 : Int32))).toNatClampNeg)), (.int (v35_3 <<< ((8 : Int32) &&& 31)))])) t
          refine XS.sipush X35j.here hx rfl (hb hby own_d2_49) ?_
          show Steps p.tables e below (T35j.setTop (mkF m 52 #[.val (.ref a0), .val (.int p1), .val (.int p2), .val (.int v35_3)] [(.int (255 : Int32)), (.int (fb ((p1 + (2 : Int32))).toNatClampNeg)), (.int (v35_3 <<< ((8 : Int32) &&& 31)))])) t
          refine XS.iand X35j.here hx rfl (hb hby own_d2_52) rfl ?_
          show Steps p.tables e below (T35j.setTop (mkF m 53 #[.val (.ref a0), .val (.int p1), .val (.int p2), .val (.int v35_3)] [(.int ((fb ((p1 + (2 : Int32))).toNatClampNeg) &&& (255 : Int32))), (.int (v35_3 <<< ((8 : Int32) &&& 31)))])) t
          refine XS.ior X35j.here hx rfl (hb hby own_d2_53) rfl ?_
          show Steps p.tables e below (T35j.setTop (mkF m 54 #[.val (.ref a0), .val (.int p1), .val (.int p2), .val (.int v35_3)] [(.int ((v35_3 <<< ((8 : Int32) &&& 31)) ||| ((fb ((p1 + (2 : Int32))).toNatClampNeg) &&& (255 : Int32))))])) t
          refine XS.istoreN X35j.here hx rfl (hb hby own_d2_54) rfl (l' := #[.val (.ref a0), .val (.int p1), .val (.int p2), .val (.int ((v35_3 <<< ((8 : Int32) &&& 31)) ||| ((fb ((p1 + (2 : Int32))).toNatClampNeg) &&& (255 : Int32))))]) rfl ?_
          show Steps p.tables e below (T35j.setTop (mkF m 55 #[.val (.ref a0), .val (.int p1), .val (.int p2), .val (.int ((v35_3 <<< ((8 : Int32) &&& 31)) ||| ((fb ((p1 + (2 : Int32))).toNatClampNeg) &&& (255 : Int32))))] [])) t
          exact k
        rw [show own_f2_35 p1 p2 fb v35_3 = (own_f2_55 p1 p2 fb ((v35_3 <<< ((8 : Int32) &&& 31)) ||| ((fb ((p1 + (2 : Int32))).toNatClampNeg) &&& (255 : Int32)))) from (by rw [own_f2_35, if_neg hc37])]
        exact j55 T35j _ X35j ((v35_3 <<< ((8 : Int32) &&& 31)) ||| ((fb ((p1 + (2 : Int32))).toNatClampNeg) &&& (255 : Int32))) e35j N35j
    by_cases hc17 : p2 < (2 : Int32)
    · refine Owe.step (T' := T15j) (g' := (mkF m 35 #[.val (.ref a0), .val (.int p1), .val (.int p2), .val (.int v15_3)] [])) (fun t k => ?_) ?_
      · show Steps p.tables e below (T15j.setTop (mkF m 17 #[.val (.ref a0), .val (.int p1), .val (.int p2), .val (.int v15_3)] [(.int (2 : Int32)), (.int p2)])) t
        refine XS.icmpYes X15j.here hx rfl (pc0 := 17) (pc' := 35) rfl (hb hby own_d2_17) rfl (tlt hc17).1 (by decide) (by decide) ?_
        show Steps p.tables e below (T15j.setTop (mkF m 35 #[.val (.ref a0), .val (.int p1), .val (.int p2), .val (.int v15_3)] [])) t
        exact k
      rw [show own_f2_15 p1 p2 fb v15_3 = (own_f2_35 p1 p2 fb v15_3) from (by rw [own_f2_15, if_pos hc17])]
      exact j35 T15j _ X15j v15_3 e15j N15j
    · refine Owe.step (T' := T15j) (g' := (mkF m 20 #[.val (.ref a0), .val (.int p1), .val (.int p2), .val (.int v15_3)] [])) (fun t k => ?_) ?_
      · show Steps p.tables e below (T15j.setTop (mkF m 17 #[.val (.ref a0), .val (.int p1), .val (.int p2), .val (.int v15_3)] [(.int (2 : Int32)), (.int p2)])) t
        refine XS.icmpNo X15j.here hx rfl (hb hby own_d2_17) rfl (flt hc17).1 ?_
        show Steps p.tables e below (T15j.setTop (mkF m 20 #[.val (.ref a0), .val (.int p1), .val (.int p2), .val (.int v15_3)] [])) t
        exact k
      refine Owe.step (T' := T15j) (g' := (mkF m 35 #[.val (.ref a0), .val (.int p1), .val (.int p2), .val (.int ((v15_3 <<< ((8 : Int32) &&& 31)) ||| ((fb ((p1 + (1 : Int32))).toNatClampNeg) &&& (255 : Int32))))] [])) (fun t k => ?_) ?_
      · show Steps p.tables e below (T15j.setTop (mkF m 20 #[.val (.ref a0), .val (.int p1), .val (.int p2), .val (.int v15_3)] [])) t
        refine XS.iloadN X15j.here hx rfl (hb hby own_d2_20) rfl ?_
        show Steps p.tables e below (T15j.setTop (mkF m 21 #[.val (.ref a0), .val (.int p1), .val (.int p2), .val (.int v15_3)] [(.int v15_3)])) t
        refine XS.bipush X15j.here hx rfl (hb hby own_d2_21) ?_
        show Steps p.tables e below (T15j.setTop (mkF m 23 #[.val (.ref a0), .val (.int p1), .val (.int p2), .val (.int v15_3)] [(.int (8 : Int32)), (.int v15_3)])) t
        refine XS.ishl X15j.here hx rfl (hb hby own_d2_23) rfl ?_
        show Steps p.tables e below (T15j.setTop (mkF m 24 #[.val (.ref a0), .val (.int p1), .val (.int p2), .val (.int v15_3)] [(.int (v15_3 <<< ((8 : Int32) &&& 31)))])) t
        refine XS.aloadN X15j.here hx rfl (hb hby own_d2_24) rfl rfl ?_
        show Steps p.tables e below (T15j.setTop (mkF m 25 #[.val (.ref a0), .val (.int p1), .val (.int p2), .val (.int v15_3)] [(.ref a0), (.int (v15_3 <<< ((8 : Int32) &&& 31)))])) t
        refine XS.iloadN X15j.here hx rfl (hb hby own_d2_25) rfl ?_
        show Steps p.tables e below (T15j.setTop (mkF m 26 #[.val (.ref a0), .val (.int p1), .val (.int p2), .val (.int v15_3)] [(.int p1), (.ref a0), (.int (v15_3 <<< ((8 : Int32) &&& 31)))])) t
        refine XS.iconst X15j.here hx rfl (hb hby own_d2_26) ?_
        show Steps p.tables e below (T15j.setTop (mkF m 27 #[.val (.ref a0), .val (.int p1), .val (.int p2), .val (.int v15_3)] [(.int (1 : Int32)), (.int p1), (.ref a0), (.int (v15_3 <<< ((8 : Int32) &&& 31)))])) t
        refine XS.iadd X15j.here hx rfl (hb hby own_d2_27) rfl ?_
        show Steps p.tables e below (T15j.setTop (mkF m 28 #[.val (.ref a0), .val (.int p1), .val (.int p2), .val (.int v15_3)] [(.int (p1 + (1 : Int32))), (.ref a0), (.int (v15_3 <<< ((8 : Int32) &&& 31)))])) t
        refine ldAB X15j hx hZ e15j A_b (j := (p1 + (1 : Int32))) (own_rk1 hB hc17).1 (own_rk1 hB hc17).2 (g := (mkF m 28 #[.val (.ref a0), .val (.int p1), .val (.int p2), .val (.int v15_3)] [(.int (p1 + (1 : Int32))), (.ref a0), (.int (v15_3 <<< ((8 : Int32) &&& 31)))])) rfl rfl (hb hby own_d2_28) _ ?_
        show Steps p.tables e below (T15j.setTop (mkF m 29 #[.val (.ref a0), .val (.int p1), .val (.int p2), .val (.int v15_3)] [(.int (fb ((p1 + (1 : Int32))).toNatClampNeg)), (.int (v15_3 <<< ((8 : Int32) &&& 31)))])) t
        refine XS.sipush X15j.here hx rfl (hb hby own_d2_29) ?_
        show Steps p.tables e below (T15j.setTop (mkF m 32 #[.val (.ref a0), .val (.int p1), .val (.int p2), .val (.int v15_3)] [(.int (255 : Int32)), (.int (fb ((p1 + (1 : Int32))).toNatClampNeg)), (.int (v15_3 <<< ((8 : Int32) &&& 31)))])) t
        refine XS.iand X15j.here hx rfl (hb hby own_d2_32) rfl ?_
        show Steps p.tables e below (T15j.setTop (mkF m 33 #[.val (.ref a0), .val (.int p1), .val (.int p2), .val (.int v15_3)] [(.int ((fb ((p1 + (1 : Int32))).toNatClampNeg) &&& (255 : Int32))), (.int (v15_3 <<< ((8 : Int32) &&& 31)))])) t
        refine XS.ior X15j.here hx rfl (hb hby own_d2_33) rfl ?_
        show Steps p.tables e below (T15j.setTop (mkF m 34 #[.val (.ref a0), .val (.int p1), .val (.int p2), .val (.int v15_3)] [(.int ((v15_3 <<< ((8 : Int32) &&& 31)) ||| ((fb ((p1 + (1 : Int32))).toNatClampNeg) &&& (255 : Int32))))])) t
        refine XS.istoreN X15j.here hx rfl (hb hby own_d2_34) rfl (l' := #[.val (.ref a0), .val (.int p1), .val (.int p2), .val (.int ((v15_3 <<< ((8 : Int32) &&& 31)) ||| ((fb ((p1 + (1 : Int32))).toNatClampNeg) &&& (255 : Int32))))]) rfl ?_
        show Steps p.tables e below (T15j.setTop (mkF m 35 #[.val (.ref a0), .val (.int p1), .val (.int p2), .val (.int ((v15_3 <<< ((8 : Int32) &&& 31)) ||| ((fb ((p1 + (1 : Int32))).toNatClampNeg) &&& (255 : Int32))))] [])) t
        exact k
      rw [show own_f2_15 p1 p2 fb v15_3 = (own_f2_35 p1 p2 fb ((v15_3 <<< ((8 : Int32) &&& 31)) ||| ((fb ((p1 + (1 : Int32))).toNatClampNeg) &&& (255 : Int32)))) from (by rw [own_f2_15, if_neg hc17])]
      exact j35 T15j _ X15j ((v15_3 <<< ((8 : Int32) &&& 31)) ||| ((fb ((p1 + (1 : Int32))).toNatClampNeg) &&& (255 : Int32))) e15j N15j
  by_cases hc4 : p2 < (1 : Int32)
  · refine Owe.step (T' := s₁) (g' := (mkF m 15 #[.val (.ref a0), .val (.int p1), .val (.int p2), .val (.int (0 : Int32))] [])) (fun t k => ?_) ?_
    · show Steps p.tables e below (s₁.setTop (mkF m 4 #[.val (.ref a0), .val (.int p1), .val (.int p2), .val (.int (0 : Int32))] [(.int (1 : Int32)), (.int p2)])) t
      refine XS.icmpYes X0.here hx rfl (pc0 := 4) (pc' := 15) rfl (hb hby own_d2_4) rfl (tlt hc4).1 (by decide) (by decide) ?_
      show Steps p.tables e below (s₁.setTop (mkF m 15 #[.val (.ref a0), .val (.int p1), .val (.int p2), .val (.int (0 : Int32))] [])) t
      exact k
    rw [show own_f2_0 p1 p2 fb = (own_f2_15 p1 p2 fb (0 : Int32)) from (by rw [own_f2_0, if_pos hc4])]
    exact j15 s₁ _ X0 (0 : Int32) e0 N0
  · refine Owe.step (T' := s₁) (g' := (mkF m 7 #[.val (.ref a0), .val (.int p1), .val (.int p2), .val (.int (0 : Int32))] [])) (fun t k => ?_) ?_
    · show Steps p.tables e below (s₁.setTop (mkF m 4 #[.val (.ref a0), .val (.int p1), .val (.int p2), .val (.int (0 : Int32))] [(.int (1 : Int32)), (.int p2)])) t
      refine XS.icmpNo X0.here hx rfl (hb hby own_d2_4) rfl (flt hc4).1 ?_
      show Steps p.tables e below (s₁.setTop (mkF m 7 #[.val (.ref a0), .val (.int p1), .val (.int p2), .val (.int (0 : Int32))] [])) t
      exact k
    refine Owe.step (T' := s₁) (g' := (mkF m 15 #[.val (.ref a0), .val (.int p1), .val (.int p2), .val (.int ((fb (p1).toNatClampNeg) &&& (255 : Int32)))] [])) (fun t k => ?_) ?_
    · show Steps p.tables e below (s₁.setTop (mkF m 7 #[.val (.ref a0), .val (.int p1), .val (.int p2), .val (.int (0 : Int32))] [])) t
      refine XS.aloadN X0.here hx rfl (hb hby own_d2_7) rfl rfl ?_
      show Steps p.tables e below (s₁.setTop (mkF m 8 #[.val (.ref a0), .val (.int p1), .val (.int p2), .val (.int (0 : Int32))] [(.ref a0)])) t
      refine XS.iloadN X0.here hx rfl (hb hby own_d2_8) rfl ?_
      show Steps p.tables e below (s₁.setTop (mkF m 9 #[.val (.ref a0), .val (.int p1), .val (.int p2), .val (.int (0 : Int32))] [(.int p1), (.ref a0)])) t
      refine ldAB X0 hx hZ e0 A_b (j := p1) (own_rk0 hB hc4).1 (own_rk0 hB hc4).2 (g := (mkF m 9 #[.val (.ref a0), .val (.int p1), .val (.int p2), .val (.int (0 : Int32))] [(.int p1), (.ref a0)])) rfl rfl (hb hby own_d2_9) _ ?_
      show Steps p.tables e below (s₁.setTop (mkF m 10 #[.val (.ref a0), .val (.int p1), .val (.int p2), .val (.int (0 : Int32))] [(.int (fb (p1).toNatClampNeg))])) t
      refine XS.sipush X0.here hx rfl (hb hby own_d2_10) ?_
      show Steps p.tables e below (s₁.setTop (mkF m 13 #[.val (.ref a0), .val (.int p1), .val (.int p2), .val (.int (0 : Int32))] [(.int (255 : Int32)), (.int (fb (p1).toNatClampNeg))])) t
      refine XS.iand X0.here hx rfl (hb hby own_d2_13) rfl ?_
      show Steps p.tables e below (s₁.setTop (mkF m 14 #[.val (.ref a0), .val (.int p1), .val (.int p2), .val (.int (0 : Int32))] [(.int ((fb (p1).toNatClampNeg) &&& (255 : Int32)))])) t
      refine XS.istoreN X0.here hx rfl (hb hby own_d2_14) rfl (l' := #[.val (.ref a0), .val (.int p1), .val (.int p2), .val (.int ((fb (p1).toNatClampNeg) &&& (255 : Int32)))]) rfl ?_
      show Steps p.tables e below (s₁.setTop (mkF m 15 #[.val (.ref a0), .val (.int p1), .val (.int p2), .val (.int ((fb (p1).toNatClampNeg) &&& (255 : Int32)))] [])) t
      exact k
    rw [show own_f2_0 p1 p2 fb = (own_f2_15 p1 p2 fb ((fb (p1).toNatClampNeg) &&& (255 : Int32))) from (by rw [own_f2_0, if_neg hc4])]
    exact j15 s₁ _ X0 ((fb (p1).toNatClampNeg) &&& (255 : Int32)) e0 N0
theorem own_d3_0 : decode method_4_code 0 = .ok (.iload_n 1, 1) := by decide +kernel
theorem own_d3_1 : decode method_4_code 1 = .ok (.ifCond .ne 5, 3) := by decide +kernel
theorem own_d3_4 : decode method_4_code 4 = .ok (.iconst 0, 1) := by decide +kernel
theorem own_d3_5 : decode method_4_code 5 = .ok (.ireturn, 1) := by decide +kernel
theorem own_d3_6 : decode method_4_code 6 = .ok (.iload_n 1, 1) := by decide +kernel
theorem own_d3_7 : decode method_4_code 7 = .ok (.iconst 4, 1) := by decide +kernel
theorem own_d3_8 : decode method_4_code 8 = .ok (.if_icmp .ne 5, 3) := by decide +kernel
theorem own_d3_11 : decode method_4_code 11 = .ok (.iload_n 0, 1) := by decide +kernel
theorem own_d3_12 : decode method_4_code 12 = .ok (.ireturn, 1) := by decide +kernel
theorem own_d3_13 : decode method_4_code 13 = .ok (.iload_n 0, 1) := by decide +kernel
theorem own_d3_14 : decode method_4_code 14 = .ok (.iconst 1, 1) := by decide +kernel
theorem own_d3_15 : decode method_4_code 15 = .ok (.bipush 8, 2) := by decide +kernel
theorem own_d3_17 : decode method_4_code 17 = .ok (.iload_n 1, 1) := by decide +kernel
theorem own_d3_18 : decode method_4_code 18 = .ok (.imul, 1) := by decide +kernel
theorem own_d3_19 : decode method_4_code 19 = .ok (.ishl, 1) := by decide +kernel
theorem own_d3_20 : decode method_4_code 20 = .ok (.iconst 1, 1) := by decide +kernel
theorem own_d3_21 : decode method_4_code 21 = .ok (.isub, 1) := by decide +kernel
theorem own_d3_22 : decode method_4_code 22 = .ok (.iand, 1) := by decide +kernel
theorem own_d3_23 : decode method_4_code 23 = .ok (.ireturn, 1) := by decide +kernel
theorem own_ef3 (m : MethodId) (p0 : Int32) (p1 : Int32) : entryFrame m #[(.int p0), (.int p1)] 2 = mkF m 0 #[.val (.int p0), .val (.int p1)] [] := by first | (simp [entryFrame, mkF, argsToLocals, Value.category]; done) | rfl
def own_f3_0 (p0 : Int32) (p1 : Int32) : Int32 := (if p1 = (0 : Int32) then (0 : Int32) else (if p1 = (4 : Int32) then p0 else (p0 &&& (((1 : Int32) <<< (((8 : Int32) * p1) &&& 31)) - (1 : Int32)))))
set_option maxRecDepth 65536 in
set_option maxHeartbeats 40000000 in
theorem own_rm3 (l : Launch) (Z : State) (aA : Array Value) (hw : ∀ d ∈ tables_1, d.before aA Z = true) (ws : List Jvm.Cond) (p0 : Int32) (p1 : Int32)  (h0 : Heap) (n0 : Nat) (Z0 : n0 ≤ h0.size) :
    MetFree l (⟨"com/example/rasterline/rasterline/formats/png/KnownChunkPackedPinLaw", "low", "(II)I"⟩ : MethodName) (head1 (Jvm.Cond.code (⟨"com/example/rasterline/rasterline/formats/png/KnownChunkPackedPinLaw", "low", "(II)I"⟩ : MethodName) method_4_code 2 (some .int) :: ws) ({ frames := 0, cells := 0, slots := 0, locals := 0 } : Room)) (fun a U => a = #[(.int p0), (.int p1)] ∧ Z.Warmed39 U.vm ∧ U.heap = h0) (fun _ _ _ _ _ => True) (fun _ U o U' => ∃ v L, o = .returned v ∧ (QP (.int (own_f3_0 p0 p1)) h0 n0) v U'.heap L ∧ FrameEnd U o U' L ({ frames := 0, cells := 0, slots := 0, locals := 0 } : Room).cells ({ frames := 0, cells := 0, slots := 0, locals := 0 } : Room).slots) := by
  refine MetFree.of_bodySF (plainFor_of_name own_pn1) hisR ?_
  intro p e s m args below meth c s₁ Bd hml0 hP hK
  obtain ⟨rfl, hZ, hh⟩ := hP
  have hx := Bd.exec
  have hby := Bd.bytes
  have hml : c.maxLocals = 2 := hml0
  have hown : s.vm.findClass "com/example/rasterline/rasterline/formats/png/KnownChunkPackedPinLaw" = some m.cls := findClass_of_methodNamed Bd.named
  have hnm := (name_of_methodNamed Bd.named Bd.method).1
  have X0 : Stand p l e ({ frames := 0, cells := 0, slots := 0, locals := 0 } : Room) s m #[(.int p0), (.int p1)] below meth c s₁ [] 0 0 := Stand.of_body Bd
  have e0 : s₁.heap = h0 := by rw [← hh, Bd.state]; rfl
  have N0 := Fr.nil n0
  refine Owe.step (T := s₁) (T' := s₁) (g' := (mkF m 0 #[.val (.int p0), .val (.int p1)] [])) (fun t k => castTop (own_ef3 m p0 p1) k) ?_
  refine Owe.step (T' := s₁) (g' := (mkF m 1 #[.val (.int p0), .val (.int p1)] [(.int p1)])) (fun t k => ?_) ?_
  · show Steps p.tables e below (s₁.setTop (mkF m 0 #[.val (.int p0), .val (.int p1)] [])) t
    refine XS.iloadN X0.here hx rfl (hb hby own_d3_0) rfl ?_
    show Steps p.tables e below (s₁.setTop (mkF m 1 #[.val (.int p0), .val (.int p1)] [(.int p1)])) t
    exact k
  by_cases hc1 : p1 = (0 : Int32)
  · refine Owe.step (T' := s₁) (g' := (mkF m 4 #[.val (.int p0), .val (.int p1)] [])) (fun t k => ?_) ?_
    · show Steps p.tables e below (s₁.setTop (mkF m 1 #[.val (.int p0), .val (.int p1)] [(.int p1)])) t
      refine XS.ifNo X0.here hx rfl (hb hby own_d3_1) rfl ((if0 _ _).trans (teq hc1).2) ?_
      show Steps p.tables e below (s₁.setTop (mkF m 4 #[.val (.int p0), .val (.int p1)] [])) t
      exact k
    rw [show own_f3_0 p0 p1 = (0 : Int32) from (by rw [own_f3_0, if_pos hc1])]
    refine Owe.ret X0 Bd.notSynchronized (v := (some (.int (0 : Int32)))) (fun h => by rw [Bd.returns] at h; cases h) (fun fs hr => ?_) ⟨rfl, N0, e0⟩ (by decide) (by decide)
    show Steps p.tables e below (s₁.setTop (mkF m 4 #[.val (.int p0), .val (.int p1)] [])) _
    refine XS.iconst X0.here hx rfl (hb hby own_d3_4) ?_
    show Steps p.tables e below (s₁.setTop (mkF m 5 #[.val (.int p0), .val (.int p1)] [(.int (0 : Int32))])) _
    exact retI X0 hx Bd.returns (hb hby own_d3_5) hr
  · refine Owe.step (T' := s₁) (g' := (mkF m 6 #[.val (.int p0), .val (.int p1)] [])) (fun t k => ?_) ?_
    · show Steps p.tables e below (s₁.setTop (mkF m 1 #[.val (.int p0), .val (.int p1)] [(.int p1)])) t
      refine XS.ifYes X0.here hx rfl (pc0 := 1) (pc' := 6) rfl (hb hby own_d3_1) rfl ((if0 _ _).trans (feq hc1).2) (by decide) (by decide) ?_
      show Steps p.tables e below (s₁.setTop (mkF m 6 #[.val (.int p0), .val (.int p1)] [])) t
      exact k
    refine Owe.step (T' := s₁) (g' := (mkF m 8 #[.val (.int p0), .val (.int p1)] [(.int (4 : Int32)), (.int p1)])) (fun t k => ?_) ?_
    · show Steps p.tables e below (s₁.setTop (mkF m 6 #[.val (.int p0), .val (.int p1)] [])) t
      refine XS.iloadN X0.here hx rfl (hb hby own_d3_6) rfl ?_
      show Steps p.tables e below (s₁.setTop (mkF m 7 #[.val (.int p0), .val (.int p1)] [(.int p1)])) t
      refine XS.iconst X0.here hx rfl (hb hby own_d3_7) ?_
      show Steps p.tables e below (s₁.setTop (mkF m 8 #[.val (.int p0), .val (.int p1)] [(.int (4 : Int32)), (.int p1)])) t
      exact k
    by_cases hc8 : p1 = (4 : Int32)
    · refine Owe.step (T' := s₁) (g' := (mkF m 11 #[.val (.int p0), .val (.int p1)] [])) (fun t k => ?_) ?_
      · show Steps p.tables e below (s₁.setTop (mkF m 8 #[.val (.int p0), .val (.int p1)] [(.int (4 : Int32)), (.int p1)])) t
        refine XS.icmpNo X0.here hx rfl (hb hby own_d3_8) rfl (teq hc8).2 ?_
        show Steps p.tables e below (s₁.setTop (mkF m 11 #[.val (.int p0), .val (.int p1)] [])) t
        exact k
      rw [show own_f3_0 p0 p1 = p0 from (by rw [own_f3_0, if_neg hc1, if_pos hc8])]
      refine Owe.ret X0 Bd.notSynchronized (v := (some (.int p0))) (fun h => by rw [Bd.returns] at h; cases h) (fun fs hr => ?_) ⟨rfl, N0, e0⟩ (by decide) (by decide)
      show Steps p.tables e below (s₁.setTop (mkF m 11 #[.val (.int p0), .val (.int p1)] [])) _
      refine XS.iloadN X0.here hx rfl (hb hby own_d3_11) rfl ?_
      show Steps p.tables e below (s₁.setTop (mkF m 12 #[.val (.int p0), .val (.int p1)] [(.int p0)])) _
      exact retI X0 hx Bd.returns (hb hby own_d3_12) hr
    · refine Owe.step (T' := s₁) (g' := (mkF m 13 #[.val (.int p0), .val (.int p1)] [])) (fun t k => ?_) ?_
      · show Steps p.tables e below (s₁.setTop (mkF m 8 #[.val (.int p0), .val (.int p1)] [(.int (4 : Int32)), (.int p1)])) t
        refine XS.icmpYes X0.here hx rfl (pc0 := 8) (pc' := 13) rfl (hb hby own_d3_8) rfl (feq hc8).2 (by decide) (by decide) ?_
        show Steps p.tables e below (s₁.setTop (mkF m 13 #[.val (.int p0), .val (.int p1)] [])) t
        exact k
      rw [show own_f3_0 p0 p1 = (p0 &&& (((1 : Int32) <<< (((8 : Int32) * p1) &&& 31)) - (1 : Int32))) from (by rw [own_f3_0, if_neg hc1, if_neg hc8])]
      refine Owe.ret X0 Bd.notSynchronized (v := (some (.int (p0 &&& (((1 : Int32) <<< (((8 : Int32) * p1) &&& 31)) - (1 : Int32)))))) (fun h => by rw [Bd.returns] at h; cases h) (fun fs hr => ?_) ⟨rfl, N0, e0⟩ (by decide) (by decide)
      show Steps p.tables e below (s₁.setTop (mkF m 13 #[.val (.int p0), .val (.int p1)] [])) _
      refine XS.iloadN X0.here hx rfl (hb hby own_d3_13) rfl ?_
      show Steps p.tables e below (s₁.setTop (mkF m 14 #[.val (.int p0), .val (.int p1)] [(.int p0)])) _
      refine XS.iconst X0.here hx rfl (hb hby own_d3_14) ?_
      show Steps p.tables e below (s₁.setTop (mkF m 15 #[.val (.int p0), .val (.int p1)] [(.int (1 : Int32)), (.int p0)])) _
      refine XS.bipush X0.here hx rfl (hb hby own_d3_15) ?_
      show Steps p.tables e below (s₁.setTop (mkF m 17 #[.val (.int p0), .val (.int p1)] [(.int (8 : Int32)), (.int (1 : Int32)), (.int p0)])) _
      refine XS.iloadN X0.here hx rfl (hb hby own_d3_17) rfl ?_
      show Steps p.tables e below (s₁.setTop (mkF m 18 #[.val (.int p0), .val (.int p1)] [(.int p1), (.int (8 : Int32)), (.int (1 : Int32)), (.int p0)])) _
      refine XS.imul X0.here hx rfl (hb hby own_d3_18) rfl ?_
      show Steps p.tables e below (s₁.setTop (mkF m 19 #[.val (.int p0), .val (.int p1)] [(.int ((8 : Int32) * p1)), (.int (1 : Int32)), (.int p0)])) _
      refine XS.ishl X0.here hx rfl (hb hby own_d3_19) rfl ?_
      show Steps p.tables e below (s₁.setTop (mkF m 20 #[.val (.int p0), .val (.int p1)] [(.int ((1 : Int32) <<< (((8 : Int32) * p1) &&& 31))), (.int p0)])) _
      refine XS.iconst X0.here hx rfl (hb hby own_d3_20) ?_
      show Steps p.tables e below (s₁.setTop (mkF m 21 #[.val (.int p0), .val (.int p1)] [(.int (1 : Int32)), (.int ((1 : Int32) <<< (((8 : Int32) * p1) &&& 31))), (.int p0)])) _
      refine XS.isub X0.here hx rfl (hb hby own_d3_21) rfl ?_
      show Steps p.tables e below (s₁.setTop (mkF m 22 #[.val (.int p0), .val (.int p1)] [(.int (((1 : Int32) <<< (((8 : Int32) * p1) &&& 31)) - (1 : Int32))), (.int p0)])) _
      refine XS.iand X0.here hx rfl (hb hby own_d3_22) rfl ?_
      show Steps p.tables e below (s₁.setTop (mkF m 23 #[.val (.int p0), .val (.int p1)] [(.int (p0 &&& (((1 : Int32) <<< (((8 : Int32) * p1) &&& 31)) - (1 : Int32))))])) _
      exact retI X0 hx Bd.returns (hb hby own_d3_23) hr
theorem own_pd0 : parseMethodDescriptor "(I[I)[B" = some ⟨[.int, (.array .int)], some (.array .byte)⟩ := by decide +kernel
theorem own_ef0c0 (m : MethodId) (p0 : Int32) (p1 : Int32) (p2 : Int32) (p3 : Int32) (p4 : Int32) : entryFrame m #[(.int p0), (.int p1), (.int p2), (.int p3), (.int p4)] maxLocals = mkF m 0 #[.val (.int p0), .val (.int p1), .val (.int p2), .val (.int p3), .val (.int p4), .unset, .unset, .unset, .unset, .unset] [] := by first | (simp [entryFrame, mkF, argsToLocals, Value.category, maxLocals]; done) | rfl
def own_f0c0_0 (wd : Int32) : Int32 := (if (wd * (0 : Int32)) = (wd * (0 : Int32)) then (1 : Int32) else (0 : Int32))
theorem own_m255 : ∀ i : Fin 32, (255#32).getLsbD i.val = decide (i.val < 8) := by decide
theorem own_bit255 (v : BitVec 32) (i : Nat) (hi : i < 32) : (v &&& 255#32).getLsbD i = (v.getLsbD i && decide (i < 8)) := by
  rw [BitVec.getLsbD_and, own_m255 ⟨i, hi⟩]
theorem own_ss (v : BitVec 32) (s i : Nat) (h : s + i < 32) : (v.sshiftRight s).getLsbD i = v.getLsbD (s + i) := by
  rw [BitVec.getLsbD_sshiftRight]
  have h1 : ¬ 32 ≤ i := by omega
  simp [h1, h]
theorem own_byt (v : BitVec 32) (s i : Nat) (hs : s ≤ 24) : ((v.sshiftRight s) &&& 255#32).getLsbD i = (v.getLsbD (s + i) && decide (i < 8)) := by
  by_cases h : i < 8
  · rw [own_bit255 _ _ (by omega), own_ss _ _ _ (by omega)]
  · by_cases g : i < 32
    · rw [own_bit255 _ _ g]; simp [h]
    · rw [BitVec.getLsbD_of_ge _ _ (by omega)]; simp [h]
theorem own_sl (v : BitVec 32) (i : Nat) (hi : i < 32) : (v <<< 8).getLsbD i = (!decide (i < 8) && v.getLsbD (i - 8)) := by
  rw [BitVec.getLsbD_shiftLeft]; simp [hi]
def own_P2 (v : BitVec 32) (s t : Nat) : BitVec 32 := (((v.sshiftRight s) &&& 255#32) <<< 8) ||| ((v.sshiftRight t) &&& 255#32)
theorem own_mlow : ∀ i : Fin 32, (65535#32).getLsbD i.val = decide (i.val < 16) := by decide
theorem own_mlow3 : ∀ i : Fin 32, (16777215#32).getLsbD i.val = decide (i.val < 24) := by decide
theorem own_B2 (v : BitVec 32) : ((((v.sshiftRight 8) &&& 255#32) <<< 8) ||| ((v.sshiftRight 0) &&& 255#32)) = v &&& 65535#32 := by
  apply BitVec.eq_of_getLsbD_eq
  intro i hi
  rw [BitVec.getLsbD_or, own_sl _ _ hi, own_byt _ _ _ (by decide), own_byt _ _ _ (by decide), BitVec.getLsbD_and, own_mlow ⟨i, hi⟩]
  by_cases a : i < 8
  · have : i < 16 := by omega
    simp [a, this]
  · by_cases b : i < 16
    · have e : 8 + (i - 8) = i := by omega
      have f : i - 8 < 8 := by omega
      simp [a, b, e, f]
    · have f : ¬ i - 8 < 8 := by omega
      simp [a, b, f]
theorem own_B3 (v : BitVec 32) : ((((((v.sshiftRight 16) &&& 255#32) <<< 8) ||| ((v.sshiftRight 8) &&& 255#32)) <<< 8) ||| ((v.sshiftRight 0) &&& 255#32)) = v &&& 16777215#32 := by
  apply BitVec.eq_of_getLsbD_eq
  intro i hi
  rw [BitVec.getLsbD_or, own_sl _ _ hi, BitVec.getLsbD_or, own_byt _ _ _ (by decide), own_byt _ _ _ (by decide), BitVec.getLsbD_and, own_mlow3 ⟨i, hi⟩]
  by_cases a : i < 8
  · have : i < 24 := by omega
    simp [a, this]
  · rw [own_sl _ _ (by omega), own_byt _ _ _ (by decide)]
    by_cases b : i < 16
    · have e : 8 + (i - 8) = i := by omega
      have f : i - 8 < 8 := by omega
      have g : i < 24 := by omega
      simp [a, e, f, g]
    · by_cases c : i < 24
      · have e : 16 + (i - 8 - 8) = i := by omega
        have f : ¬ i - 8 < 8 := by omega
        have g : i - 8 - 8 < 8 := by omega
        simp [a, c, e, f, g]
      · have f : ¬ i - 8 < 8 := by omega
        have g : ¬ i - 8 - 8 < 8 := by omega
        simp [a, c, f, g]
theorem own_B4 (v : BitVec 32) : ((((((((v.sshiftRight 24) &&& 255#32) <<< 8) ||| ((v.sshiftRight 16) &&& 255#32)) <<< 8) ||| ((v.sshiftRight 8) &&& 255#32)) <<< 8) ||| ((v.sshiftRight 0) &&& 255#32)) = v := by
  apply BitVec.eq_of_getLsbD_eq
  intro i hi
  rw [BitVec.getLsbD_or, own_sl _ _ hi, BitVec.getLsbD_or, own_byt _ _ _ (by decide), own_byt _ _ _ (by decide)]
  by_cases a : i < 8
  · simp [a]
  · rw [own_sl _ _ (by omega), BitVec.getLsbD_or, own_byt _ _ _ (by decide)]
    by_cases b : i < 16
    · have e : 8 + (i - 8) = i := by omega
      have f : i - 8 < 8 := by omega
      simp [a, e, f]
    · have f : ¬ i - 8 < 8 := by omega
      rw [own_sl _ _ (by omega), own_byt _ _ _ (by decide)]
      by_cases c : i < 24
      · have e : 16 + (i - 8 - 8) = i := by omega
        have g : i - 8 - 8 < 8 := by omega
        simp [a, e, f, g]
      · have g : ¬ i - 8 - 8 < 8 := by omega
        have e : 24 + (i - 8 - 8 - 8) = i := by omega
        have k : i - 8 - 8 - 8 < 8 := by omega
        simp [a, e, f, g, k]
theorem own_sx (x : BitVec 32) : ((x.signExtend 8).signExtend 32) &&& 255#32 = x &&& 255#32 := by
  apply BitVec.eq_of_getLsbD_eq
  intro i hi
  rw [own_bit255 _ _ hi, own_bit255 _ _ hi]
  by_cases a : i < 8
  · have e1 : (x.signExtend 8).getLsbD i = x.getLsbD i := by
      rw [BitVec.getLsbD_signExtend, if_pos (by omega)]
      simp only [a, decide_true, Bool.true_and]
    have e2 : ((x.signExtend 8).signExtend 32).getLsbD i = (x.signExtend 8).getLsbD i := by
      rw [BitVec.getLsbD_signExtend, if_pos a]
      simp only [hi, decide_true, Bool.true_and]
    rw [e2, e1]
  · simp [a]
theorem own_shr24 (x : Int32) : (x >>> (24 : Int32)).toBitVec = x.toBitVec.sshiftRight 24 := rfl
theorem own_shr16 (x : Int32) : (x >>> (16 : Int32)).toBitVec = x.toBitVec.sshiftRight 16 := rfl
theorem own_shr8 (x : Int32) : (x >>> (8 : Int32)).toBitVec = x.toBitVec.sshiftRight 8 := rfl
theorem own_shr0 (x : Int32) : (x >>> (0 : Int32)).toBitVec = x.toBitVec.sshiftRight 0 := rfl
theorem own_shl8 (x : Int32) : (x <<< ((8 : Int32) &&& 31)).toBitVec = x.toBitVec <<< 8 := rfl
theorem own_by (x : Int32) : ((x.toInt8.toInt32).toInt8.toInt32) &&& (255 : Int32) = x &&& (255 : Int32) := by
  have h : ∀ y : Int32, y.toInt8.toInt32 &&& (255 : Int32) = y &&& (255 : Int32) := fun y => by
    rw [← Int32.toBitVec_inj, Int32.toBitVec_and, Int32.toBitVec_and]
    exact own_sx y.toBitVec
  rw [h, h]
theorem own_s0 (v : Int32) : v >>> (0 : Int32) = v := by
  rw [← Int32.toBitVec_inj, own_shr0, BitVec.sshiftRight_zero]
theorem own_nb (x : Int32) : (nar .byte (x.toInt8.toInt32)) &&& (255 : Int32) = x &&& (255 : Int32) := own_by x
theorem own_r0 (fb : Nat → Int32) (q v : Int32) : own_f2_0 q 0 fb = own_f3_0 v 0 := by
  unfold own_f2_0 own_f2_15 own_f2_35 own_f2_55 own_f3_0
  rw [if_pos (by decide), if_pos (by decide), if_pos (by decide), if_pos (by decide), if_pos rfl]
theorem own_r1 (fb : Nat → Int32) (q v : Int32) (h0 : fb q.toNatClampNeg = nar .byte ((v >>> (0 : Int32)).toInt8.toInt32)) : own_f2_0 q 1 fb = own_f3_0 v 1 := by
  unfold own_f2_0 own_f2_15 own_f2_35 own_f2_55 own_f3_0
  rw [if_neg (by decide : ¬ (1 : Int32) < 1), if_pos (by decide : (1 : Int32) < 2), if_pos (by decide : (1 : Int32) < 3), if_pos (by decide : (1 : Int32) < 4), if_neg (by decide : ¬ (1 : Int32) = 0), if_neg (by decide : ¬ (1 : Int32) = 4), h0, own_nb, own_s0, show ((1 : Int32) <<< (((8 : Int32) * 1) &&& 31)) - (1 : Int32) = 255 from by decide]
theorem own_r2 (fb : Nat → Int32) (q v : Int32) (h0 : fb q.toNatClampNeg = nar .byte ((v >>> (8 : Int32)).toInt8.toInt32)) (h1 : fb (q + 1).toNatClampNeg = nar .byte ((v >>> (0 : Int32)).toInt8.toInt32)) : own_f2_0 q 2 fb = own_f3_0 v 2 := by
  unfold own_f2_0 own_f2_15 own_f2_35 own_f2_55 own_f3_0
  rw [if_neg (by decide : ¬ (2 : Int32) < 1), if_neg (by decide : ¬ (2 : Int32) < 2), if_pos (by decide : (2 : Int32) < 3), if_pos (by decide : (2 : Int32) < 4), if_neg (by decide : ¬ (2 : Int32) = 0), if_neg (by decide : ¬ (2 : Int32) = 4), h0, h1, own_nb, own_nb, show ((1 : Int32) <<< (((8 : Int32) * 2) &&& 31)) - (1 : Int32) = 65535 from by decide]
  rw [← Int32.toBitVec_inj]
  simp only [Int32.toBitVec_and, Int32.toBitVec_or, own_shl8, own_shr8, own_shr0]
  exact own_B2 v.toBitVec
theorem own_r3 (fb : Nat → Int32) (q v : Int32) (h0 : fb q.toNatClampNeg = nar .byte ((v >>> (16 : Int32)).toInt8.toInt32)) (h1 : fb (q + 1).toNatClampNeg = nar .byte ((v >>> (8 : Int32)).toInt8.toInt32)) (h2 : fb (q + 2).toNatClampNeg = nar .byte ((v >>> (0 : Int32)).toInt8.toInt32)) : own_f2_0 q 3 fb = own_f3_0 v 3 := by
  unfold own_f2_0 own_f2_15 own_f2_35 own_f2_55 own_f3_0
  rw [if_neg (by decide : ¬ (3 : Int32) < 1), if_neg (by decide : ¬ (3 : Int32) < 2), if_neg (by decide : ¬ (3 : Int32) < 3), if_pos (by decide : (3 : Int32) < 4), if_neg (by decide : ¬ (3 : Int32) = 0), if_neg (by decide : ¬ (3 : Int32) = 4), h0, h1, h2, own_nb, own_nb, own_nb, show ((1 : Int32) <<< (((8 : Int32) * 3) &&& 31)) - (1 : Int32) = 16777215 from by decide]
  rw [← Int32.toBitVec_inj]
  simp only [Int32.toBitVec_and, Int32.toBitVec_or, own_shl8, own_shr16, own_shr8, own_shr0]
  exact own_B3 v.toBitVec
theorem own_r4 (fb : Nat → Int32) (q v : Int32) (h0 : fb q.toNatClampNeg = nar .byte ((v >>> (24 : Int32)).toInt8.toInt32)) (h1 : fb (q + 1).toNatClampNeg = nar .byte ((v >>> (16 : Int32)).toInt8.toInt32)) (h2 : fb (q + 2).toNatClampNeg = nar .byte ((v >>> (8 : Int32)).toInt8.toInt32)) (h3 : fb (q + 3).toNatClampNeg = nar .byte ((v >>> (0 : Int32)).toInt8.toInt32)) : own_f2_0 q 4 fb = own_f3_0 v 4 := by
  unfold own_f2_0 own_f2_15 own_f2_35 own_f2_55 own_f3_0
  rw [if_neg (by decide : ¬ (4 : Int32) < 1), if_neg (by decide : ¬ (4 : Int32) < 2), if_neg (by decide : ¬ (4 : Int32) < 3), if_neg (by decide : ¬ (4 : Int32) < 4), if_neg (by decide : ¬ (4 : Int32) = 0), if_pos rfl, h0, h1, h2, h3, own_nb, own_nb, own_nb, own_nb]
  rw [← Int32.toBitVec_inj]
  simp only [Int32.toBitVec_and, Int32.toBitVec_or, own_shl8, own_shr24, own_shr16, own_shr8, own_shr0]
  exact own_B4 v.toBitVec
/-- what lies at a place of the packed bytes -/
theorem own_gk (w s : Int32) (fv : Nat → Int32) (m k i : Nat) (v : Int32) (h : k < m) (hi : k / w.toNatClampNeg = i) (hv : fv i = v) (hs : ((8 : Int32) * ((w - (1 : Int32)) - (k % w.toNatClampNeg).toInt32)) &&& 31 = s) : own_g w fv m k = nar .byte ((v >>> s).toInt8.toInt32) := by
  unfold own_g own_byte
  rw [if_pos h, hi, hv, hs]
theorem own_law0 (p0 p1 p2 p3 p4 wd : Int32) (H : own_W wd) : own_f0c0_0 wd = 1 := by
  unfold own_f0c0_0
  rw [if_pos rfl]
set_option maxRecDepth 65536 in
set_option maxHeartbeats 40000000 in
theorem own_rm0c0 (l : Launch) (Z : State) (aA : Array Value) (hw : ∀ d ∈ tables_1, d.before aA Z = true) (ws : List Jvm.Cond) (p0 : Int32) (p1 : Int32) (p2 : Int32) (p3 : Int32) (p4 : Int32)  (h0 : Heap) (n0 : Nat) (Z0 : n0 ≤ h0.size) (hc : (p1 &&& (3 : Int32)) = (0 : Int32)) :
    MetFree l x (head1 (Jvm.Cond.code x code maxLocals ret :: ws) room_1) (fun a U => a = #[(.int p0), (.int p1), (.int p2), (.int p3), (.int p4)] ∧ Z.Warmed39 U.vm ∧ U.heap = h0) (fun _ _ _ _ _ => True) (fun _ U o U' => ∃ v L, o = .returned v ∧ (QL (.int ((1 : Int32))) n0) v U'.heap L ∧ FrameEnd U o U' L 16 128) := by
  refine MetFree.of_bodySF (plainFor_of_name own_pn1) hisR ?_
  intro p e s m args below meth c s₁ Bd hml0 hP hK
  obtain ⟨rfl, hZ, hh⟩ := hP
  have hx := Bd.exec
  have hby := Bd.bytes
  have hml : c.maxLocals = 10 := hml0
  have hown : s.vm.findClass "com/example/rasterline/rasterline/formats/png/KnownChunkPackedPinLaw" = some m.cls := findClass_of_methodNamed Bd.named
  have hnm := (name_of_methodNamed Bd.named Bd.method).1
  have X0 : Stand p l e room_1 s m #[(.int p0), (.int p1), (.int p2), (.int p3), (.int p4)] below meth c s₁ [] 0 0 := Stand.of_body Bd
  have e0 : s₁.heap = h0 := by rw [← hh, Bd.state]; rfl
  have N0 := Fr.nil n0
  refine Owe.step (T := s₁) (T' := s₁) (g' := (mkF m 0 #[.val (.int p0), .val (.int p1), .val (.int p2), .val (.int p3), .val (.int p4), .unset, .unset, .unset, .unset, .unset] [])) (fun t k => castTop (own_ef0c0 m p0 p1 p2 p3 p4) k) ?_
  refine Owe.step (T' := s₁) (g' := (mkF m 6 #[.val (.int p0), .val (.int p1), .val (.int p2), .val (.int p3), .val (.int p4), .unset, .unset, .unset, .unset, .unset] [(.int ((p0 &&& (2147483647 : Int32)) - ((p0 &&& (2147483647 : Int32)) / (5 : Int32)) * (5 : Int32)))])) (fun t k => ?_) ?_
  · show Steps p.tables e below (s₁.setTop (mkF m 0 #[.val (.int p0), .val (.int p1), .val (.int p2), .val (.int p3), .val (.int p4), .unset, .unset, .unset, .unset, .unset] [])) t
    refine XS.iloadN X0.here hx rfl (hb hby at_0) rfl ?_
    show Steps p.tables e below (s₁.setTop (mkF m 1 #[.val (.int p0), .val (.int p1), .val (.int p2), .val (.int p3), .val (.int p4), .unset, .unset, .unset, .unset, .unset] [(.int p0)])) t
    refine X0.ldcInt hx hown (mvT hZ (hw _ (List.mem_of_getElem? (i := 0) rfl))) (g := (mkF m 1 #[.val (.int p0), .val (.int p1), .val (.int p2), .val (.int p3), .val (.int p4), .unset, .unset, .unset, .unset, .unset] [(.int p0)])) rfl (hb hby at_1) _ ?_
    show Steps p.tables e below (s₁.setTop (mkF m 3 #[.val (.int p0), .val (.int p1), .val (.int p2), .val (.int p3), .val (.int p4), .unset, .unset, .unset, .unset, .unset] [(.int (2147483647 : Int32)), (.int p0)])) t
    refine XS.iand X0.here hx rfl (hb hby at_3) rfl ?_
    show Steps p.tables e below (s₁.setTop (mkF m 4 #[.val (.int p0), .val (.int p1), .val (.int p2), .val (.int p3), .val (.int p4), .unset, .unset, .unset, .unset, .unset] [(.int (p0 &&& (2147483647 : Int32)))])) t
    refine XS.iconst X0.here hx rfl (hb hby at_4) ?_
    show Steps p.tables e below (s₁.setTop (mkF m 5 #[.val (.int p0), .val (.int p1), .val (.int p2), .val (.int p3), .val (.int p4), .unset, .unset, .unset, .unset, .unset] [(.int (5 : Int32)), (.int (p0 &&& (2147483647 : Int32)))])) t
    refine XS.irem X0.here hx rfl (hb hby at_5) rfl (by decide) ?_
    show Steps p.tables e below (s₁.setTop (mkF m 6 #[.val (.int p0), .val (.int p1), .val (.int p2), .val (.int p3), .val (.int p4), .unset, .unset, .unset, .unset, .unset] [(.int ((p0 &&& (2147483647 : Int32)) - ((p0 &&& (2147483647 : Int32)) / (5 : Int32)) * (5 : Int32)))])) t
    exact k
  obtain ⟨wd, e_wd⟩ : ∃ z, z = ((p0 &&& (2147483647 : Int32)) - ((p0 &&& (2147483647 : Int32)) / (5 : Int32)) * (5 : Int32)) := ⟨_, rfl⟩
  rw [← e_wd]
  have H_wd : own_W wd := by rw [e_wd]; exact own_w5 p0
  refine Owe.step (T' := s₁) (g' := (mkF m 11 #[.val (.int p0), .val (.int p1), .val (.int p2), .val (.int p3), .val (.int p4), .val (.int wd), .unset, .unset, .unset, .unset] [(.int (p1 &&& (3 : Int32)))])) (fun t k => ?_) ?_
  · show Steps p.tables e below (s₁.setTop (mkF m 6 #[.val (.int p0), .val (.int p1), .val (.int p2), .val (.int p3), .val (.int p4), .unset, .unset, .unset, .unset, .unset] [(.int wd)])) t
    refine XS.istore X0.here hx rfl (hb hby at_6) rfl (l' := #[.val (.int p0), .val (.int p1), .val (.int p2), .val (.int p3), .val (.int p4), .val (.int wd), .unset, .unset, .unset, .unset]) rfl ?_
    show Steps p.tables e below (s₁.setTop (mkF m 8 #[.val (.int p0), .val (.int p1), .val (.int p2), .val (.int p3), .val (.int p4), .val (.int wd), .unset, .unset, .unset, .unset] [])) t
    refine XS.iloadN X0.here hx rfl (hb hby at_8) rfl ?_
    show Steps p.tables e below (s₁.setTop (mkF m 9 #[.val (.int p0), .val (.int p1), .val (.int p2), .val (.int p3), .val (.int p4), .val (.int wd), .unset, .unset, .unset, .unset] [(.int p1)])) t
    refine XS.iconst X0.here hx rfl (hb hby at_9) ?_
    show Steps p.tables e below (s₁.setTop (mkF m 10 #[.val (.int p0), .val (.int p1), .val (.int p2), .val (.int p3), .val (.int p4), .val (.int wd), .unset, .unset, .unset, .unset] [(.int (3 : Int32)), (.int p1)])) t
    refine XS.iand X0.here hx rfl (hb hby at_10) rfl ?_
    show Steps p.tables e below (s₁.setTop (mkF m 11 #[.val (.int p0), .val (.int p1), .val (.int p2), .val (.int p3), .val (.int p4), .val (.int wd), .unset, .unset, .unset, .unset] [(.int (p1 &&& (3 : Int32)))])) t
    exact k
  rw [hc]
  obtain ⟨T1, h1, k1, X1, e1, E1, A1, st1⟩ := newP X0 hx hZ (hw _ (List.mem_of_getElem? (i := 1) rfl)) e0 (g := (mkF m 15 #[.val (.int p0), .val (.int p1), .val (.int p2), .val (.int p3), .val (.int p4), .val (.int wd), .val (.int (0 : Int32)), .unset, .unset, .unset] [(.int (0 : Int32))])) rfl (hb hby at_15) rfl (by decide) (cap := 0) (by decide) (by decide) (by decide) (by decide)
  obtain ⟨b1, g1⟩ : ∃ z, z = h0.size := ⟨_, rfl⟩
  rw [← g1] at A1 st1
  have g_b1 : n0 ≤ b1 := Nat.le_trans Z0 (Nat.le_of_eq g1.symm)
  have Zn1 : n0 ≤ h1.size := Nat.le_trans Z0 E1.1
  have V1 : AI Z h1 b1 .int 0 (fun _ => (0 : Int32)) := AV.new A1 (by decide)
  obtain ⟨_, _, ⟨T2, L2, k2, n2⟩, -, X2, ⟨Lc2, hQ2, l2, y2, z2⟩, st2⟩ := Jvm.LawKit.callS X1 hx (y := (⟨"com/example/rasterline/rasterline/formats/png/KnownChunk", "packed", "(I[I)[B"⟩ : MethodName)) hown (mvT hZ (hw _ (List.mem_of_getElem? (i := 2) rfl))) (mvT hZ (hw _ (List.mem_of_getElem? (i := 3) rfl))) (mvT hZ (hw _ (List.mem_of_getElem? (i := 4) rfl))) (mvT hZ (hw _ (List.mem_of_getElem? (i := 5) rfl))) (by decide) (backOf (W := 0) (own_rm1 l Z aA hw [] wd b1 0 (fun _ => (0 : Int32)) (0 : Int32) h1 n0 Zn1 V1 (by decide) (by decide) (by decide) H_wd) hZ (hw _ (List.mem_of_getElem? (i := 5) rfl)) (hw _ (List.mem_of_getElem? (i := 4) rfl)) (by decide) (by decide)) (g := (mkF m 56 #[.val (.int p0), .val (.int p1), .val (.int p2), .val (.int p3), .val (.int p4), .val (.int wd), .val (.int (0 : Int32)), .val (.ref b1), .unset, .unset] [(.ref b1), (.int wd)])) rfl (by rw [hml]; rfl) (argsL := [(.int wd), (.ref b1)]) (rest := []) (lenOf own_pd0 rfl) rfl (by show 2 * 0 + _ ≤ _; exact Nat.le_of_eq rfl) (hb hby at_56) (fun _ _ => ⟨rfl, e1, (by decide : 1 + 1 ≤ _), (by decide : 0 + 12 ≤ _)⟩)
  dsimp only [Pt.U, Pt.locs, Pt.cells, Pt.slots] at X2 l2 y2 z2 st2 hQ2
  subst y2 z2
  obtain ⟨h2, eh2⟩ : ∃ z, T2.heap = z := ⟨_, rfl⟩
  rw [eh2] at hQ2
  obtain ⟨b1_2, rfl, N2q, K2q, sz2_b1_2, G2_0⟩ := hQ2
  have N2 : Fr n0 L2 := by rw [l2]; exact Fr.app N0 N2q
  have ne_b1_b1_2 : b1 ≠ b1_2 := Nat.ne_of_lt (Nat.lt_of_lt_of_le V1.lt sz2_b1_2)
  have g_b1_2 : n0 ≤ b1_2 := Nat.le_trans Zn1 sz2_b1_2
  have V1_k2 := V1.keep K2q (by simp only [List.mem_cons, List.not_mem_nil, or_false, not_or, not_false_eq_true])
  have Zn2 : n0 ≤ h2.size := Nat.le_trans Zn1 K2q.1
  refine Owe.step (T' := T2) (g' := (mkF m 74 #[.val (.int p0), .val (.int p1), .val (.int p2), .val (.int p3), .val (.int p4), .val (.int wd), .val (.int (0 : Int32)), .val (.ref b1), .val (.ref b1_2), .unset] [(.int (wd * (0 : Int32))), (.int (wd * (0 : Int32)))])) (fun t k => ?_) ?_
  · show Steps p.tables e below (s₁.setTop (mkF m 11 #[.val (.int p0), .val (.int p1), .val (.int p2), .val (.int p3), .val (.int p4), .val (.int wd), .unset, .unset, .unset, .unset] [(.int (0 : Int32))])) t
    refine XS.istore X0.here hx rfl (hb hby at_11) rfl (l' := #[.val (.int p0), .val (.int p1), .val (.int p2), .val (.int p3), .val (.int p4), .val (.int wd), .val (.int (0 : Int32)), .unset, .unset, .unset]) rfl ?_
    show Steps p.tables e below (s₁.setTop (mkF m 13 #[.val (.int p0), .val (.int p1), .val (.int p2), .val (.int p3), .val (.int p4), .val (.int wd), .val (.int (0 : Int32)), .unset, .unset, .unset] [])) t
    refine XS.iload X0.here hx rfl (hb hby at_13) rfl ?_
    show Steps p.tables e below (s₁.setTop (mkF m 15 #[.val (.int p0), .val (.int p1), .val (.int p2), .val (.int p3), .val (.int p4), .val (.int wd), .val (.int (0 : Int32)), .unset, .unset, .unset] [(.int (0 : Int32))])) t
    refine st1 _ ?_
    show Steps p.tables e below (T1.setTop (mkF m 17 #[.val (.int p0), .val (.int p1), .val (.int p2), .val (.int p3), .val (.int p4), .val (.int wd), .val (.int (0 : Int32)), .unset, .unset, .unset] [(.ref b1)])) t
    refine XS.astore X1.here hx rfl (hb hby at_17) rfl rfl (l' := #[.val (.int p0), .val (.int p1), .val (.int p2), .val (.int p3), .val (.int p4), .val (.int wd), .val (.int (0 : Int32)), .val (.ref b1), .unset, .unset]) rfl ?_
    show Steps p.tables e below (T1.setTop (mkF m 19 #[.val (.int p0), .val (.int p1), .val (.int p2), .val (.int p3), .val (.int p4), .val (.int wd), .val (.int (0 : Int32)), .val (.ref b1), .unset, .unset] [])) t
    refine XS.iload X1.here hx rfl (hb hby at_19) rfl ?_
    show Steps p.tables e below (T1.setTop (mkF m 21 #[.val (.int p0), .val (.int p1), .val (.int p2), .val (.int p3), .val (.int p4), .val (.int wd), .val (.int (0 : Int32)), .val (.ref b1), .unset, .unset] [(.int (0 : Int32))])) t
    refine XS.ifYes X1.here hx rfl (pc0 := 21) (pc' := 29) rfl (hb hby at_21) rfl ((if0 _ _).trans (flt (by decide : ¬ ((0 : Int32) < (0 : Int32)))).2.2.2) (by decide) (by decide) ?_
    show Steps p.tables e below (T1.setTop (mkF m 29 #[.val (.int p0), .val (.int p1), .val (.int p2), .val (.int p3), .val (.int p4), .val (.int wd), .val (.int (0 : Int32)), .val (.ref b1), .unset, .unset] [])) t
    refine XS.iload X1.here hx rfl (hb hby at_29) rfl ?_
    show Steps p.tables e below (T1.setTop (mkF m 31 #[.val (.int p0), .val (.int p1), .val (.int p2), .val (.int p3), .val (.int p4), .val (.int wd), .val (.int (0 : Int32)), .val (.ref b1), .unset, .unset] [(.int (0 : Int32))])) t
    refine XS.iconst X1.here hx rfl (hb hby at_31) ?_
    show Steps p.tables e below (T1.setTop (mkF m 32 #[.val (.int p0), .val (.int p1), .val (.int p2), .val (.int p3), .val (.int p4), .val (.int wd), .val (.int (0 : Int32)), .val (.ref b1), .unset, .unset] [(.int (1 : Int32)), (.int (0 : Int32))])) t
    refine XS.icmpYes X1.here hx rfl (pc0 := 32) (pc' := 40) rfl (hb hby at_32) rfl (flt (by decide : ¬ ((1 : Int32) < (0 : Int32)))).2.2.2 (by decide) (by decide) ?_
    show Steps p.tables e below (T1.setTop (mkF m 40 #[.val (.int p0), .val (.int p1), .val (.int p2), .val (.int p3), .val (.int p4), .val (.int wd), .val (.int (0 : Int32)), .val (.ref b1), .unset, .unset] [])) t
    refine XS.iload X1.here hx rfl (hb hby at_40) rfl ?_
    show Steps p.tables e below (T1.setTop (mkF m 42 #[.val (.int p0), .val (.int p1), .val (.int p2), .val (.int p3), .val (.int p4), .val (.int wd), .val (.int (0 : Int32)), .val (.ref b1), .unset, .unset] [(.int (0 : Int32))])) t
    refine XS.iconst X1.here hx rfl (hb hby at_42) ?_
    show Steps p.tables e below (T1.setTop (mkF m 43 #[.val (.int p0), .val (.int p1), .val (.int p2), .val (.int p3), .val (.int p4), .val (.int wd), .val (.int (0 : Int32)), .val (.ref b1), .unset, .unset] [(.int (2 : Int32)), (.int (0 : Int32))])) t
    refine XS.icmpYes X1.here hx rfl (pc0 := 43) (pc' := 52) rfl (hb hby at_43) rfl (flt (by decide : ¬ ((2 : Int32) < (0 : Int32)))).2.2.2 (by decide) (by decide) ?_
    show Steps p.tables e below (T1.setTop (mkF m 52 #[.val (.int p0), .val (.int p1), .val (.int p2), .val (.int p3), .val (.int p4), .val (.int wd), .val (.int (0 : Int32)), .val (.ref b1), .unset, .unset] [])) t
    refine XS.iload X1.here hx rfl (hb hby at_52) rfl ?_
    show Steps p.tables e below (T1.setTop (mkF m 54 #[.val (.int p0), .val (.int p1), .val (.int p2), .val (.int p3), .val (.int p4), .val (.int wd), .val (.int (0 : Int32)), .val (.ref b1), .unset, .unset] [(.int wd)])) t
    refine XS.aload X1.here hx rfl (hb hby at_54) rfl rfl ?_
    show Steps p.tables e below (T1.setTop (mkF m 56 #[.val (.int p0), .val (.int p1), .val (.int p2), .val (.int p3), .val (.int p4), .val (.int wd), .val (.int (0 : Int32)), .val (.ref b1), .unset, .unset] [(.ref b1), (.int wd)])) t
    refine st2 _ ?_
    show Steps p.tables e below (T2.setTop (mkF m 59 #[.val (.int p0), .val (.int p1), .val (.int p2), .val (.int p3), .val (.int p4), .val (.int wd), .val (.int (0 : Int32)), .val (.ref b1), .unset, .unset] [(.ref b1_2)])) t
    refine XS.astore X2.here hx rfl (hb hby at_59) rfl rfl (l' := #[.val (.int p0), .val (.int p1), .val (.int p2), .val (.int p3), .val (.int p4), .val (.int wd), .val (.int (0 : Int32)), .val (.ref b1), .val (.ref b1_2), .unset]) rfl ?_
    show Steps p.tables e below (T2.setTop (mkF m 61 #[.val (.int p0), .val (.int p1), .val (.int p2), .val (.int p3), .val (.int p4), .val (.int wd), .val (.int (0 : Int32)), .val (.ref b1), .val (.ref b1_2), .unset] [])) t
    refine XS.aload X2.here hx rfl (hb hby at_61) rfl rfl ?_
    show Steps p.tables e below (T2.setTop (mkF m 63 #[.val (.int p0), .val (.int p1), .val (.int p2), .val (.int p3), .val (.int p4), .val (.int wd), .val (.int (0 : Int32)), .val (.ref b1), .val (.ref b1_2), .unset] [(.ref b1_2)])) t
    refine XS.ifnullNo X2.here hx rfl (hb hby at_63) rfl ?_
    show Steps p.tables e below (T2.setTop (mkF m 66 #[.val (.int p0), .val (.int p1), .val (.int p2), .val (.int p3), .val (.int p4), .val (.int wd), .val (.int (0 : Int32)), .val (.ref b1), .val (.ref b1_2), .unset] [])) t
    refine XS.aload X2.here hx rfl (hb hby at_66) rfl rfl ?_
    show Steps p.tables e below (T2.setTop (mkF m 68 #[.val (.int p0), .val (.int p1), .val (.int p2), .val (.int p3), .val (.int p4), .val (.int wd), .val (.int (0 : Int32)), .val (.ref b1), .val (.ref b1_2), .unset] [(.ref b1_2)])) t
    refine lenA X2 hx hZ eh2 G2_0 (z := (wd * (0 : Int32))) (own_len H_wd (by decide)) (g := (mkF m 68 #[.val (.int p0), .val (.int p1), .val (.int p2), .val (.int p3), .val (.int p4), .val (.int wd), .val (.int (0 : Int32)), .val (.ref b1), .val (.ref b1_2), .unset] [(.ref b1_2)])) rfl rfl (hb hby at_68) _ ?_
    show Steps p.tables e below (T2.setTop (mkF m 69 #[.val (.int p0), .val (.int p1), .val (.int p2), .val (.int p3), .val (.int p4), .val (.int wd), .val (.int (0 : Int32)), .val (.ref b1), .val (.ref b1_2), .unset] [(.int (wd * (0 : Int32)))])) t
    refine XS.iload X2.here hx rfl (hb hby at_69) rfl ?_
    show Steps p.tables e below (T2.setTop (mkF m 71 #[.val (.int p0), .val (.int p1), .val (.int p2), .val (.int p3), .val (.int p4), .val (.int wd), .val (.int (0 : Int32)), .val (.ref b1), .val (.ref b1_2), .unset] [(.int wd), (.int (wd * (0 : Int32)))])) t
    refine XS.iload X2.here hx rfl (hb hby at_71) rfl ?_
    show Steps p.tables e below (T2.setTop (mkF m 73 #[.val (.int p0), .val (.int p1), .val (.int p2), .val (.int p3), .val (.int p4), .val (.int wd), .val (.int (0 : Int32)), .val (.ref b1), .val (.ref b1_2), .unset] [(.int (0 : Int32)), (.int wd), (.int (wd * (0 : Int32)))])) t
    refine XS.imul X2.here hx rfl (hb hby at_73) rfl ?_
    show Steps p.tables e below (T2.setTop (mkF m 74 #[.val (.int p0), .val (.int p1), .val (.int p2), .val (.int p3), .val (.int p4), .val (.int wd), .val (.int (0 : Int32)), .val (.ref b1), .val (.ref b1_2), .unset] [(.int (wd * (0 : Int32))), (.int (wd * (0 : Int32)))])) t
    exact k
  by_cases hc74 : (wd * (0 : Int32)) = (wd * (0 : Int32))
  · refine Owe.step (T' := T2) (g' := (mkF m 79 #[.val (.int p0), .val (.int p1), .val (.int p2), .val (.int p3), .val (.int p4), .val (.int wd), .val (.int (0 : Int32)), .val (.ref b1), .val (.ref b1_2), .unset] [])) (fun t k => ?_) ?_
    · show Steps p.tables e below (T2.setTop (mkF m 74 #[.val (.int p0), .val (.int p1), .val (.int p2), .val (.int p3), .val (.int p4), .val (.int wd), .val (.int (0 : Int32)), .val (.ref b1), .val (.ref b1_2), .unset] [(.int (wd * (0 : Int32))), (.int (wd * (0 : Int32)))])) t
      refine XS.icmpYes X2.here hx rfl (pc0 := 74) (pc' := 79) rfl (hb hby at_74) rfl (teq hc74).1 (by decide) (by decide) ?_
      show Steps p.tables e below (T2.setTop (mkF m 79 #[.val (.int p0), .val (.int p1), .val (.int p2), .val (.int p3), .val (.int p4), .val (.int wd), .val (.int (0 : Int32)), .val (.ref b1), .val (.ref b1_2), .unset] [])) t
      exact k
    refine Owe.cast (show (1 : Int32) = (1 : Int32) from (show own_f0c0_0 wd = (1 : Int32) from (by rw [own_f0c0_0, if_pos hc74])).symm.trans (own_law0 p0 p1 p2 p3 p4 wd H_wd)) ?_
    refine Owe.ret X2 Bd.notSynchronized (v := (some (.int (1 : Int32)))) (fun h => by rw [Bd.returns] at h; cases h) (fun fs hr => ?_) ⟨rfl, N2⟩ (by decide) (by decide)
    show Steps p.tables e below (T2.setTop (mkF m 79 #[.val (.int p0), .val (.int p1), .val (.int p2), .val (.int p3), .val (.int p4), .val (.int wd), .val (.int (0 : Int32)), .val (.ref b1), .val (.ref b1_2), .unset] [])) _
    refine XS.iconst X2.here hx rfl (hb hby at_79) ?_
    show Steps p.tables e below (T2.setTop (mkF m 80 #[.val (.int p0), .val (.int p1), .val (.int p2), .val (.int p3), .val (.int p4), .val (.int wd), .val (.int (0 : Int32)), .val (.ref b1), .val (.ref b1_2), .unset] [(.int (1 : Int32))])) _
    refine XS.istore X2.here hx rfl (hb hby at_80) rfl (l' := #[.val (.int p0), .val (.int p1), .val (.int p2), .val (.int p3), .val (.int p4), .val (.int wd), .val (.int (0 : Int32)), .val (.ref b1), .val (.ref b1_2), .val (.int (1 : Int32))]) rfl ?_
    show Steps p.tables e below (T2.setTop (mkF m 82 #[.val (.int p0), .val (.int p1), .val (.int p2), .val (.int p3), .val (.int p4), .val (.int wd), .val (.int (0 : Int32)), .val (.ref b1), .val (.ref b1_2), .val (.int (1 : Int32))] [])) _
    refine XS.iload X2.here hx rfl (hb hby at_82) rfl ?_
    show Steps p.tables e below (T2.setTop (mkF m 84 #[.val (.int p0), .val (.int p1), .val (.int p2), .val (.int p3), .val (.int p4), .val (.int wd), .val (.int (0 : Int32)), .val (.ref b1), .val (.ref b1_2), .val (.int (1 : Int32))] [(.int (0 : Int32))])) _
    refine XS.ifYes X2.here hx rfl (pc0 := 84) (pc' := 116) rfl (hb hby at_84) rfl ((if0 _ _).trans (flt (by decide : ¬ ((0 : Int32) < (0 : Int32)))).2.2.2) (by decide) (by decide) ?_
    show Steps p.tables e below (T2.setTop (mkF m 116 #[.val (.int p0), .val (.int p1), .val (.int p2), .val (.int p3), .val (.int p4), .val (.int wd), .val (.int (0 : Int32)), .val (.ref b1), .val (.ref b1_2), .val (.int (1 : Int32))] [])) _
    refine XS.iload X2.here hx rfl (hb hby at_116) rfl ?_
    show Steps p.tables e below (T2.setTop (mkF m 118 #[.val (.int p0), .val (.int p1), .val (.int p2), .val (.int p3), .val (.int p4), .val (.int wd), .val (.int (0 : Int32)), .val (.ref b1), .val (.ref b1_2), .val (.int (1 : Int32))] [(.int (0 : Int32))])) _
    refine XS.iconst X2.here hx rfl (hb hby at_118) ?_
    show Steps p.tables e below (T2.setTop (mkF m 119 #[.val (.int p0), .val (.int p1), .val (.int p2), .val (.int p3), .val (.int p4), .val (.int wd), .val (.int (0 : Int32)), .val (.ref b1), .val (.ref b1_2), .val (.int (1 : Int32))] [(.int (1 : Int32)), (.int (0 : Int32))])) _
    refine XS.icmpYes X2.here hx rfl (pc0 := 119) (pc' := 152) rfl (hb hby at_119) rfl (flt (by decide : ¬ ((1 : Int32) < (0 : Int32)))).2.2.2 (by decide) (by decide) ?_
    show Steps p.tables e below (T2.setTop (mkF m 152 #[.val (.int p0), .val (.int p1), .val (.int p2), .val (.int p3), .val (.int p4), .val (.int wd), .val (.int (0 : Int32)), .val (.ref b1), .val (.ref b1_2), .val (.int (1 : Int32))] [])) _
    refine XS.iload X2.here hx rfl (hb hby at_152) rfl ?_
    show Steps p.tables e below (T2.setTop (mkF m 154 #[.val (.int p0), .val (.int p1), .val (.int p2), .val (.int p3), .val (.int p4), .val (.int wd), .val (.int (0 : Int32)), .val (.ref b1), .val (.ref b1_2), .val (.int (1 : Int32))] [(.int (0 : Int32))])) _
    refine XS.iconst X2.here hx rfl (hb hby at_154) ?_
    show Steps p.tables e below (T2.setTop (mkF m 155 #[.val (.int p0), .val (.int p1), .val (.int p2), .val (.int p3), .val (.int p4), .val (.int wd), .val (.int (0 : Int32)), .val (.ref b1), .val (.ref b1_2), .val (.int (1 : Int32))] [(.int (2 : Int32)), (.int (0 : Int32))])) _
    refine XS.icmpYes X2.here hx rfl (pc0 := 155) (pc' := 191) rfl (hb hby at_155) rfl (flt (by decide : ¬ ((2 : Int32) < (0 : Int32)))).2.2.2 (by decide) (by decide) ?_
    show Steps p.tables e below (T2.setTop (mkF m 191 #[.val (.int p0), .val (.int p1), .val (.int p2), .val (.int p3), .val (.int p4), .val (.int wd), .val (.int (0 : Int32)), .val (.ref b1), .val (.ref b1_2), .val (.int (1 : Int32))] [])) _
    refine XS.iload X2.here hx rfl (hb hby at_191) rfl ?_
    show Steps p.tables e below (T2.setTop (mkF m 193 #[.val (.int p0), .val (.int p1), .val (.int p2), .val (.int p3), .val (.int p4), .val (.int wd), .val (.int (0 : Int32)), .val (.ref b1), .val (.ref b1_2), .val (.int (1 : Int32))] [(.int (1 : Int32))])) _
    exact retN X2 hx (t := .boolean) Bd.returns (by simp) (hb hby at_193) hr
  · refine Owe.step (T' := T2) (g' := (mkF m 77 #[.val (.int p0), .val (.int p1), .val (.int p2), .val (.int p3), .val (.int p4), .val (.int wd), .val (.int (0 : Int32)), .val (.ref b1), .val (.ref b1_2), .unset] [])) (fun t k => ?_) ?_
    · show Steps p.tables e below (T2.setTop (mkF m 74 #[.val (.int p0), .val (.int p1), .val (.int p2), .val (.int p3), .val (.int p4), .val (.int wd), .val (.int (0 : Int32)), .val (.ref b1), .val (.ref b1_2), .unset] [(.int (wd * (0 : Int32))), (.int (wd * (0 : Int32)))])) t
      refine XS.icmpNo X2.here hx rfl (hb hby at_74) rfl (feq hc74).1 ?_
      show Steps p.tables e below (T2.setTop (mkF m 77 #[.val (.int p0), .val (.int p1), .val (.int p2), .val (.int p3), .val (.int p4), .val (.int wd), .val (.int (0 : Int32)), .val (.ref b1), .val (.ref b1_2), .unset] [])) t
      exact k
    refine Owe.cast (show (0 : Int32) = (1 : Int32) from (show own_f0c0_0 wd = (0 : Int32) from (by rw [own_f0c0_0, if_neg hc74])).symm.trans (own_law0 p0 p1 p2 p3 p4 wd H_wd)) ?_
    refine Owe.ret X2 Bd.notSynchronized (v := (some (.int (0 : Int32)))) (fun h => by rw [Bd.returns] at h; cases h) (fun fs hr => ?_) ⟨rfl, N2⟩ (by decide) (by decide)
    show Steps p.tables e below (T2.setTop (mkF m 77 #[.val (.int p0), .val (.int p1), .val (.int p2), .val (.int p3), .val (.int p4), .val (.int wd), .val (.int (0 : Int32)), .val (.ref b1), .val (.ref b1_2), .unset] [])) _
    refine XS.iconst X2.here hx rfl (hb hby at_77) ?_
    show Steps p.tables e below (T2.setTop (mkF m 78 #[.val (.int p0), .val (.int p1), .val (.int p2), .val (.int p3), .val (.int p4), .val (.int wd), .val (.int (0 : Int32)), .val (.ref b1), .val (.ref b1_2), .unset] [(.int (0 : Int32))])) _
    exact retN X2 hx (t := .boolean) Bd.returns (by simp) (hb hby at_78) hr
theorem own_pd1 : parseMethodDescriptor "([BII)I" = some ⟨[(.array .byte), .int, .int], some .int⟩ := by decide +kernel
theorem own_pd2 : parseMethodDescriptor "(II)I" = some ⟨[.int, .int], some .int⟩ := by decide +kernel
theorem own_ef0c1 (m : MethodId) (p0 : Int32) (p1 : Int32) (p2 : Int32) (p3 : Int32) (p4 : Int32) : entryFrame m #[(.int p0), (.int p1), (.int p2), (.int p3), (.int p4)] maxLocals = mkF m 0 #[.val (.int p0), .val (.int p1), .val (.int p2), .val (.int p3), .val (.int p4), .unset, .unset, .unset, .unset, .unset] [] := by first | (simp [entryFrame, mkF, argsToLocals, Value.category, maxLocals]; done) | rfl
def own_f0c1_114 (t114_0 : Int32) : Int32 := (nar .boolean t114_0)
def own_f0c1_0 (p2 : Int32) (wd : Int32) : Int32 := (if (wd * (1 : Int32)) = (wd * (1 : Int32)) then (if (own_f2_0 (0 : Int32) wd (own_g wd (own_upd (fun _ => (0 : Int32)) ((0 : Int32)).toNatClampNeg p2) (own_m wd (1 : Int32) (0 : Int32)))) = (own_f3_0 p2 wd) then (own_f0c1_114 (1 : Int32)) else (own_f0c1_114 (0 : Int32))) else (0 : Int32))
theorem own_e1_0 (p2 p3 p4 : Int32) (wd : Int32) (H : own_W wd) : own_f2_0 (0 : Int32) wd (own_g wd (own_upd (fun _ => (0 : Int32)) ((0 : Int32)).toNatClampNeg p2) (own_m wd (1 : Int32) (0 : Int32))) = own_f3_0 p2 wd := by
  rcases own_w45 H with rfl | rfl | rfl | rfl | rfl
  · exact own_r0 _ _ _
  · exact own_r1 _ _ _ (own_gk 1 0 _ _ 0 0 _ (by decide) (by decide) rfl (by decide))
  · exact own_r2 _ _ _ (own_gk 2 8 _ _ 0 0 _ (by decide) (by decide) rfl (by decide)) (own_gk 2 0 _ _ 1 0 _ (by decide) (by decide) rfl (by decide))
  · exact own_r3 _ _ _ (own_gk 3 16 _ _ 0 0 _ (by decide) (by decide) rfl (by decide)) (own_gk 3 8 _ _ 1 0 _ (by decide) (by decide) rfl (by decide)) (own_gk 3 0 _ _ 2 0 _ (by decide) (by decide) rfl (by decide))
  · exact own_r4 _ _ _ (own_gk 4 24 _ _ 0 0 _ (by decide) (by decide) rfl (by decide)) (own_gk 4 16 _ _ 1 0 _ (by decide) (by decide) rfl (by decide)) (own_gk 4 8 _ _ 2 0 _ (by decide) (by decide) rfl (by decide)) (own_gk 4 0 _ _ 3 0 _ (by decide) (by decide) rfl (by decide))
theorem own_law1 (p0 p1 p2 p3 p4 wd : Int32) (H : own_W wd) : own_f0c1_0 p2 wd = 1 := by
  unfold own_f0c1_0
  rw [if_pos rfl, if_pos (own_e1_0 p2 p3 p4 wd H)]
  decide
set_option maxRecDepth 65536 in
set_option maxHeartbeats 40000000 in
theorem own_rm0c1 (l : Launch) (Z : State) (aA : Array Value) (hw : ∀ d ∈ tables_1, d.before aA Z = true) (ws : List Jvm.Cond) (p0 : Int32) (p1 : Int32) (p2 : Int32) (p3 : Int32) (p4 : Int32)  (h0 : Heap) (n0 : Nat) (Z0 : n0 ≤ h0.size) (hc : (p1 &&& (3 : Int32)) = (1 : Int32)) :
    MetFree l x (head1 (Jvm.Cond.code x code maxLocals ret :: ws) room_1) (fun a U => a = #[(.int p0), (.int p1), (.int p2), (.int p3), (.int p4)] ∧ Z.Warmed39 U.vm ∧ U.heap = h0) (fun _ _ _ _ _ => True) (fun _ U o U' => ∃ v L, o = .returned v ∧ (QL (.int ((1 : Int32))) n0) v U'.heap L ∧ FrameEnd U o U' L 16 128) := by
  refine MetFree.of_bodySF (plainFor_of_name own_pn1) hisR ?_
  intro p e s m args below meth c s₁ Bd hml0 hP hK
  obtain ⟨rfl, hZ, hh⟩ := hP
  have hx := Bd.exec
  have hby := Bd.bytes
  have hml : c.maxLocals = 10 := hml0
  have hown : s.vm.findClass "com/example/rasterline/rasterline/formats/png/KnownChunkPackedPinLaw" = some m.cls := findClass_of_methodNamed Bd.named
  have hnm := (name_of_methodNamed Bd.named Bd.method).1
  have X0 : Stand p l e room_1 s m #[(.int p0), (.int p1), (.int p2), (.int p3), (.int p4)] below meth c s₁ [] 0 0 := Stand.of_body Bd
  have e0 : s₁.heap = h0 := by rw [← hh, Bd.state]; rfl
  have N0 := Fr.nil n0
  refine Owe.step (T := s₁) (T' := s₁) (g' := (mkF m 0 #[.val (.int p0), .val (.int p1), .val (.int p2), .val (.int p3), .val (.int p4), .unset, .unset, .unset, .unset, .unset] [])) (fun t k => castTop (own_ef0c1 m p0 p1 p2 p3 p4) k) ?_
  refine Owe.step (T' := s₁) (g' := (mkF m 6 #[.val (.int p0), .val (.int p1), .val (.int p2), .val (.int p3), .val (.int p4), .unset, .unset, .unset, .unset, .unset] [(.int ((p0 &&& (2147483647 : Int32)) - ((p0 &&& (2147483647 : Int32)) / (5 : Int32)) * (5 : Int32)))])) (fun t k => ?_) ?_
  · show Steps p.tables e below (s₁.setTop (mkF m 0 #[.val (.int p0), .val (.int p1), .val (.int p2), .val (.int p3), .val (.int p4), .unset, .unset, .unset, .unset, .unset] [])) t
    refine XS.iloadN X0.here hx rfl (hb hby at_0) rfl ?_
    show Steps p.tables e below (s₁.setTop (mkF m 1 #[.val (.int p0), .val (.int p1), .val (.int p2), .val (.int p3), .val (.int p4), .unset, .unset, .unset, .unset, .unset] [(.int p0)])) t
    refine X0.ldcInt hx hown (mvT hZ (hw _ (List.mem_of_getElem? (i := 0) rfl))) (g := (mkF m 1 #[.val (.int p0), .val (.int p1), .val (.int p2), .val (.int p3), .val (.int p4), .unset, .unset, .unset, .unset, .unset] [(.int p0)])) rfl (hb hby at_1) _ ?_
    show Steps p.tables e below (s₁.setTop (mkF m 3 #[.val (.int p0), .val (.int p1), .val (.int p2), .val (.int p3), .val (.int p4), .unset, .unset, .unset, .unset, .unset] [(.int (2147483647 : Int32)), (.int p0)])) t
    refine XS.iand X0.here hx rfl (hb hby at_3) rfl ?_
    show Steps p.tables e below (s₁.setTop (mkF m 4 #[.val (.int p0), .val (.int p1), .val (.int p2), .val (.int p3), .val (.int p4), .unset, .unset, .unset, .unset, .unset] [(.int (p0 &&& (2147483647 : Int32)))])) t
    refine XS.iconst X0.here hx rfl (hb hby at_4) ?_
    show Steps p.tables e below (s₁.setTop (mkF m 5 #[.val (.int p0), .val (.int p1), .val (.int p2), .val (.int p3), .val (.int p4), .unset, .unset, .unset, .unset, .unset] [(.int (5 : Int32)), (.int (p0 &&& (2147483647 : Int32)))])) t
    refine XS.irem X0.here hx rfl (hb hby at_5) rfl (by decide) ?_
    show Steps p.tables e below (s₁.setTop (mkF m 6 #[.val (.int p0), .val (.int p1), .val (.int p2), .val (.int p3), .val (.int p4), .unset, .unset, .unset, .unset, .unset] [(.int ((p0 &&& (2147483647 : Int32)) - ((p0 &&& (2147483647 : Int32)) / (5 : Int32)) * (5 : Int32)))])) t
    exact k
  obtain ⟨wd, e_wd⟩ : ∃ z, z = ((p0 &&& (2147483647 : Int32)) - ((p0 &&& (2147483647 : Int32)) / (5 : Int32)) * (5 : Int32)) := ⟨_, rfl⟩
  rw [← e_wd]
  have H_wd : own_W wd := by rw [e_wd]; exact own_w5 p0
  refine Owe.step (T' := s₁) (g' := (mkF m 11 #[.val (.int p0), .val (.int p1), .val (.int p2), .val (.int p3), .val (.int p4), .val (.int wd), .unset, .unset, .unset, .unset] [(.int (p1 &&& (3 : Int32)))])) (fun t k => ?_) ?_
  · show Steps p.tables e below (s₁.setTop (mkF m 6 #[.val (.int p0), .val (.int p1), .val (.int p2), .val (.int p3), .val (.int p4), .unset, .unset, .unset, .unset, .unset] [(.int wd)])) t
    refine XS.istore X0.here hx rfl (hb hby at_6) rfl (l' := #[.val (.int p0), .val (.int p1), .val (.int p2), .val (.int p3), .val (.int p4), .val (.int wd), .unset, .unset, .unset, .unset]) rfl ?_
    show Steps p.tables e below (s₁.setTop (mkF m 8 #[.val (.int p0), .val (.int p1), .val (.int p2), .val (.int p3), .val (.int p4), .val (.int wd), .unset, .unset, .unset, .unset] [])) t
    refine XS.iloadN X0.here hx rfl (hb hby at_8) rfl ?_
    show Steps p.tables e below (s₁.setTop (mkF m 9 #[.val (.int p0), .val (.int p1), .val (.int p2), .val (.int p3), .val (.int p4), .val (.int wd), .unset, .unset, .unset, .unset] [(.int p1)])) t
    refine XS.iconst X0.here hx rfl (hb hby at_9) ?_
    show Steps p.tables e below (s₁.setTop (mkF m 10 #[.val (.int p0), .val (.int p1), .val (.int p2), .val (.int p3), .val (.int p4), .val (.int wd), .unset, .unset, .unset, .unset] [(.int (3 : Int32)), (.int p1)])) t
    refine XS.iand X0.here hx rfl (hb hby at_10) rfl ?_
    show Steps p.tables e below (s₁.setTop (mkF m 11 #[.val (.int p0), .val (.int p1), .val (.int p2), .val (.int p3), .val (.int p4), .val (.int wd), .unset, .unset, .unset, .unset] [(.int (p1 &&& (3 : Int32)))])) t
    exact k
  rw [hc]
  obtain ⟨T1, h1, k1, X1, e1, E1, A1, st1⟩ := newP X0 hx hZ (hw _ (List.mem_of_getElem? (i := 1) rfl)) e0 (g := (mkF m 15 #[.val (.int p0), .val (.int p1), .val (.int p2), .val (.int p3), .val (.int p4), .val (.int wd), .val (.int (1 : Int32)), .unset, .unset, .unset] [(.int (1 : Int32))])) rfl (hb hby at_15) rfl (by decide) (cap := 1) (by decide) (by decide) (by decide) (by decide)
  obtain ⟨b1, g1⟩ : ∃ z, z = h0.size := ⟨_, rfl⟩
  rw [← g1] at A1 st1
  have g_b1 : n0 ≤ b1 := Nat.le_trans Z0 (Nat.le_of_eq g1.symm)
  have Zn1 : n0 ≤ h1.size := Nat.le_trans Z0 E1.1
  have V1 : AI Z h1 b1 .int 1 (fun _ => (0 : Int32)) := AV.new A1 (by decide)
  obtain ⟨T2, h2, X2, e2, W2, V2, st2⟩ := stAI X1 hx hZ e1 V1 (j := (0 : Int32)) (by decide) (by decide) (g := (mkF m 28 #[.val (.int p0), .val (.int p1), .val (.int p2), .val (.int p3), .val (.int p4), .val (.int wd), .val (.int (1 : Int32)), .val (.ref b1), .unset, .unset] [(.int p2), (.int (0 : Int32)), (.ref b1)])) rfl rfl (hb hby at_28)
  have N2 := Fr.snoc X2 N0 g_b1
  have Zn2 : n0 ≤ h2.size := Nat.le_trans Zn1 (Keep.of_wr W2).1
  obtain ⟨_, _, ⟨T3, L3, k3, n3⟩, -, X3, ⟨Lc3, hQ3, l3, y3, z3⟩, st3⟩ := Jvm.LawKit.callS X2 hx (y := (⟨"com/example/rasterline/rasterline/formats/png/KnownChunk", "packed", "(I[I)[B"⟩ : MethodName)) hown (mvT hZ (hw _ (List.mem_of_getElem? (i := 2) rfl))) (mvT hZ (hw _ (List.mem_of_getElem? (i := 3) rfl))) (mvT hZ (hw _ (List.mem_of_getElem? (i := 4) rfl))) (mvT hZ (hw _ (List.mem_of_getElem? (i := 5) rfl))) (by decide) (backOf (W := 0) (own_rm1 l Z aA hw [] wd b1 1 (own_upd (fun _ => (0 : Int32)) ((0 : Int32)).toNatClampNeg p2) (1 : Int32) h2 n0 Zn2 V2 (by decide) (by decide) (by decide) H_wd) hZ (hw _ (List.mem_of_getElem? (i := 5) rfl)) (hw _ (List.mem_of_getElem? (i := 4) rfl)) (by decide) (by decide)) (g := (mkF m 56 #[.val (.int p0), .val (.int p1), .val (.int p2), .val (.int p3), .val (.int p4), .val (.int wd), .val (.int (1 : Int32)), .val (.ref b1), .unset, .unset] [(.ref b1), (.int wd)])) rfl (by rw [hml]; rfl) (argsL := [(.int wd), (.ref b1)]) (rest := []) (lenOf own_pd0 rfl) rfl (by show 2 * 0 + _ ≤ _; exact Nat.le_of_eq rfl) (hb hby at_56) (fun _ _ => ⟨rfl, e2, (by decide : 1 + 1 ≤ _), (by decide : 1 + 12 ≤ _)⟩)
  dsimp only [Pt.U, Pt.locs, Pt.cells, Pt.slots] at X3 l3 y3 z3 st3 hQ3
  subst y3 z3
  obtain ⟨h3, eh3⟩ : ∃ z, T3.heap = z := ⟨_, rfl⟩
  rw [eh3] at hQ3
  obtain ⟨b1_3, rfl, N3q, K3q, sz3_b1_3, G3_0⟩ := hQ3
  have N3 : Fr n0 L3 := by rw [l3]; exact Fr.app N2 N3q
  have ne_b1_b1_3 : b1 ≠ b1_3 := Nat.ne_of_lt (Nat.lt_of_lt_of_le V2.lt sz3_b1_3)
  have g_b1_3 : n0 ≤ b1_3 := Nat.le_trans Zn2 sz3_b1_3
  have V2_k3 := V2.keep K3q (by simp only [List.mem_cons, List.not_mem_nil, or_false, not_or, not_false_eq_true])
  have Zn3 : n0 ≤ h3.size := Nat.le_trans Zn2 K3q.1
  refine Owe.step (T' := T3) (g' := (mkF m 74 #[.val (.int p0), .val (.int p1), .val (.int p2), .val (.int p3), .val (.int p4), .val (.int wd), .val (.int (1 : Int32)), .val (.ref b1), .val (.ref b1_3), .unset] [(.int (wd * (1 : Int32))), (.int (wd * (1 : Int32)))])) (fun t k => ?_) ?_
  · show Steps p.tables e below (s₁.setTop (mkF m 11 #[.val (.int p0), .val (.int p1), .val (.int p2), .val (.int p3), .val (.int p4), .val (.int wd), .unset, .unset, .unset, .unset] [(.int (1 : Int32))])) t
    refine XS.istore X0.here hx rfl (hb hby at_11) rfl (l' := #[.val (.int p0), .val (.int p1), .val (.int p2), .val (.int p3), .val (.int p4), .val (.int wd), .val (.int (1 : Int32)), .unset, .unset, .unset]) rfl ?_
    show Steps p.tables e below (s₁.setTop (mkF m 13 #[.val (.int p0), .val (.int p1), .val (.int p2), .val (.int p3), .val (.int p4), .val (.int wd), .val (.int (1 : Int32)), .unset, .unset, .unset] [])) t
    refine XS.iload X0.here hx rfl (hb hby at_13) rfl ?_
    show Steps p.tables e below (s₁.setTop (mkF m 15 #[.val (.int p0), .val (.int p1), .val (.int p2), .val (.int p3), .val (.int p4), .val (.int wd), .val (.int (1 : Int32)), .unset, .unset, .unset] [(.int (1 : Int32))])) t
    refine st1 _ ?_
    show Steps p.tables e below (T1.setTop (mkF m 17 #[.val (.int p0), .val (.int p1), .val (.int p2), .val (.int p3), .val (.int p4), .val (.int wd), .val (.int (1 : Int32)), .unset, .unset, .unset] [(.ref b1)])) t
    refine XS.astore X1.here hx rfl (hb hby at_17) rfl rfl (l' := #[.val (.int p0), .val (.int p1), .val (.int p2), .val (.int p3), .val (.int p4), .val (.int wd), .val (.int (1 : Int32)), .val (.ref b1), .unset, .unset]) rfl ?_
    show Steps p.tables e below (T1.setTop (mkF m 19 #[.val (.int p0), .val (.int p1), .val (.int p2), .val (.int p3), .val (.int p4), .val (.int wd), .val (.int (1 : Int32)), .val (.ref b1), .unset, .unset] [])) t
    refine XS.iload X1.here hx rfl (hb hby at_19) rfl ?_
    show Steps p.tables e below (T1.setTop (mkF m 21 #[.val (.int p0), .val (.int p1), .val (.int p2), .val (.int p3), .val (.int p4), .val (.int wd), .val (.int (1 : Int32)), .val (.ref b1), .unset, .unset] [(.int (1 : Int32))])) t
    refine XS.ifNo X1.here hx rfl (hb hby at_21) rfl ((if0 _ _).trans (tlt (by decide : (0 : Int32) < (1 : Int32))).2.2.2) ?_
    show Steps p.tables e below (T1.setTop (mkF m 24 #[.val (.int p0), .val (.int p1), .val (.int p2), .val (.int p3), .val (.int p4), .val (.int wd), .val (.int (1 : Int32)), .val (.ref b1), .unset, .unset] [])) t
    refine XS.aload X1.here hx rfl (hb hby at_24) rfl rfl ?_
    show Steps p.tables e below (T1.setTop (mkF m 26 #[.val (.int p0), .val (.int p1), .val (.int p2), .val (.int p3), .val (.int p4), .val (.int wd), .val (.int (1 : Int32)), .val (.ref b1), .unset, .unset] [(.ref b1)])) t
    refine XS.iconst X1.here hx rfl (hb hby at_26) ?_
    show Steps p.tables e below (T1.setTop (mkF m 27 #[.val (.int p0), .val (.int p1), .val (.int p2), .val (.int p3), .val (.int p4), .val (.int wd), .val (.int (1 : Int32)), .val (.ref b1), .unset, .unset] [(.int (0 : Int32)), (.ref b1)])) t
    refine XS.iloadN X1.here hx rfl (hb hby at_27) rfl ?_
    show Steps p.tables e below (T1.setTop (mkF m 28 #[.val (.int p0), .val (.int p1), .val (.int p2), .val (.int p3), .val (.int p4), .val (.int wd), .val (.int (1 : Int32)), .val (.ref b1), .unset, .unset] [(.int p2), (.int (0 : Int32)), (.ref b1)])) t
    refine st2 _ ?_
    show Steps p.tables e below (T2.setTop (mkF m 29 #[.val (.int p0), .val (.int p1), .val (.int p2), .val (.int p3), .val (.int p4), .val (.int wd), .val (.int (1 : Int32)), .val (.ref b1), .unset, .unset] [])) t
    refine XS.iload X2.here hx rfl (hb hby at_29) rfl ?_
    show Steps p.tables e below (T2.setTop (mkF m 31 #[.val (.int p0), .val (.int p1), .val (.int p2), .val (.int p3), .val (.int p4), .val (.int wd), .val (.int (1 : Int32)), .val (.ref b1), .unset, .unset] [(.int (1 : Int32))])) t
    refine XS.iconst X2.here hx rfl (hb hby at_31) ?_
    show Steps p.tables e below (T2.setTop (mkF m 32 #[.val (.int p0), .val (.int p1), .val (.int p2), .val (.int p3), .val (.int p4), .val (.int wd), .val (.int (1 : Int32)), .val (.ref b1), .unset, .unset] [(.int (1 : Int32)), (.int (1 : Int32))])) t
    refine XS.icmpYes X2.here hx rfl (pc0 := 32) (pc' := 40) rfl (hb hby at_32) rfl (flt (by decide : ¬ ((1 : Int32) < (1 : Int32)))).2.2.2 (by decide) (by decide) ?_
    show Steps p.tables e below (T2.setTop (mkF m 40 #[.val (.int p0), .val (.int p1), .val (.int p2), .val (.int p3), .val (.int p4), .val (.int wd), .val (.int (1 : Int32)), .val (.ref b1), .unset, .unset] [])) t
    refine XS.iload X2.here hx rfl (hb hby at_40) rfl ?_
    show Steps p.tables e below (T2.setTop (mkF m 42 #[.val (.int p0), .val (.int p1), .val (.int p2), .val (.int p3), .val (.int p4), .val (.int wd), .val (.int (1 : Int32)), .val (.ref b1), .unset, .unset] [(.int (1 : Int32))])) t
    refine XS.iconst X2.here hx rfl (hb hby at_42) ?_
    show Steps p.tables e below (T2.setTop (mkF m 43 #[.val (.int p0), .val (.int p1), .val (.int p2), .val (.int p3), .val (.int p4), .val (.int wd), .val (.int (1 : Int32)), .val (.ref b1), .unset, .unset] [(.int (2 : Int32)), (.int (1 : Int32))])) t
    refine XS.icmpYes X2.here hx rfl (pc0 := 43) (pc' := 52) rfl (hb hby at_43) rfl (flt (by decide : ¬ ((2 : Int32) < (1 : Int32)))).2.2.2 (by decide) (by decide) ?_
    show Steps p.tables e below (T2.setTop (mkF m 52 #[.val (.int p0), .val (.int p1), .val (.int p2), .val (.int p3), .val (.int p4), .val (.int wd), .val (.int (1 : Int32)), .val (.ref b1), .unset, .unset] [])) t
    refine XS.iload X2.here hx rfl (hb hby at_52) rfl ?_
    show Steps p.tables e below (T2.setTop (mkF m 54 #[.val (.int p0), .val (.int p1), .val (.int p2), .val (.int p3), .val (.int p4), .val (.int wd), .val (.int (1 : Int32)), .val (.ref b1), .unset, .unset] [(.int wd)])) t
    refine XS.aload X2.here hx rfl (hb hby at_54) rfl rfl ?_
    show Steps p.tables e below (T2.setTop (mkF m 56 #[.val (.int p0), .val (.int p1), .val (.int p2), .val (.int p3), .val (.int p4), .val (.int wd), .val (.int (1 : Int32)), .val (.ref b1), .unset, .unset] [(.ref b1), (.int wd)])) t
    refine st3 _ ?_
    show Steps p.tables e below (T3.setTop (mkF m 59 #[.val (.int p0), .val (.int p1), .val (.int p2), .val (.int p3), .val (.int p4), .val (.int wd), .val (.int (1 : Int32)), .val (.ref b1), .unset, .unset] [(.ref b1_3)])) t
    refine XS.astore X3.here hx rfl (hb hby at_59) rfl rfl (l' := #[.val (.int p0), .val (.int p1), .val (.int p2), .val (.int p3), .val (.int p4), .val (.int wd), .val (.int (1 : Int32)), .val (.ref b1), .val (.ref b1_3), .unset]) rfl ?_
    show Steps p.tables e below (T3.setTop (mkF m 61 #[.val (.int p0), .val (.int p1), .val (.int p2), .val (.int p3), .val (.int p4), .val (.int wd), .val (.int (1 : Int32)), .val (.ref b1), .val (.ref b1_3), .unset] [])) t
    refine XS.aload X3.here hx rfl (hb hby at_61) rfl rfl ?_
    show Steps p.tables e below (T3.setTop (mkF m 63 #[.val (.int p0), .val (.int p1), .val (.int p2), .val (.int p3), .val (.int p4), .val (.int wd), .val (.int (1 : Int32)), .val (.ref b1), .val (.ref b1_3), .unset] [(.ref b1_3)])) t
    refine XS.ifnullNo X3.here hx rfl (hb hby at_63) rfl ?_
    show Steps p.tables e below (T3.setTop (mkF m 66 #[.val (.int p0), .val (.int p1), .val (.int p2), .val (.int p3), .val (.int p4), .val (.int wd), .val (.int (1 : Int32)), .val (.ref b1), .val (.ref b1_3), .unset] [])) t
    refine XS.aload X3.here hx rfl (hb hby at_66) rfl rfl ?_
    show Steps p.tables e below (T3.setTop (mkF m 68 #[.val (.int p0), .val (.int p1), .val (.int p2), .val (.int p3), .val (.int p4), .val (.int wd), .val (.int (1 : Int32)), .val (.ref b1), .val (.ref b1_3), .unset] [(.ref b1_3)])) t
    refine lenA X3 hx hZ eh3 G3_0 (z := (wd * (1 : Int32))) (own_len H_wd (by decide)) (g := (mkF m 68 #[.val (.int p0), .val (.int p1), .val (.int p2), .val (.int p3), .val (.int p4), .val (.int wd), .val (.int (1 : Int32)), .val (.ref b1), .val (.ref b1_3), .unset] [(.ref b1_3)])) rfl rfl (hb hby at_68) _ ?_
    show Steps p.tables e below (T3.setTop (mkF m 69 #[.val (.int p0), .val (.int p1), .val (.int p2), .val (.int p3), .val (.int p4), .val (.int wd), .val (.int (1 : Int32)), .val (.ref b1), .val (.ref b1_3), .unset] [(.int (wd * (1 : Int32)))])) t
    refine XS.iload X3.here hx rfl (hb hby at_69) rfl ?_
    show Steps p.tables e below (T3.setTop (mkF m 71 #[.val (.int p0), .val (.int p1), .val (.int p2), .val (.int p3), .val (.int p4), .val (.int wd), .val (.int (1 : Int32)), .val (.ref b1), .val (.ref b1_3), .unset] [(.int wd), (.int (wd * (1 : Int32)))])) t
    refine XS.iload X3.here hx rfl (hb hby at_71) rfl ?_
    show Steps p.tables e below (T3.setTop (mkF m 73 #[.val (.int p0), .val (.int p1), .val (.int p2), .val (.int p3), .val (.int p4), .val (.int wd), .val (.int (1 : Int32)), .val (.ref b1), .val (.ref b1_3), .unset] [(.int (1 : Int32)), (.int wd), (.int (wd * (1 : Int32)))])) t
    refine XS.imul X3.here hx rfl (hb hby at_73) rfl ?_
    show Steps p.tables e below (T3.setTop (mkF m 74 #[.val (.int p0), .val (.int p1), .val (.int p2), .val (.int p3), .val (.int p4), .val (.int wd), .val (.int (1 : Int32)), .val (.ref b1), .val (.ref b1_3), .unset] [(.int (wd * (1 : Int32))), (.int (wd * (1 : Int32)))])) t
    exact k
  by_cases hc74 : (wd * (1 : Int32)) = (wd * (1 : Int32))
  · refine Owe.step (T' := T3) (g' := (mkF m 79 #[.val (.int p0), .val (.int p1), .val (.int p2), .val (.int p3), .val (.int p4), .val (.int wd), .val (.int (1 : Int32)), .val (.ref b1), .val (.ref b1_3), .unset] [])) (fun t k => ?_) ?_
    · show Steps p.tables e below (T3.setTop (mkF m 74 #[.val (.int p0), .val (.int p1), .val (.int p2), .val (.int p3), .val (.int p4), .val (.int wd), .val (.int (1 : Int32)), .val (.ref b1), .val (.ref b1_3), .unset] [(.int (wd * (1 : Int32))), (.int (wd * (1 : Int32)))])) t
      refine XS.icmpYes X3.here hx rfl (pc0 := 74) (pc' := 79) rfl (hb hby at_74) rfl (teq hc74).1 (by decide) (by decide) ?_
      show Steps p.tables e below (T3.setTop (mkF m 79 #[.val (.int p0), .val (.int p1), .val (.int p2), .val (.int p3), .val (.int p4), .val (.int wd), .val (.int (1 : Int32)), .val (.ref b1), .val (.ref b1_3), .unset] [])) t
      exact k
    obtain ⟨_, _, ⟨T4, L4, k4, n4⟩, -, X4, ⟨Lc4, hQ4, l4, y4, z4⟩, st4⟩ := Jvm.LawKit.callS X3 hx (y := (⟨"com/example/rasterline/rasterline/formats/png/KnownChunkPackedPinLaw", "read", "([BII)I"⟩ : MethodName)) hown (mvT hZ (hw _ (List.mem_of_getElem? (i := 7) rfl))) (mvT hZ (hw _ (List.mem_of_getElem? (i := 8) rfl))) (mvT hZ (hw _ (List.mem_of_getElem? (i := 9) rfl))) (mvT hZ (hw _ (List.mem_of_getElem? (i := 10) rfl))) (by decide) (backOf (W := 0) (own_rm2 l Z aA hw [] b1_3 (0 : Int32) wd (wd * (1 : Int32)).toNatClampNeg (own_g wd (own_upd (fun _ => (0 : Int32)) ((0 : Int32)).toNatClampNeg p2) (own_m wd (1 : Int32) (0 : Int32))) h3 n0 Zn3 G3_0 (own_rd0 H_wd (by decide) (by decide))) hZ (hw _ (List.mem_of_getElem? (i := 10) rfl)) (hw _ (List.mem_of_getElem? (i := 9) rfl)) (by decide) (by decide)) (g := (mkF m 97 #[.val (.int p0), .val (.int p1), .val (.int p2), .val (.int p3), .val (.int p4), .val (.int wd), .val (.int (1 : Int32)), .val (.ref b1), .val (.ref b1_3), .val (.int (1 : Int32))] [(.int wd), (.int (0 : Int32)), (.ref b1_3)])) rfl (by rw [hml]; rfl) (argsL := [(.ref b1_3), (.int (0 : Int32)), (.int wd)]) (rest := []) (lenOf own_pd1 rfl) rfl (by show 2 * 0 + _ ≤ _; exact Nat.le_of_eq rfl) (hb hby at_97) (fun _ _ => ⟨rfl, eh3, (by decide : 2 + 0 ≤ _), (by decide : 13 + 0 ≤ _)⟩)
    dsimp only [Pt.U, Pt.locs, Pt.cells, Pt.slots] at X4 l4 y4 z4 st4 hQ4
    subst y4 z4
    obtain ⟨rfl, N4q, e4⟩ := hQ4
    have N4 : Fr n0 L4 := by rw [l4]; exact Fr.app N3 N4q
    obtain ⟨_, _, ⟨T5, L5, k5, n5⟩, -, X5, ⟨Lc5, hQ5, l5, y5, z5⟩, st5⟩ := Jvm.LawKit.callS X4 hx (y := (⟨"com/example/rasterline/rasterline/formats/png/KnownChunkPackedPinLaw", "low", "(II)I"⟩ : MethodName)) hown (mvT hZ (hw _ (List.mem_of_getElem? (i := 11) rfl))) (mvT hZ (hw _ (List.mem_of_getElem? (i := 12) rfl))) (mvT hZ (hw _ (List.mem_of_getElem? (i := 9) rfl))) (mvT hZ (hw _ (List.mem_of_getElem? (i := 13) rfl))) (by decide) (backOf (W := 1) (own_rm3 l Z aA hw [] p2 wd h3 n0 Zn3 ) hZ (hw _ (List.mem_of_getElem? (i := 13) rfl)) (hw _ (List.mem_of_getElem? (i := 9) rfl)) (by decide) (by decide)) (g := (mkF m 103 #[.val (.int p0), .val (.int p1), .val (.int p2), .val (.int p3), .val (.int p4), .val (.int wd), .val (.int (1 : Int32)), .val (.ref b1), .val (.ref b1_3), .val (.int (1 : Int32))] [(.int wd), (.int p2), (.int (own_f2_0 (0 : Int32) wd (own_g wd (own_upd (fun _ => (0 : Int32)) ((0 : Int32)).toNatClampNeg p2) (own_m wd (1 : Int32) (0 : Int32)))))])) rfl (by rw [hml]; rfl) (argsL := [(.int p2), (.int wd)]) (rest := [(.int (own_f2_0 (0 : Int32) wd (own_g wd (own_upd (fun _ => (0 : Int32)) ((0 : Int32)).toNatClampNeg p2) (own_m wd (1 : Int32) (0 : Int32)))))]) (lenOf own_pd2 rfl) rfl (by show 2 * 0 + _ ≤ _; exact Nat.le_of_eq rfl) (hb hby at_103) (fun _ _ => ⟨rfl, e4, (by decide : 2 + 0 ≤ _), (by decide : 13 + 0 ≤ _)⟩)
    dsimp only [Pt.U, Pt.locs, Pt.cells, Pt.slots] at X5 l5 y5 z5 st5 hQ5
    subst y5 z5
    obtain ⟨rfl, N5q, e5⟩ := hQ5
    have N5 : Fr n0 L5 := by rw [l5]; exact Fr.app N4 N5q
    refine Owe.step (T' := T5) (g' := (mkF m 106 #[.val (.int p0), .val (.int p1), .val (.int p2), .val (.int p3), .val (.int p4), .val (.int wd), .val (.int (1 : Int32)), .val (.ref b1), .val (.ref b1_3), .val (.int (1 : Int32))] [(.int (own_f3_0 p2 wd)), (.int (own_f2_0 (0 : Int32) wd (own_g wd (own_upd (fun _ => (0 : Int32)) ((0 : Int32)).toNatClampNeg p2) (own_m wd (1 : Int32) (0 : Int32)))))])) (fun t k => ?_) ?_
    · show Steps p.tables e below (T3.setTop (mkF m 79 #[.val (.int p0), .val (.int p1), .val (.int p2), .val (.int p3), .val (.int p4), .val (.int wd), .val (.int (1 : Int32)), .val (.ref b1), .val (.ref b1_3), .unset] [])) t
      refine XS.iconst X3.here hx rfl (hb hby at_79) ?_
      show Steps p.tables e below (T3.setTop (mkF m 80 #[.val (.int p0), .val (.int p1), .val (.int p2), .val (.int p3), .val (.int p4), .val (.int wd), .val (.int (1 : Int32)), .val (.ref b1), .val (.ref b1_3), .unset] [(.int (1 : Int32))])) t
      refine XS.istore X3.here hx rfl (hb hby at_80) rfl (l' := #[.val (.int p0), .val (.int p1), .val (.int p2), .val (.int p3), .val (.int p4), .val (.int wd), .val (.int (1 : Int32)), .val (.ref b1), .val (.ref b1_3), .val (.int (1 : Int32))]) rfl ?_
      show Steps p.tables e below (T3.setTop (mkF m 82 #[.val (.int p0), .val (.int p1), .val (.int p2), .val (.int p3), .val (.int p4), .val (.int wd), .val (.int (1 : Int32)), .val (.ref b1), .val (.ref b1_3), .val (.int (1 : Int32))] [])) t
      refine XS.iload X3.here hx rfl (hb hby at_82) rfl ?_
      show Steps p.tables e below (T3.setTop (mkF m 84 #[.val (.int p0), .val (.int p1), .val (.int p2), .val (.int p3), .val (.int p4), .val (.int wd), .val (.int (1 : Int32)), .val (.ref b1), .val (.ref b1_3), .val (.int (1 : Int32))] [(.int (1 : Int32))])) t
      refine XS.ifNo X3.here hx rfl (hb hby at_84) rfl ((if0 _ _).trans (tlt (by decide : (0 : Int32) < (1 : Int32))).2.2.2) ?_
      show Steps p.tables e below (T3.setTop (mkF m 87 #[.val (.int p0), .val (.int p1), .val (.int p2), .val (.int p3), .val (.int p4), .val (.int wd), .val (.int (1 : Int32)), .val (.ref b1), .val (.ref b1_3), .val (.int (1 : Int32))] [])) t
      refine XS.iload X3.here hx rfl (hb hby at_87) rfl ?_
      show Steps p.tables e below (T3.setTop (mkF m 89 #[.val (.int p0), .val (.int p1), .val (.int p2), .val (.int p3), .val (.int p4), .val (.int wd), .val (.int (1 : Int32)), .val (.ref b1), .val (.ref b1_3), .val (.int (1 : Int32))] [(.int (1 : Int32))])) t
      refine XS.ifNo X3.here hx rfl (hb hby at_89) rfl ((if0 _ _).trans (feq (by decide : ¬ ((1 : Int32) = (0 : Int32)))).1) ?_
      show Steps p.tables e below (T3.setTop (mkF m 92 #[.val (.int p0), .val (.int p1), .val (.int p2), .val (.int p3), .val (.int p4), .val (.int wd), .val (.int (1 : Int32)), .val (.ref b1), .val (.ref b1_3), .val (.int (1 : Int32))] [])) t
      refine XS.aload X3.here hx rfl (hb hby at_92) rfl rfl ?_
      show Steps p.tables e below (T3.setTop (mkF m 94 #[.val (.int p0), .val (.int p1), .val (.int p2), .val (.int p3), .val (.int p4), .val (.int wd), .val (.int (1 : Int32)), .val (.ref b1), .val (.ref b1_3), .val (.int (1 : Int32))] [(.ref b1_3)])) t
      refine XS.iconst X3.here hx rfl (hb hby at_94) ?_
      show Steps p.tables e below (T3.setTop (mkF m 95 #[.val (.int p0), .val (.int p1), .val (.int p2), .val (.int p3), .val (.int p4), .val (.int wd), .val (.int (1 : Int32)), .val (.ref b1), .val (.ref b1_3), .val (.int (1 : Int32))] [(.int (0 : Int32)), (.ref b1_3)])) t
      refine XS.iload X3.here hx rfl (hb hby at_95) rfl ?_
      show Steps p.tables e below (T3.setTop (mkF m 97 #[.val (.int p0), .val (.int p1), .val (.int p2), .val (.int p3), .val (.int p4), .val (.int wd), .val (.int (1 : Int32)), .val (.ref b1), .val (.ref b1_3), .val (.int (1 : Int32))] [(.int wd), (.int (0 : Int32)), (.ref b1_3)])) t
      refine st4 _ ?_
      show Steps p.tables e below (T4.setTop (mkF m 100 #[.val (.int p0), .val (.int p1), .val (.int p2), .val (.int p3), .val (.int p4), .val (.int wd), .val (.int (1 : Int32)), .val (.ref b1), .val (.ref b1_3), .val (.int (1 : Int32))] [(.int (own_f2_0 (0 : Int32) wd (own_g wd (own_upd (fun _ => (0 : Int32)) ((0 : Int32)).toNatClampNeg p2) (own_m wd (1 : Int32) (0 : Int32)))))])) t
      refine XS.iloadN X4.here hx rfl (hb hby at_100) rfl ?_
      show Steps p.tables e below (T4.setTop (mkF m 101 #[.val (.int p0), .val (.int p1), .val (.int p2), .val (.int p3), .val (.int p4), .val (.int wd), .val (.int (1 : Int32)), .val (.ref b1), .val (.ref b1_3), .val (.int (1 : Int32))] [(.int p2), (.int (own_f2_0 (0 : Int32) wd (own_g wd (own_upd (fun _ => (0 : Int32)) ((0 : Int32)).toNatClampNeg p2) (own_m wd (1 : Int32) (0 : Int32)))))])) t
      refine XS.iload X4.here hx rfl (hb hby at_101) rfl ?_
      show Steps p.tables e below (T4.setTop (mkF m 103 #[.val (.int p0), .val (.int p1), .val (.int p2), .val (.int p3), .val (.int p4), .val (.int wd), .val (.int (1 : Int32)), .val (.ref b1), .val (.ref b1_3), .val (.int (1 : Int32))] [(.int wd), (.int p2), (.int (own_f2_0 (0 : Int32) wd (own_g wd (own_upd (fun _ => (0 : Int32)) ((0 : Int32)).toNatClampNeg p2) (own_m wd (1 : Int32) (0 : Int32)))))])) t
      refine st5 _ ?_
      show Steps p.tables e below (T5.setTop (mkF m 106 #[.val (.int p0), .val (.int p1), .val (.int p2), .val (.int p3), .val (.int p4), .val (.int wd), .val (.int (1 : Int32)), .val (.ref b1), .val (.ref b1_3), .val (.int (1 : Int32))] [(.int (own_f3_0 p2 wd)), (.int (own_f2_0 (0 : Int32) wd (own_g wd (own_upd (fun _ => (0 : Int32)) ((0 : Int32)).toNatClampNeg p2) (own_m wd (1 : Int32) (0 : Int32)))))])) t
      exact k
    have j114 : ∀ (T : State) (Lc : List Loc) (X : Stand p l e room_1 s m #[(.int p0), (.int p1), (.int p2), (.int p3), (.int p4)] below meth c T Lc 2 13) (t114_0 : Int32) (eT : T.heap = h3) (N : Fr n0 Lc), Owe p e below s 16 128 (QL (.int (own_f0c1_114 t114_0)) n0) T (mkF m 114 #[.val (.int p0), .val (.int p1), .val (.int p2), .val (.int p3), .val (.int p4), .val (.int wd), .val (.int (1 : Int32)), .val (.ref b1), .val (.ref b1_3), .val (.int (1 : Int32))] [(.int t114_0)]) := by
      intro T114j Lc114j X114j t114_0 e114j N114j
      rw [show own_f0c1_114 t114_0 = (nar .boolean t114_0) from rfl]
      refine Owe.ret X114j Bd.notSynchronized (v := (some (.int (nar .boolean t114_0)))) (fun h => by rw [Bd.returns] at h; cases h) (fun fs hr => ?_) ⟨rfl, N114j⟩ (by decide) (by decide)
      show Steps p.tables e below (T114j.setTop (mkF m 114 #[.val (.int p0), .val (.int p1), .val (.int p2), .val (.int p3), .val (.int p4), .val (.int wd), .val (.int (1 : Int32)), .val (.ref b1), .val (.ref b1_3), .val (.int (1 : Int32))] [(.int t114_0)])) _
      refine XS.istore X114j.here hx rfl (hb hby at_114) rfl (l' := #[.val (.int p0), .val (.int p1), .val (.int p2), .val (.int p3), .val (.int p4), .val (.int wd), .val (.int (1 : Int32)), .val (.ref b1), .val (.ref b1_3), .val (.int t114_0)]) rfl ?_
      show Steps p.tables e below (T114j.setTop (mkF m 116 #[.val (.int p0), .val (.int p1), .val (.int p2), .val (.int p3), .val (.int p4), .val (.int wd), .val (.int (1 : Int32)), .val (.ref b1), .val (.ref b1_3), .val (.int t114_0)] [])) _
      refine XS.iload X114j.here hx rfl (hb hby at_116) rfl ?_
      show Steps p.tables e below (T114j.setTop (mkF m 118 #[.val (.int p0), .val (.int p1), .val (.int p2), .val (.int p3), .val (.int p4), .val (.int wd), .val (.int (1 : Int32)), .val (.ref b1), .val (.ref b1_3), .val (.int t114_0)] [(.int (1 : Int32))])) _
      refine XS.iconst X114j.here hx rfl (hb hby at_118) ?_
      show Steps p.tables e below (T114j.setTop (mkF m 119 #[.val (.int p0), .val (.int p1), .val (.int p2), .val (.int p3), .val (.int p4), .val (.int wd), .val (.int (1 : Int32)), .val (.ref b1), .val (.ref b1_3), .val (.int t114_0)] [(.int (1 : Int32)), (.int (1 : Int32))])) _
      refine XS.icmpYes X114j.here hx rfl (pc0 := 119) (pc' := 152) rfl (hb hby at_119) rfl (flt (by decide : ¬ ((1 : Int32) < (1 : Int32)))).2.2.2 (by decide) (by decide) ?_
      show Steps p.tables e below (T114j.setTop (mkF m 152 #[.val (.int p0), .val (.int p1), .val (.int p2), .val (.int p3), .val (.int p4), .val (.int wd), .val (.int (1 : Int32)), .val (.ref b1), .val (.ref b1_3), .val (.int t114_0)] [])) _
      refine XS.iload X114j.here hx rfl (hb hby at_152) rfl ?_
      show Steps p.tables e below (T114j.setTop (mkF m 154 #[.val (.int p0), .val (.int p1), .val (.int p2), .val (.int p3), .val (.int p4), .val (.int wd), .val (.int (1 : Int32)), .val (.ref b1), .val (.ref b1_3), .val (.int t114_0)] [(.int (1 : Int32))])) _
      refine XS.iconst X114j.here hx rfl (hb hby at_154) ?_
      show Steps p.tables e below (T114j.setTop (mkF m 155 #[.val (.int p0), .val (.int p1), .val (.int p2), .val (.int p3), .val (.int p4), .val (.int wd), .val (.int (1 : Int32)), .val (.ref b1), .val (.ref b1_3), .val (.int t114_0)] [(.int (2 : Int32)), (.int (1 : Int32))])) _
      refine XS.icmpYes X114j.here hx rfl (pc0 := 155) (pc' := 191) rfl (hb hby at_155) rfl (flt (by decide : ¬ ((2 : Int32) < (1 : Int32)))).2.2.2 (by decide) (by decide) ?_
      show Steps p.tables e below (T114j.setTop (mkF m 191 #[.val (.int p0), .val (.int p1), .val (.int p2), .val (.int p3), .val (.int p4), .val (.int wd), .val (.int (1 : Int32)), .val (.ref b1), .val (.ref b1_3), .val (.int t114_0)] [])) _
      refine XS.iload X114j.here hx rfl (hb hby at_191) rfl ?_
      show Steps p.tables e below (T114j.setTop (mkF m 193 #[.val (.int p0), .val (.int p1), .val (.int p2), .val (.int p3), .val (.int p4), .val (.int wd), .val (.int (1 : Int32)), .val (.ref b1), .val (.ref b1_3), .val (.int t114_0)] [(.int t114_0)])) _
      exact retN X114j hx (t := .boolean) Bd.returns (by simp) (hb hby at_193) hr
    by_cases hc106 : (own_f2_0 (0 : Int32) wd (own_g wd (own_upd (fun _ => (0 : Int32)) ((0 : Int32)).toNatClampNeg p2) (own_m wd (1 : Int32) (0 : Int32)))) = (own_f3_0 p2 wd)
    · refine Owe.step (T' := T5) (g' := (mkF m 109 #[.val (.int p0), .val (.int p1), .val (.int p2), .val (.int p3), .val (.int p4), .val (.int wd), .val (.int (1 : Int32)), .val (.ref b1), .val (.ref b1_3), .val (.int (1 : Int32))] [])) (fun t k => ?_) ?_
      · show Steps p.tables e below (T5.setTop (mkF m 106 #[.val (.int p0), .val (.int p1), .val (.int p2), .val (.int p3), .val (.int p4), .val (.int wd), .val (.int (1 : Int32)), .val (.ref b1), .val (.ref b1_3), .val (.int (1 : Int32))] [(.int (own_f3_0 p2 wd)), (.int (own_f2_0 (0 : Int32) wd (own_g wd (own_upd (fun _ => (0 : Int32)) ((0 : Int32)).toNatClampNeg p2) (own_m wd (1 : Int32) (0 : Int32)))))])) t
        refine XS.icmpNo X5.here hx rfl (hb hby at_106) rfl (teq hc106).2 ?_
        show Steps p.tables e below (T5.setTop (mkF m 109 #[.val (.int p0), .val (.int p1), .val (.int p2), .val (.int p3), .val (.int p4), .val (.int wd), .val (.int (1 : Int32)), .val (.ref b1), .val (.ref b1_3), .val (.int (1 : Int32))] [])) t
        exact k
      refine Owe.step (T' := T5) (g' := (mkF m 114 #[.val (.int p0), .val (.int p1), .val (.int p2), .val (.int p3), .val (.int p4), .val (.int wd), .val (.int (1 : Int32)), .val (.ref b1), .val (.ref b1_3), .val (.int (1 : Int32))] [(.int (1 : Int32))])) (fun t k => ?_) ?_
      · show Steps p.tables e below (T5.setTop (mkF m 109 #[.val (.int p0), .val (.int p1), .val (.int p2), .val (.int p3), .val (.int p4), .val (.int wd), .val (.int (1 : Int32)), .val (.ref b1), .val (.ref b1_3), .val (.int (1 : Int32))] [])) t
        refine XS.iconst X5.here hx rfl (hb hby at_109) ?_
        show Steps p.tables e below (T5.setTop (mkF m 110 #[.val (.int p0), .val (.int p1), .val (.int p2), .val (.int p3), .val (.int p4), .val (.int wd), .val (.int (1 : Int32)), .val (.ref b1), .val (.ref b1_3), .val (.int (1 : Int32))] [(.int (1 : Int32))])) t
        refine XS.goto X5.here hx rfl (pc0 := 110) (pc' := 114) rfl (hb hby at_110) (by decide) (by decide) ?_
        show Steps p.tables e below (T5.setTop (mkF m 114 #[.val (.int p0), .val (.int p1), .val (.int p2), .val (.int p3), .val (.int p4), .val (.int wd), .val (.int (1 : Int32)), .val (.ref b1), .val (.ref b1_3), .val (.int (1 : Int32))] [(.int (1 : Int32))])) t
        exact k
      refine Owe.cast (show (own_f0c1_114 (1 : Int32)) = (1 : Int32) from (show own_f0c1_0 p2 wd = (own_f0c1_114 (1 : Int32)) from (by rw [own_f0c1_0, if_pos hc74, if_pos hc106])).symm.trans (own_law1 p0 p1 p2 p3 p4 wd H_wd)) ?_
      exact j114 T5 _ X5 (1 : Int32) e5 N5
    · refine Owe.step (T' := T5) (g' := (mkF m 113 #[.val (.int p0), .val (.int p1), .val (.int p2), .val (.int p3), .val (.int p4), .val (.int wd), .val (.int (1 : Int32)), .val (.ref b1), .val (.ref b1_3), .val (.int (1 : Int32))] [])) (fun t k => ?_) ?_
      · show Steps p.tables e below (T5.setTop (mkF m 106 #[.val (.int p0), .val (.int p1), .val (.int p2), .val (.int p3), .val (.int p4), .val (.int wd), .val (.int (1 : Int32)), .val (.ref b1), .val (.ref b1_3), .val (.int (1 : Int32))] [(.int (own_f3_0 p2 wd)), (.int (own_f2_0 (0 : Int32) wd (own_g wd (own_upd (fun _ => (0 : Int32)) ((0 : Int32)).toNatClampNeg p2) (own_m wd (1 : Int32) (0 : Int32)))))])) t
        refine XS.icmpYes X5.here hx rfl (pc0 := 106) (pc' := 113) rfl (hb hby at_106) rfl (feq hc106).2 (by decide) (by decide) ?_
        show Steps p.tables e below (T5.setTop (mkF m 113 #[.val (.int p0), .val (.int p1), .val (.int p2), .val (.int p3), .val (.int p4), .val (.int wd), .val (.int (1 : Int32)), .val (.ref b1), .val (.ref b1_3), .val (.int (1 : Int32))] [])) t
        exact k
      refine Owe.step (T' := T5) (g' := (mkF m 114 #[.val (.int p0), .val (.int p1), .val (.int p2), .val (.int p3), .val (.int p4), .val (.int wd), .val (.int (1 : Int32)), .val (.ref b1), .val (.ref b1_3), .val (.int (1 : Int32))] [(.int (0 : Int32))])) (fun t k => ?_) ?_
      · show Steps p.tables e below (T5.setTop (mkF m 113 #[.val (.int p0), .val (.int p1), .val (.int p2), .val (.int p3), .val (.int p4), .val (.int wd), .val (.int (1 : Int32)), .val (.ref b1), .val (.ref b1_3), .val (.int (1 : Int32))] [])) t
        refine XS.iconst X5.here hx rfl (hb hby at_113) ?_
        show Steps p.tables e below (T5.setTop (mkF m 114 #[.val (.int p0), .val (.int p1), .val (.int p2), .val (.int p3), .val (.int p4), .val (.int wd), .val (.int (1 : Int32)), .val (.ref b1), .val (.ref b1_3), .val (.int (1 : Int32))] [(.int (0 : Int32))])) t
        exact k
      refine Owe.cast (show (own_f0c1_114 (0 : Int32)) = (1 : Int32) from (show own_f0c1_0 p2 wd = (own_f0c1_114 (0 : Int32)) from (by rw [own_f0c1_0, if_pos hc74, if_neg hc106])).symm.trans (own_law1 p0 p1 p2 p3 p4 wd H_wd)) ?_
      exact j114 T5 _ X5 (0 : Int32) e5 N5
  · refine Owe.step (T' := T3) (g' := (mkF m 77 #[.val (.int p0), .val (.int p1), .val (.int p2), .val (.int p3), .val (.int p4), .val (.int wd), .val (.int (1 : Int32)), .val (.ref b1), .val (.ref b1_3), .unset] [])) (fun t k => ?_) ?_
    · show Steps p.tables e below (T3.setTop (mkF m 74 #[.val (.int p0), .val (.int p1), .val (.int p2), .val (.int p3), .val (.int p4), .val (.int wd), .val (.int (1 : Int32)), .val (.ref b1), .val (.ref b1_3), .unset] [(.int (wd * (1 : Int32))), (.int (wd * (1 : Int32)))])) t
      refine XS.icmpNo X3.here hx rfl (hb hby at_74) rfl (feq hc74).1 ?_
      show Steps p.tables e below (T3.setTop (mkF m 77 #[.val (.int p0), .val (.int p1), .val (.int p2), .val (.int p3), .val (.int p4), .val (.int wd), .val (.int (1 : Int32)), .val (.ref b1), .val (.ref b1_3), .unset] [])) t
      exact k
    refine Owe.cast (show (0 : Int32) = (1 : Int32) from (show own_f0c1_0 p2 wd = (0 : Int32) from (by rw [own_f0c1_0, if_neg hc74])).symm.trans (own_law1 p0 p1 p2 p3 p4 wd H_wd)) ?_
    refine Owe.ret X3 Bd.notSynchronized (v := (some (.int (0 : Int32)))) (fun h => by rw [Bd.returns] at h; cases h) (fun fs hr => ?_) ⟨rfl, N3⟩ (by decide) (by decide)
    show Steps p.tables e below (T3.setTop (mkF m 77 #[.val (.int p0), .val (.int p1), .val (.int p2), .val (.int p3), .val (.int p4), .val (.int wd), .val (.int (1 : Int32)), .val (.ref b1), .val (.ref b1_3), .unset] [])) _
    refine XS.iconst X3.here hx rfl (hb hby at_77) ?_
    show Steps p.tables e below (T3.setTop (mkF m 78 #[.val (.int p0), .val (.int p1), .val (.int p2), .val (.int p3), .val (.int p4), .val (.int wd), .val (.int (1 : Int32)), .val (.ref b1), .val (.ref b1_3), .unset] [(.int (0 : Int32))])) _
    exact retN X3 hx (t := .boolean) Bd.returns (by simp) (hb hby at_78) hr
theorem own_ef0c2 (m : MethodId) (p0 : Int32) (p1 : Int32) (p2 : Int32) (p3 : Int32) (p4 : Int32) : entryFrame m #[(.int p0), (.int p1), (.int p2), (.int p3), (.int p4)] maxLocals = mkF m 0 #[.val (.int p0), .val (.int p1), .val (.int p2), .val (.int p3), .val (.int p4), .unset, .unset, .unset, .unset, .unset] [] := by first | (simp [entryFrame, mkF, argsToLocals, Value.category, maxLocals]; done) | rfl
def own_f0c2_150 (t150_0 : Int32) : Int32 := (nar .boolean t150_0)
def own_f0c2_149 : Int32 := (own_f0c2_150 (0 : Int32))
def own_f0c2_114 (p2 : Int32) (p3 : Int32) (t114_0 : Int32) (wd : Int32) : Int32 := (if t114_0 = (0 : Int32) then (own_f0c2_149) else (if (own_f2_0 wd wd (own_g wd (own_upd (own_upd (fun _ => (0 : Int32)) ((0 : Int32)).toNatClampNeg p2) ((1 : Int32)).toNatClampNeg p3) (own_m wd (2 : Int32) (0 : Int32)))) = (own_f3_0 p3 wd) then (own_f0c2_150 (1 : Int32)) else (own_f0c2_149)))
def own_f0c2_0 (p2 : Int32) (p3 : Int32) (wd : Int32) : Int32 := (if (wd * (2 : Int32)) = (wd * (2 : Int32)) then (if (own_f2_0 (0 : Int32) wd (own_g wd (own_upd (own_upd (fun _ => (0 : Int32)) ((0 : Int32)).toNatClampNeg p2) ((1 : Int32)).toNatClampNeg p3) (own_m wd (2 : Int32) (0 : Int32)))) = (own_f3_0 p2 wd) then (own_f0c2_114 p2 p3 (1 : Int32) wd) else (own_f0c2_114 p2 p3 (0 : Int32) wd)) else (0 : Int32))
theorem own_e2_0 (p2 p3 p4 : Int32) (wd : Int32) (H : own_W wd) : own_f2_0 (0 : Int32) wd (own_g wd (own_upd (own_upd (fun _ => (0 : Int32)) ((0 : Int32)).toNatClampNeg p2) ((1 : Int32)).toNatClampNeg p3) (own_m wd (2 : Int32) (0 : Int32))) = own_f3_0 p2 wd := by
  rcases own_w45 H with rfl | rfl | rfl | rfl | rfl
  · exact own_r0 _ _ _
  · exact own_r1 _ _ _ (own_gk 1 0 _ _ 0 0 _ (by decide) (by decide) rfl (by decide))
  · exact own_r2 _ _ _ (own_gk 2 8 _ _ 0 0 _ (by decide) (by decide) rfl (by decide)) (own_gk 2 0 _ _ 1 0 _ (by decide) (by decide) rfl (by decide))
  · exact own_r3 _ _ _ (own_gk 3 16 _ _ 0 0 _ (by decide) (by decide) rfl (by decide)) (own_gk 3 8 _ _ 1 0 _ (by decide) (by decide) rfl (by decide)) (own_gk 3 0 _ _ 2 0 _ (by decide) (by decide) rfl (by decide))
  · exact own_r4 _ _ _ (own_gk 4 24 _ _ 0 0 _ (by decide) (by decide) rfl (by decide)) (own_gk 4 16 _ _ 1 0 _ (by decide) (by decide) rfl (by decide)) (own_gk 4 8 _ _ 2 0 _ (by decide) (by decide) rfl (by decide)) (own_gk 4 0 _ _ 3 0 _ (by decide) (by decide) rfl (by decide))
theorem own_e2_1 (p2 p3 p4 : Int32) (wd : Int32) (H : own_W wd) : own_f2_0 wd wd (own_g wd (own_upd (own_upd (fun _ => (0 : Int32)) ((0 : Int32)).toNatClampNeg p2) ((1 : Int32)).toNatClampNeg p3) (own_m wd (2 : Int32) (0 : Int32))) = own_f3_0 p3 wd := by
  rcases own_w45 H with rfl | rfl | rfl | rfl | rfl
  · exact own_r0 _ _ _
  · exact own_r1 _ _ _ (own_gk 1 0 _ _ 1 1 _ (by decide) (by decide) rfl (by decide))
  · exact own_r2 _ _ _ (own_gk 2 8 _ _ 2 1 _ (by decide) (by decide) rfl (by decide)) (own_gk 2 0 _ _ 3 1 _ (by decide) (by decide) rfl (by decide))
  · exact own_r3 _ _ _ (own_gk 3 16 _ _ 3 1 _ (by decide) (by decide) rfl (by decide)) (own_gk 3 8 _ _ 4 1 _ (by decide) (by decide) rfl (by decide)) (own_gk 3 0 _ _ 5 1 _ (by decide) (by decide) rfl (by decide))
  · exact own_r4 _ _ _ (own_gk 4 24 _ _ 4 1 _ (by decide) (by decide) rfl (by decide)) (own_gk 4 16 _ _ 5 1 _ (by decide) (by decide) rfl (by decide)) (own_gk 4 8 _ _ 6 1 _ (by decide) (by decide) rfl (by decide)) (own_gk 4 0 _ _ 7 1 _ (by decide) (by decide) rfl (by decide))
theorem own_law2 (p0 p1 p2 p3 p4 wd : Int32) (H : own_W wd) : own_f0c2_0 p2 p3 wd = 1 := by
  have z : ¬ ((1 : Int32) = 0) := by decide
  unfold own_f0c2_0 own_f0c2_114
  rw [if_pos rfl, if_pos (own_e2_0 p2 p3 p4 wd H), if_neg z, if_pos (own_e2_1 p2 p3 p4 wd H)]
  decide
set_option maxRecDepth 65536 in
set_option maxHeartbeats 40000000 in
theorem own_rm0c2 (l : Launch) (Z : State) (aA : Array Value) (hw : ∀ d ∈ tables_1, d.before aA Z = true) (ws : List Jvm.Cond) (p0 : Int32) (p1 : Int32) (p2 : Int32) (p3 : Int32) (p4 : Int32)  (h0 : Heap) (n0 : Nat) (Z0 : n0 ≤ h0.size) (hc : (p1 &&& (3 : Int32)) = (2 : Int32)) :
    MetFree l x (head1 (Jvm.Cond.code x code maxLocals ret :: ws) room_1) (fun a U => a = #[(.int p0), (.int p1), (.int p2), (.int p3), (.int p4)] ∧ Z.Warmed39 U.vm ∧ U.heap = h0) (fun _ _ _ _ _ => True) (fun _ U o U' => ∃ v L, o = .returned v ∧ (QL (.int ((1 : Int32))) n0) v U'.heap L ∧ FrameEnd U o U' L 16 128) := by
  refine MetFree.of_bodySF (plainFor_of_name own_pn1) hisR ?_
  intro p e s m args below meth c s₁ Bd hml0 hP hK
  obtain ⟨rfl, hZ, hh⟩ := hP
  have hx := Bd.exec
  have hby := Bd.bytes
  have hml : c.maxLocals = 10 := hml0
  have hown : s.vm.findClass "com/example/rasterline/rasterline/formats/png/KnownChunkPackedPinLaw" = some m.cls := findClass_of_methodNamed Bd.named
  have hnm := (name_of_methodNamed Bd.named Bd.method).1
  have X0 : Stand p l e room_1 s m #[(.int p0), (.int p1), (.int p2), (.int p3), (.int p4)] below meth c s₁ [] 0 0 := Stand.of_body Bd
  have e0 : s₁.heap = h0 := by rw [← hh, Bd.state]; rfl
  have N0 := Fr.nil n0
  refine Owe.step (T := s₁) (T' := s₁) (g' := (mkF m 0 #[.val (.int p0), .val (.int p1), .val (.int p2), .val (.int p3), .val (.int p4), .unset, .unset, .unset, .unset, .unset] [])) (fun t k => castTop (own_ef0c2 m p0 p1 p2 p3 p4) k) ?_
  refine Owe.step (T' := s₁) (g' := (mkF m 6 #[.val (.int p0), .val (.int p1), .val (.int p2), .val (.int p3), .val (.int p4), .unset, .unset, .unset, .unset, .unset] [(.int ((p0 &&& (2147483647 : Int32)) - ((p0 &&& (2147483647 : Int32)) / (5 : Int32)) * (5 : Int32)))])) (fun t k => ?_) ?_
  · show Steps p.tables e below (s₁.setTop (mkF m 0 #[.val (.int p0), .val (.int p1), .val (.int p2), .val (.int p3), .val (.int p4), .unset, .unset, .unset, .unset, .unset] [])) t
    refine XS.iloadN X0.here hx rfl (hb hby at_0) rfl ?_
    show Steps p.tables e below (s₁.setTop (mkF m 1 #[.val (.int p0), .val (.int p1), .val (.int p2), .val (.int p3), .val (.int p4), .unset, .unset, .unset, .unset, .unset] [(.int p0)])) t
    refine X0.ldcInt hx hown (mvT hZ (hw _ (List.mem_of_getElem? (i := 0) rfl))) (g := (mkF m 1 #[.val (.int p0), .val (.int p1), .val (.int p2), .val (.int p3), .val (.int p4), .unset, .unset, .unset, .unset, .unset] [(.int p0)])) rfl (hb hby at_1) _ ?_
    show Steps p.tables e below (s₁.setTop (mkF m 3 #[.val (.int p0), .val (.int p1), .val (.int p2), .val (.int p3), .val (.int p4), .unset, .unset, .unset, .unset, .unset] [(.int (2147483647 : Int32)), (.int p0)])) t
    refine XS.iand X0.here hx rfl (hb hby at_3) rfl ?_
    show Steps p.tables e below (s₁.setTop (mkF m 4 #[.val (.int p0), .val (.int p1), .val (.int p2), .val (.int p3), .val (.int p4), .unset, .unset, .unset, .unset, .unset] [(.int (p0 &&& (2147483647 : Int32)))])) t
    refine XS.iconst X0.here hx rfl (hb hby at_4) ?_
    show Steps p.tables e below (s₁.setTop (mkF m 5 #[.val (.int p0), .val (.int p1), .val (.int p2), .val (.int p3), .val (.int p4), .unset, .unset, .unset, .unset, .unset] [(.int (5 : Int32)), (.int (p0 &&& (2147483647 : Int32)))])) t
    refine XS.irem X0.here hx rfl (hb hby at_5) rfl (by decide) ?_
    show Steps p.tables e below (s₁.setTop (mkF m 6 #[.val (.int p0), .val (.int p1), .val (.int p2), .val (.int p3), .val (.int p4), .unset, .unset, .unset, .unset, .unset] [(.int ((p0 &&& (2147483647 : Int32)) - ((p0 &&& (2147483647 : Int32)) / (5 : Int32)) * (5 : Int32)))])) t
    exact k
  obtain ⟨wd, e_wd⟩ : ∃ z, z = ((p0 &&& (2147483647 : Int32)) - ((p0 &&& (2147483647 : Int32)) / (5 : Int32)) * (5 : Int32)) := ⟨_, rfl⟩
  rw [← e_wd]
  have H_wd : own_W wd := by rw [e_wd]; exact own_w5 p0
  refine Owe.step (T' := s₁) (g' := (mkF m 11 #[.val (.int p0), .val (.int p1), .val (.int p2), .val (.int p3), .val (.int p4), .val (.int wd), .unset, .unset, .unset, .unset] [(.int (p1 &&& (3 : Int32)))])) (fun t k => ?_) ?_
  · show Steps p.tables e below (s₁.setTop (mkF m 6 #[.val (.int p0), .val (.int p1), .val (.int p2), .val (.int p3), .val (.int p4), .unset, .unset, .unset, .unset, .unset] [(.int wd)])) t
    refine XS.istore X0.here hx rfl (hb hby at_6) rfl (l' := #[.val (.int p0), .val (.int p1), .val (.int p2), .val (.int p3), .val (.int p4), .val (.int wd), .unset, .unset, .unset, .unset]) rfl ?_
    show Steps p.tables e below (s₁.setTop (mkF m 8 #[.val (.int p0), .val (.int p1), .val (.int p2), .val (.int p3), .val (.int p4), .val (.int wd), .unset, .unset, .unset, .unset] [])) t
    refine XS.iloadN X0.here hx rfl (hb hby at_8) rfl ?_
    show Steps p.tables e below (s₁.setTop (mkF m 9 #[.val (.int p0), .val (.int p1), .val (.int p2), .val (.int p3), .val (.int p4), .val (.int wd), .unset, .unset, .unset, .unset] [(.int p1)])) t
    refine XS.iconst X0.here hx rfl (hb hby at_9) ?_
    show Steps p.tables e below (s₁.setTop (mkF m 10 #[.val (.int p0), .val (.int p1), .val (.int p2), .val (.int p3), .val (.int p4), .val (.int wd), .unset, .unset, .unset, .unset] [(.int (3 : Int32)), (.int p1)])) t
    refine XS.iand X0.here hx rfl (hb hby at_10) rfl ?_
    show Steps p.tables e below (s₁.setTop (mkF m 11 #[.val (.int p0), .val (.int p1), .val (.int p2), .val (.int p3), .val (.int p4), .val (.int wd), .unset, .unset, .unset, .unset] [(.int (p1 &&& (3 : Int32)))])) t
    exact k
  rw [hc]
  obtain ⟨T1, h1, k1, X1, e1, E1, A1, st1⟩ := newP X0 hx hZ (hw _ (List.mem_of_getElem? (i := 1) rfl)) e0 (g := (mkF m 15 #[.val (.int p0), .val (.int p1), .val (.int p2), .val (.int p3), .val (.int p4), .val (.int wd), .val (.int (2 : Int32)), .unset, .unset, .unset] [(.int (2 : Int32))])) rfl (hb hby at_15) rfl (by decide) (cap := 2) (by decide) (by decide) (by decide) (by decide)
  obtain ⟨b1, g1⟩ : ∃ z, z = h0.size := ⟨_, rfl⟩
  rw [← g1] at A1 st1
  have g_b1 : n0 ≤ b1 := Nat.le_trans Z0 (Nat.le_of_eq g1.symm)
  have Zn1 : n0 ≤ h1.size := Nat.le_trans Z0 E1.1
  have V1 : AI Z h1 b1 .int 2 (fun _ => (0 : Int32)) := AV.new A1 (by decide)
  obtain ⟨T2, h2, X2, e2, W2, V2, st2⟩ := stAI X1 hx hZ e1 V1 (j := (0 : Int32)) (by decide) (by decide) (g := (mkF m 28 #[.val (.int p0), .val (.int p1), .val (.int p2), .val (.int p3), .val (.int p4), .val (.int wd), .val (.int (2 : Int32)), .val (.ref b1), .unset, .unset] [(.int p2), (.int (0 : Int32)), (.ref b1)])) rfl rfl (hb hby at_28)
  have N2 := Fr.snoc X2 N0 g_b1
  have Zn2 : n0 ≤ h2.size := Nat.le_trans Zn1 (Keep.of_wr W2).1
  obtain ⟨T3, h3, X3, e3, W3, V3, st3⟩ := stAI X2 hx hZ e2 V2 (j := (1 : Int32)) (by decide) (by decide) (g := (mkF m 39 #[.val (.int p0), .val (.int p1), .val (.int p2), .val (.int p3), .val (.int p4), .val (.int wd), .val (.int (2 : Int32)), .val (.ref b1), .unset, .unset] [(.int p3), (.int (1 : Int32)), (.ref b1)])) rfl rfl (hb hby at_39)
  have N3 := Fr.snoc X3 N2 g_b1
  have Zn3 : n0 ≤ h3.size := Nat.le_trans Zn2 (Keep.of_wr W3).1
  obtain ⟨_, _, ⟨T4, L4, k4, n4⟩, -, X4, ⟨Lc4, hQ4, l4, y4, z4⟩, st4⟩ := Jvm.LawKit.callS X3 hx (y := (⟨"com/example/rasterline/rasterline/formats/png/KnownChunk", "packed", "(I[I)[B"⟩ : MethodName)) hown (mvT hZ (hw _ (List.mem_of_getElem? (i := 2) rfl))) (mvT hZ (hw _ (List.mem_of_getElem? (i := 3) rfl))) (mvT hZ (hw _ (List.mem_of_getElem? (i := 4) rfl))) (mvT hZ (hw _ (List.mem_of_getElem? (i := 5) rfl))) (by decide) (backOf (W := 0) (own_rm1 l Z aA hw [] wd b1 2 (own_upd (own_upd (fun _ => (0 : Int32)) ((0 : Int32)).toNatClampNeg p2) ((1 : Int32)).toNatClampNeg p3) (2 : Int32) h3 n0 Zn3 V3 (by decide) (by decide) (by decide) H_wd) hZ (hw _ (List.mem_of_getElem? (i := 5) rfl)) (hw _ (List.mem_of_getElem? (i := 4) rfl)) (by decide) (by decide)) (g := (mkF m 56 #[.val (.int p0), .val (.int p1), .val (.int p2), .val (.int p3), .val (.int p4), .val (.int wd), .val (.int (2 : Int32)), .val (.ref b1), .unset, .unset] [(.ref b1), (.int wd)])) rfl (by rw [hml]; rfl) (argsL := [(.int wd), (.ref b1)]) (rest := []) (lenOf own_pd0 rfl) rfl (by show 2 * 0 + _ ≤ _; exact Nat.le_of_eq rfl) (hb hby at_56) (fun _ _ => ⟨rfl, e3, (by decide : 1 + 1 ≤ _), (by decide : 2 + 12 ≤ _)⟩)
  dsimp only [Pt.U, Pt.locs, Pt.cells, Pt.slots] at X4 l4 y4 z4 st4 hQ4
  subst y4 z4
  obtain ⟨h4, eh4⟩ : ∃ z, T4.heap = z := ⟨_, rfl⟩
  rw [eh4] at hQ4
  obtain ⟨b1_4, rfl, N4q, K4q, sz4_b1_4, G4_0⟩ := hQ4
  have N4 : Fr n0 L4 := by rw [l4]; exact Fr.app N3 N4q
  have ne_b1_b1_4 : b1 ≠ b1_4 := Nat.ne_of_lt (Nat.lt_of_lt_of_le V3.lt sz4_b1_4)
  have g_b1_4 : n0 ≤ b1_4 := Nat.le_trans Zn3 sz4_b1_4
  have V3_k4 := V3.keep K4q (by simp only [List.mem_cons, List.not_mem_nil, or_false, not_or, not_false_eq_true])
  have Zn4 : n0 ≤ h4.size := Nat.le_trans Zn3 K4q.1
  refine Owe.step (T' := T4) (g' := (mkF m 74 #[.val (.int p0), .val (.int p1), .val (.int p2), .val (.int p3), .val (.int p4), .val (.int wd), .val (.int (2 : Int32)), .val (.ref b1), .val (.ref b1_4), .unset] [(.int (wd * (2 : Int32))), (.int (wd * (2 : Int32)))])) (fun t k => ?_) ?_
  · show Steps p.tables e below (s₁.setTop (mkF m 11 #[.val (.int p0), .val (.int p1), .val (.int p2), .val (.int p3), .val (.int p4), .val (.int wd), .unset, .unset, .unset, .unset] [(.int (2 : Int32))])) t
    refine XS.istore X0.here hx rfl (hb hby at_11) rfl (l' := #[.val (.int p0), .val (.int p1), .val (.int p2), .val (.int p3), .val (.int p4), .val (.int wd), .val (.int (2 : Int32)), .unset, .unset, .unset]) rfl ?_
    show Steps p.tables e below (s₁.setTop (mkF m 13 #[.val (.int p0), .val (.int p1), .val (.int p2), .val (.int p3), .val (.int p4), .val (.int wd), .val (.int (2 : Int32)), .unset, .unset, .unset] [])) t
    refine XS.iload X0.here hx rfl (hb hby at_13) rfl ?_
    show Steps p.tables e below (s₁.setTop (mkF m 15 #[.val (.int p0), .val (.int p1), .val (.int p2), .val (.int p3), .val (.int p4), .val (.int wd), .val (.int (2 : Int32)), .unset, .unset, .unset] [(.int (2 : Int32))])) t
    refine st1 _ ?_
    show Steps p.tables e below (T1.setTop (mkF m 17 #[.val (.int p0), .val (.int p1), .val (.int p2), .val (.int p3), .val (.int p4), .val (.int wd), .val (.int (2 : Int32)), .unset, .unset, .unset] [(.ref b1)])) t
    refine XS.astore X1.here hx rfl (hb hby at_17) rfl rfl (l' := #[.val (.int p0), .val (.int p1), .val (.int p2), .val (.int p3), .val (.int p4), .val (.int wd), .val (.int (2 : Int32)), .val (.ref b1), .unset, .unset]) rfl ?_
    show Steps p.tables e below (T1.setTop (mkF m 19 #[.val (.int p0), .val (.int p1), .val (.int p2), .val (.int p3), .val (.int p4), .val (.int wd), .val (.int (2 : Int32)), .val (.ref b1), .unset, .unset] [])) t
    refine XS.iload X1.here hx rfl (hb hby at_19) rfl ?_
    show Steps p.tables e below (T1.setTop (mkF m 21 #[.val (.int p0), .val (.int p1), .val (.int p2), .val (.int p3), .val (.int p4), .val (.int wd), .val (.int (2 : Int32)), .val (.ref b1), .unset, .unset] [(.int (2 : Int32))])) t
    refine XS.ifNo X1.here hx rfl (hb hby at_21) rfl ((if0 _ _).trans (tlt (by decide : (0 : Int32) < (2 : Int32))).2.2.2) ?_
    show Steps p.tables e below (T1.setTop (mkF m 24 #[.val (.int p0), .val (.int p1), .val (.int p2), .val (.int p3), .val (.int p4), .val (.int wd), .val (.int (2 : Int32)), .val (.ref b1), .unset, .unset] [])) t
    refine XS.aload X1.here hx rfl (hb hby at_24) rfl rfl ?_
    show Steps p.tables e below (T1.setTop (mkF m 26 #[.val (.int p0), .val (.int p1), .val (.int p2), .val (.int p3), .val (.int p4), .val (.int wd), .val (.int (2 : Int32)), .val (.ref b1), .unset, .unset] [(.ref b1)])) t
    refine XS.iconst X1.here hx rfl (hb hby at_26) ?_
    show Steps p.tables e below (T1.setTop (mkF m 27 #[.val (.int p0), .val (.int p1), .val (.int p2), .val (.int p3), .val (.int p4), .val (.int wd), .val (.int (2 : Int32)), .val (.ref b1), .unset, .unset] [(.int (0 : Int32)), (.ref b1)])) t
    refine XS.iloadN X1.here hx rfl (hb hby at_27) rfl ?_
    show Steps p.tables e below (T1.setTop (mkF m 28 #[.val (.int p0), .val (.int p1), .val (.int p2), .val (.int p3), .val (.int p4), .val (.int wd), .val (.int (2 : Int32)), .val (.ref b1), .unset, .unset] [(.int p2), (.int (0 : Int32)), (.ref b1)])) t
    refine st2 _ ?_
    show Steps p.tables e below (T2.setTop (mkF m 29 #[.val (.int p0), .val (.int p1), .val (.int p2), .val (.int p3), .val (.int p4), .val (.int wd), .val (.int (2 : Int32)), .val (.ref b1), .unset, .unset] [])) t
    refine XS.iload X2.here hx rfl (hb hby at_29) rfl ?_
    show Steps p.tables e below (T2.setTop (mkF m 31 #[.val (.int p0), .val (.int p1), .val (.int p2), .val (.int p3), .val (.int p4), .val (.int wd), .val (.int (2 : Int32)), .val (.ref b1), .unset, .unset] [(.int (2 : Int32))])) t
    refine XS.iconst X2.here hx rfl (hb hby at_31) ?_
    show Steps p.tables e below (T2.setTop (mkF m 32 #[.val (.int p0), .val (.int p1), .val (.int p2), .val (.int p3), .val (.int p4), .val (.int wd), .val (.int (2 : Int32)), .val (.ref b1), .unset, .unset] [(.int (1 : Int32)), (.int (2 : Int32))])) t
    refine XS.icmpNo X2.here hx rfl (hb hby at_32) rfl (tlt (by decide : (1 : Int32) < (2 : Int32))).2.2.2 ?_
    show Steps p.tables e below (T2.setTop (mkF m 35 #[.val (.int p0), .val (.int p1), .val (.int p2), .val (.int p3), .val (.int p4), .val (.int wd), .val (.int (2 : Int32)), .val (.ref b1), .unset, .unset] [])) t
    refine XS.aload X2.here hx rfl (hb hby at_35) rfl rfl ?_
    show Steps p.tables e below (T2.setTop (mkF m 37 #[.val (.int p0), .val (.int p1), .val (.int p2), .val (.int p3), .val (.int p4), .val (.int wd), .val (.int (2 : Int32)), .val (.ref b1), .unset, .unset] [(.ref b1)])) t
    refine XS.iconst X2.here hx rfl (hb hby at_37) ?_
    show Steps p.tables e below (T2.setTop (mkF m 38 #[.val (.int p0), .val (.int p1), .val (.int p2), .val (.int p3), .val (.int p4), .val (.int wd), .val (.int (2 : Int32)), .val (.ref b1), .unset, .unset] [(.int (1 : Int32)), (.ref b1)])) t
    refine XS.iloadN X2.here hx rfl (hb hby at_38) rfl ?_
    show Steps p.tables e below (T2.setTop (mkF m 39 #[.val (.int p0), .val (.int p1), .val (.int p2), .val (.int p3), .val (.int p4), .val (.int wd), .val (.int (2 : Int32)), .val (.ref b1), .unset, .unset] [(.int p3), (.int (1 : Int32)), (.ref b1)])) t
    refine st3 _ ?_
    show Steps p.tables e below (T3.setTop (mkF m 40 #[.val (.int p0), .val (.int p1), .val (.int p2), .val (.int p3), .val (.int p4), .val (.int wd), .val (.int (2 : Int32)), .val (.ref b1), .unset, .unset] [])) t
    refine XS.iload X3.here hx rfl (hb hby at_40) rfl ?_
    show Steps p.tables e below (T3.setTop (mkF m 42 #[.val (.int p0), .val (.int p1), .val (.int p2), .val (.int p3), .val (.int p4), .val (.int wd), .val (.int (2 : Int32)), .val (.ref b1), .unset, .unset] [(.int (2 : Int32))])) t
    refine XS.iconst X3.here hx rfl (hb hby at_42) ?_
    show Steps p.tables e below (T3.setTop (mkF m 43 #[.val (.int p0), .val (.int p1), .val (.int p2), .val (.int p3), .val (.int p4), .val (.int wd), .val (.int (2 : Int32)), .val (.ref b1), .unset, .unset] [(.int (2 : Int32)), (.int (2 : Int32))])) t
    refine XS.icmpYes X3.here hx rfl (pc0 := 43) (pc' := 52) rfl (hb hby at_43) rfl (flt (by decide : ¬ ((2 : Int32) < (2 : Int32)))).2.2.2 (by decide) (by decide) ?_
    show Steps p.tables e below (T3.setTop (mkF m 52 #[.val (.int p0), .val (.int p1), .val (.int p2), .val (.int p3), .val (.int p4), .val (.int wd), .val (.int (2 : Int32)), .val (.ref b1), .unset, .unset] [])) t
    refine XS.iload X3.here hx rfl (hb hby at_52) rfl ?_
    show Steps p.tables e below (T3.setTop (mkF m 54 #[.val (.int p0), .val (.int p1), .val (.int p2), .val (.int p3), .val (.int p4), .val (.int wd), .val (.int (2 : Int32)), .val (.ref b1), .unset, .unset] [(.int wd)])) t
    refine XS.aload X3.here hx rfl (hb hby at_54) rfl rfl ?_
    show Steps p.tables e below (T3.setTop (mkF m 56 #[.val (.int p0), .val (.int p1), .val (.int p2), .val (.int p3), .val (.int p4), .val (.int wd), .val (.int (2 : Int32)), .val (.ref b1), .unset, .unset] [(.ref b1), (.int wd)])) t
    refine st4 _ ?_
    show Steps p.tables e below (T4.setTop (mkF m 59 #[.val (.int p0), .val (.int p1), .val (.int p2), .val (.int p3), .val (.int p4), .val (.int wd), .val (.int (2 : Int32)), .val (.ref b1), .unset, .unset] [(.ref b1_4)])) t
    refine XS.astore X4.here hx rfl (hb hby at_59) rfl rfl (l' := #[.val (.int p0), .val (.int p1), .val (.int p2), .val (.int p3), .val (.int p4), .val (.int wd), .val (.int (2 : Int32)), .val (.ref b1), .val (.ref b1_4), .unset]) rfl ?_
    show Steps p.tables e below (T4.setTop (mkF m 61 #[.val (.int p0), .val (.int p1), .val (.int p2), .val (.int p3), .val (.int p4), .val (.int wd), .val (.int (2 : Int32)), .val (.ref b1), .val (.ref b1_4), .unset] [])) t
    refine XS.aload X4.here hx rfl (hb hby at_61) rfl rfl ?_
    show Steps p.tables e below (T4.setTop (mkF m 63 #[.val (.int p0), .val (.int p1), .val (.int p2), .val (.int p3), .val (.int p4), .val (.int wd), .val (.int (2 : Int32)), .val (.ref b1), .val (.ref b1_4), .unset] [(.ref b1_4)])) t
    refine XS.ifnullNo X4.here hx rfl (hb hby at_63) rfl ?_
    show Steps p.tables e below (T4.setTop (mkF m 66 #[.val (.int p0), .val (.int p1), .val (.int p2), .val (.int p3), .val (.int p4), .val (.int wd), .val (.int (2 : Int32)), .val (.ref b1), .val (.ref b1_4), .unset] [])) t
    refine XS.aload X4.here hx rfl (hb hby at_66) rfl rfl ?_
    show Steps p.tables e below (T4.setTop (mkF m 68 #[.val (.int p0), .val (.int p1), .val (.int p2), .val (.int p3), .val (.int p4), .val (.int wd), .val (.int (2 : Int32)), .val (.ref b1), .val (.ref b1_4), .unset] [(.ref b1_4)])) t
    refine lenA X4 hx hZ eh4 G4_0 (z := (wd * (2 : Int32))) (own_len H_wd (by decide)) (g := (mkF m 68 #[.val (.int p0), .val (.int p1), .val (.int p2), .val (.int p3), .val (.int p4), .val (.int wd), .val (.int (2 : Int32)), .val (.ref b1), .val (.ref b1_4), .unset] [(.ref b1_4)])) rfl rfl (hb hby at_68) _ ?_
    show Steps p.tables e below (T4.setTop (mkF m 69 #[.val (.int p0), .val (.int p1), .val (.int p2), .val (.int p3), .val (.int p4), .val (.int wd), .val (.int (2 : Int32)), .val (.ref b1), .val (.ref b1_4), .unset] [(.int (wd * (2 : Int32)))])) t
    refine XS.iload X4.here hx rfl (hb hby at_69) rfl ?_
    show Steps p.tables e below (T4.setTop (mkF m 71 #[.val (.int p0), .val (.int p1), .val (.int p2), .val (.int p3), .val (.int p4), .val (.int wd), .val (.int (2 : Int32)), .val (.ref b1), .val (.ref b1_4), .unset] [(.int wd), (.int (wd * (2 : Int32)))])) t
    refine XS.iload X4.here hx rfl (hb hby at_71) rfl ?_
    show Steps p.tables e below (T4.setTop (mkF m 73 #[.val (.int p0), .val (.int p1), .val (.int p2), .val (.int p3), .val (.int p4), .val (.int wd), .val (.int (2 : Int32)), .val (.ref b1), .val (.ref b1_4), .unset] [(.int (2 : Int32)), (.int wd), (.int (wd * (2 : Int32)))])) t
    refine XS.imul X4.here hx rfl (hb hby at_73) rfl ?_
    show Steps p.tables e below (T4.setTop (mkF m 74 #[.val (.int p0), .val (.int p1), .val (.int p2), .val (.int p3), .val (.int p4), .val (.int wd), .val (.int (2 : Int32)), .val (.ref b1), .val (.ref b1_4), .unset] [(.int (wd * (2 : Int32))), (.int (wd * (2 : Int32)))])) t
    exact k
  by_cases hc74 : (wd * (2 : Int32)) = (wd * (2 : Int32))
  · refine Owe.step (T' := T4) (g' := (mkF m 79 #[.val (.int p0), .val (.int p1), .val (.int p2), .val (.int p3), .val (.int p4), .val (.int wd), .val (.int (2 : Int32)), .val (.ref b1), .val (.ref b1_4), .unset] [])) (fun t k => ?_) ?_
    · show Steps p.tables e below (T4.setTop (mkF m 74 #[.val (.int p0), .val (.int p1), .val (.int p2), .val (.int p3), .val (.int p4), .val (.int wd), .val (.int (2 : Int32)), .val (.ref b1), .val (.ref b1_4), .unset] [(.int (wd * (2 : Int32))), (.int (wd * (2 : Int32)))])) t
      refine XS.icmpYes X4.here hx rfl (pc0 := 74) (pc' := 79) rfl (hb hby at_74) rfl (teq hc74).1 (by decide) (by decide) ?_
      show Steps p.tables e below (T4.setTop (mkF m 79 #[.val (.int p0), .val (.int p1), .val (.int p2), .val (.int p3), .val (.int p4), .val (.int wd), .val (.int (2 : Int32)), .val (.ref b1), .val (.ref b1_4), .unset] [])) t
      exact k
    obtain ⟨_, _, ⟨T5, L5, k5, n5⟩, -, X5, ⟨Lc5, hQ5, l5, y5, z5⟩, st5⟩ := Jvm.LawKit.callS X4 hx (y := (⟨"com/example/rasterline/rasterline/formats/png/KnownChunkPackedPinLaw", "read", "([BII)I"⟩ : MethodName)) hown (mvT hZ (hw _ (List.mem_of_getElem? (i := 7) rfl))) (mvT hZ (hw _ (List.mem_of_getElem? (i := 8) rfl))) (mvT hZ (hw _ (List.mem_of_getElem? (i := 9) rfl))) (mvT hZ (hw _ (List.mem_of_getElem? (i := 10) rfl))) (by decide) (backOf (W := 0) (own_rm2 l Z aA hw [] b1_4 (0 : Int32) wd (wd * (2 : Int32)).toNatClampNeg (own_g wd (own_upd (own_upd (fun _ => (0 : Int32)) ((0 : Int32)).toNatClampNeg p2) ((1 : Int32)).toNatClampNeg p3) (own_m wd (2 : Int32) (0 : Int32))) h4 n0 Zn4 G4_0 (own_rd0 H_wd (by decide) (by decide))) hZ (hw _ (List.mem_of_getElem? (i := 10) rfl)) (hw _ (List.mem_of_getElem? (i := 9) rfl)) (by decide) (by decide)) (g := (mkF m 97 #[.val (.int p0), .val (.int p1), .val (.int p2), .val (.int p3), .val (.int p4), .val (.int wd), .val (.int (2 : Int32)), .val (.ref b1), .val (.ref b1_4), .val (.int (1 : Int32))] [(.int wd), (.int (0 : Int32)), (.ref b1_4)])) rfl (by rw [hml]; rfl) (argsL := [(.ref b1_4), (.int (0 : Int32)), (.int wd)]) (rest := []) (lenOf own_pd1 rfl) rfl (by show 2 * 0 + _ ≤ _; exact Nat.le_of_eq rfl) (hb hby at_97) (fun _ _ => ⟨rfl, eh4, (by decide : 2 + 0 ≤ _), (by decide : 14 + 0 ≤ _)⟩)
    dsimp only [Pt.U, Pt.locs, Pt.cells, Pt.slots] at X5 l5 y5 z5 st5 hQ5
    subst y5 z5
    obtain ⟨rfl, N5q, e5⟩ := hQ5
    have N5 : Fr n0 L5 := by rw [l5]; exact Fr.app N4 N5q
    obtain ⟨_, _, ⟨T6, L6, k6, n6⟩, -, X6, ⟨Lc6, hQ6, l6, y6, z6⟩, st6⟩ := Jvm.LawKit.callS X5 hx (y := (⟨"com/example/rasterline/rasterline/formats/png/KnownChunkPackedPinLaw", "low", "(II)I"⟩ : MethodName)) hown (mvT hZ (hw _ (List.mem_of_getElem? (i := 11) rfl))) (mvT hZ (hw _ (List.mem_of_getElem? (i := 12) rfl))) (mvT hZ (hw _ (List.mem_of_getElem? (i := 9) rfl))) (mvT hZ (hw _ (List.mem_of_getElem? (i := 13) rfl))) (by decide) (backOf (W := 1) (own_rm3 l Z aA hw [] p2 wd h4 n0 Zn4 ) hZ (hw _ (List.mem_of_getElem? (i := 13) rfl)) (hw _ (List.mem_of_getElem? (i := 9) rfl)) (by decide) (by decide)) (g := (mkF m 103 #[.val (.int p0), .val (.int p1), .val (.int p2), .val (.int p3), .val (.int p4), .val (.int wd), .val (.int (2 : Int32)), .val (.ref b1), .val (.ref b1_4), .val (.int (1 : Int32))] [(.int wd), (.int p2), (.int (own_f2_0 (0 : Int32) wd (own_g wd (own_upd (own_upd (fun _ => (0 : Int32)) ((0 : Int32)).toNatClampNeg p2) ((1 : Int32)).toNatClampNeg p3) (own_m wd (2 : Int32) (0 : Int32)))))])) rfl (by rw [hml]; rfl) (argsL := [(.int p2), (.int wd)]) (rest := [(.int (own_f2_0 (0 : Int32) wd (own_g wd (own_upd (own_upd (fun _ => (0 : Int32)) ((0 : Int32)).toNatClampNeg p2) ((1 : Int32)).toNatClampNeg p3) (own_m wd (2 : Int32) (0 : Int32)))))]) (lenOf own_pd2 rfl) rfl (by show 2 * 0 + _ ≤ _; exact Nat.le_of_eq rfl) (hb hby at_103) (fun _ _ => ⟨rfl, e5, (by decide : 2 + 0 ≤ _), (by decide : 14 + 0 ≤ _)⟩)
    dsimp only [Pt.U, Pt.locs, Pt.cells, Pt.slots] at X6 l6 y6 z6 st6 hQ6
    subst y6 z6
    obtain ⟨rfl, N6q, e6⟩ := hQ6
    have N6 : Fr n0 L6 := by rw [l6]; exact Fr.app N5 N6q
    refine Owe.step (T' := T6) (g' := (mkF m 106 #[.val (.int p0), .val (.int p1), .val (.int p2), .val (.int p3), .val (.int p4), .val (.int wd), .val (.int (2 : Int32)), .val (.ref b1), .val (.ref b1_4), .val (.int (1 : Int32))] [(.int (own_f3_0 p2 wd)), (.int (own_f2_0 (0 : Int32) wd (own_g wd (own_upd (own_upd (fun _ => (0 : Int32)) ((0 : Int32)).toNatClampNeg p2) ((1 : Int32)).toNatClampNeg p3) (own_m wd (2 : Int32) (0 : Int32)))))])) (fun t k => ?_) ?_
    · show Steps p.tables e below (T4.setTop (mkF m 79 #[.val (.int p0), .val (.int p1), .val (.int p2), .val (.int p3), .val (.int p4), .val (.int wd), .val (.int (2 : Int32)), .val (.ref b1), .val (.ref b1_4), .unset] [])) t
      refine XS.iconst X4.here hx rfl (hb hby at_79) ?_
      show Steps p.tables e below (T4.setTop (mkF m 80 #[.val (.int p0), .val (.int p1), .val (.int p2), .val (.int p3), .val (.int p4), .val (.int wd), .val (.int (2 : Int32)), .val (.ref b1), .val (.ref b1_4), .unset] [(.int (1 : Int32))])) t
      refine XS.istore X4.here hx rfl (hb hby at_80) rfl (l' := #[.val (.int p0), .val (.int p1), .val (.int p2), .val (.int p3), .val (.int p4), .val (.int wd), .val (.int (2 : Int32)), .val (.ref b1), .val (.ref b1_4), .val (.int (1 : Int32))]) rfl ?_
      show Steps p.tables e below (T4.setTop (mkF m 82 #[.val (.int p0), .val (.int p1), .val (.int p2), .val (.int p3), .val (.int p4), .val (.int wd), .val (.int (2 : Int32)), .val (.ref b1), .val (.ref b1_4), .val (.int (1 : Int32))] [])) t
      refine XS.iload X4.here hx rfl (hb hby at_82) rfl ?_
      show Steps p.tables e below (T4.setTop (mkF m 84 #[.val (.int p0), .val (.int p1), .val (.int p2), .val (.int p3), .val (.int p4), .val (.int wd), .val (.int (2 : Int32)), .val (.ref b1), .val (.ref b1_4), .val (.int (1 : Int32))] [(.int (2 : Int32))])) t
      refine XS.ifNo X4.here hx rfl (hb hby at_84) rfl ((if0 _ _).trans (tlt (by decide : (0 : Int32) < (2 : Int32))).2.2.2) ?_
      show Steps p.tables e below (T4.setTop (mkF m 87 #[.val (.int p0), .val (.int p1), .val (.int p2), .val (.int p3), .val (.int p4), .val (.int wd), .val (.int (2 : Int32)), .val (.ref b1), .val (.ref b1_4), .val (.int (1 : Int32))] [])) t
      refine XS.iload X4.here hx rfl (hb hby at_87) rfl ?_
      show Steps p.tables e below (T4.setTop (mkF m 89 #[.val (.int p0), .val (.int p1), .val (.int p2), .val (.int p3), .val (.int p4), .val (.int wd), .val (.int (2 : Int32)), .val (.ref b1), .val (.ref b1_4), .val (.int (1 : Int32))] [(.int (1 : Int32))])) t
      refine XS.ifNo X4.here hx rfl (hb hby at_89) rfl ((if0 _ _).trans (feq (by decide : ¬ ((1 : Int32) = (0 : Int32)))).1) ?_
      show Steps p.tables e below (T4.setTop (mkF m 92 #[.val (.int p0), .val (.int p1), .val (.int p2), .val (.int p3), .val (.int p4), .val (.int wd), .val (.int (2 : Int32)), .val (.ref b1), .val (.ref b1_4), .val (.int (1 : Int32))] [])) t
      refine XS.aload X4.here hx rfl (hb hby at_92) rfl rfl ?_
      show Steps p.tables e below (T4.setTop (mkF m 94 #[.val (.int p0), .val (.int p1), .val (.int p2), .val (.int p3), .val (.int p4), .val (.int wd), .val (.int (2 : Int32)), .val (.ref b1), .val (.ref b1_4), .val (.int (1 : Int32))] [(.ref b1_4)])) t
      refine XS.iconst X4.here hx rfl (hb hby at_94) ?_
      show Steps p.tables e below (T4.setTop (mkF m 95 #[.val (.int p0), .val (.int p1), .val (.int p2), .val (.int p3), .val (.int p4), .val (.int wd), .val (.int (2 : Int32)), .val (.ref b1), .val (.ref b1_4), .val (.int (1 : Int32))] [(.int (0 : Int32)), (.ref b1_4)])) t
      refine XS.iload X4.here hx rfl (hb hby at_95) rfl ?_
      show Steps p.tables e below (T4.setTop (mkF m 97 #[.val (.int p0), .val (.int p1), .val (.int p2), .val (.int p3), .val (.int p4), .val (.int wd), .val (.int (2 : Int32)), .val (.ref b1), .val (.ref b1_4), .val (.int (1 : Int32))] [(.int wd), (.int (0 : Int32)), (.ref b1_4)])) t
      refine st5 _ ?_
      show Steps p.tables e below (T5.setTop (mkF m 100 #[.val (.int p0), .val (.int p1), .val (.int p2), .val (.int p3), .val (.int p4), .val (.int wd), .val (.int (2 : Int32)), .val (.ref b1), .val (.ref b1_4), .val (.int (1 : Int32))] [(.int (own_f2_0 (0 : Int32) wd (own_g wd (own_upd (own_upd (fun _ => (0 : Int32)) ((0 : Int32)).toNatClampNeg p2) ((1 : Int32)).toNatClampNeg p3) (own_m wd (2 : Int32) (0 : Int32)))))])) t
      refine XS.iloadN X5.here hx rfl (hb hby at_100) rfl ?_
      show Steps p.tables e below (T5.setTop (mkF m 101 #[.val (.int p0), .val (.int p1), .val (.int p2), .val (.int p3), .val (.int p4), .val (.int wd), .val (.int (2 : Int32)), .val (.ref b1), .val (.ref b1_4), .val (.int (1 : Int32))] [(.int p2), (.int (own_f2_0 (0 : Int32) wd (own_g wd (own_upd (own_upd (fun _ => (0 : Int32)) ((0 : Int32)).toNatClampNeg p2) ((1 : Int32)).toNatClampNeg p3) (own_m wd (2 : Int32) (0 : Int32)))))])) t
      refine XS.iload X5.here hx rfl (hb hby at_101) rfl ?_
      show Steps p.tables e below (T5.setTop (mkF m 103 #[.val (.int p0), .val (.int p1), .val (.int p2), .val (.int p3), .val (.int p4), .val (.int wd), .val (.int (2 : Int32)), .val (.ref b1), .val (.ref b1_4), .val (.int (1 : Int32))] [(.int wd), (.int p2), (.int (own_f2_0 (0 : Int32) wd (own_g wd (own_upd (own_upd (fun _ => (0 : Int32)) ((0 : Int32)).toNatClampNeg p2) ((1 : Int32)).toNatClampNeg p3) (own_m wd (2 : Int32) (0 : Int32)))))])) t
      refine st6 _ ?_
      show Steps p.tables e below (T6.setTop (mkF m 106 #[.val (.int p0), .val (.int p1), .val (.int p2), .val (.int p3), .val (.int p4), .val (.int wd), .val (.int (2 : Int32)), .val (.ref b1), .val (.ref b1_4), .val (.int (1 : Int32))] [(.int (own_f3_0 p2 wd)), (.int (own_f2_0 (0 : Int32) wd (own_g wd (own_upd (own_upd (fun _ => (0 : Int32)) ((0 : Int32)).toNatClampNeg p2) ((1 : Int32)).toNatClampNeg p3) (own_m wd (2 : Int32) (0 : Int32)))))])) t
      exact k
    have j114 : ∀ (T : State) (Lc : List Loc) (X : Stand p l e room_1 s m #[(.int p0), (.int p1), (.int p2), (.int p3), (.int p4)] below meth c T Lc 2 14) (t114_0 : Int32) (eT : T.heap = h4) (N : Fr n0 Lc), Owe p e below s 16 128 (QL (.int (own_f0c2_114 p2 p3 t114_0 wd)) n0) T (mkF m 114 #[.val (.int p0), .val (.int p1), .val (.int p2), .val (.int p3), .val (.int p4), .val (.int wd), .val (.int (2 : Int32)), .val (.ref b1), .val (.ref b1_4), .val (.int (1 : Int32))] [(.int t114_0)]) := by
      intro T114j Lc114j X114j t114_0 e114j N114j
      refine Owe.step (T' := T114j) (g' := (mkF m 124 #[.val (.int p0), .val (.int p1), .val (.int p2), .val (.int p3), .val (.int p4), .val (.int wd), .val (.int (2 : Int32)), .val (.ref b1), .val (.ref b1_4), .val (.int t114_0)] [(.int t114_0)])) (fun t k => ?_) ?_
      · show Steps p.tables e below (T114j.setTop (mkF m 114 #[.val (.int p0), .val (.int p1), .val (.int p2), .val (.int p3), .val (.int p4), .val (.int wd), .val (.int (2 : Int32)), .val (.ref b1), .val (.ref b1_4), .val (.int (1 : Int32))] [(.int t114_0)])) t
        refine XS.istore X114j.here hx rfl (hb hby at_114) rfl (l' := #[.val (.int p0), .val (.int p1), .val (.int p2), .val (.int p3), .val (.int p4), .val (.int wd), .val (.int (2 : Int32)), .val (.ref b1), .val (.ref b1_4), .val (.int t114_0)]) rfl ?_
        show Steps p.tables e below (T114j.setTop (mkF m 116 #[.val (.int p0), .val (.int p1), .val (.int p2), .val (.int p3), .val (.int p4), .val (.int wd), .val (.int (2 : Int32)), .val (.ref b1), .val (.ref b1_4), .val (.int t114_0)] [])) t
        refine XS.iload X114j.here hx rfl (hb hby at_116) rfl ?_
        show Steps p.tables e below (T114j.setTop (mkF m 118 #[.val (.int p0), .val (.int p1), .val (.int p2), .val (.int p3), .val (.int p4), .val (.int wd), .val (.int (2 : Int32)), .val (.ref b1), .val (.ref b1_4), .val (.int t114_0)] [(.int (2 : Int32))])) t
        refine XS.iconst X114j.here hx rfl (hb hby at_118) ?_
        show Steps p.tables e below (T114j.setTop (mkF m 119 #[.val (.int p0), .val (.int p1), .val (.int p2), .val (.int p3), .val (.int p4), .val (.int wd), .val (.int (2 : Int32)), .val (.ref b1), .val (.ref b1_4), .val (.int t114_0)] [(.int (1 : Int32)), (.int (2 : Int32))])) t
        refine XS.icmpNo X114j.here hx rfl (hb hby at_119) rfl (tlt (by decide : (1 : Int32) < (2 : Int32))).2.2.2 ?_
        show Steps p.tables e below (T114j.setTop (mkF m 122 #[.val (.int p0), .val (.int p1), .val (.int p2), .val (.int p3), .val (.int p4), .val (.int wd), .val (.int (2 : Int32)), .val (.ref b1), .val (.ref b1_4), .val (.int t114_0)] [])) t
        refine XS.iload X114j.here hx rfl (hb hby at_122) rfl ?_
        show Steps p.tables e below (T114j.setTop (mkF m 124 #[.val (.int p0), .val (.int p1), .val (.int p2), .val (.int p3), .val (.int p4), .val (.int wd), .val (.int (2 : Int32)), .val (.ref b1), .val (.ref b1_4), .val (.int t114_0)] [(.int t114_0)])) t
        exact k
      have j150 : ∀ (T : State) (Lc : List Loc) (X : Stand p l e room_1 s m #[(.int p0), (.int p1), (.int p2), (.int p3), (.int p4)] below meth c T Lc 2 14) (t150_0 : Int32) (eT : T.heap = h4) (N : Fr n0 Lc), Owe p e below s 16 128 (QL (.int (own_f0c2_150 t150_0)) n0) T (mkF m 150 #[.val (.int p0), .val (.int p1), .val (.int p2), .val (.int p3), .val (.int p4), .val (.int wd), .val (.int (2 : Int32)), .val (.ref b1), .val (.ref b1_4), .val (.int t114_0)] [(.int t150_0)]) := by
        intro T150j Lc150j X150j t150_0 e150j N150j
        rw [show own_f0c2_150 t150_0 = (nar .boolean t150_0) from rfl]
        refine Owe.ret X150j Bd.notSynchronized (v := (some (.int (nar .boolean t150_0)))) (fun h => by rw [Bd.returns] at h; cases h) (fun fs hr => ?_) ⟨rfl, N150j⟩ (by decide) (by decide)
        show Steps p.tables e below (T150j.setTop (mkF m 150 #[.val (.int p0), .val (.int p1), .val (.int p2), .val (.int p3), .val (.int p4), .val (.int wd), .val (.int (2 : Int32)), .val (.ref b1), .val (.ref b1_4), .val (.int t114_0)] [(.int t150_0)])) _
        refine XS.istore X150j.here hx rfl (hb hby at_150) rfl (l' := #[.val (.int p0), .val (.int p1), .val (.int p2), .val (.int p3), .val (.int p4), .val (.int wd), .val (.int (2 : Int32)), .val (.ref b1), .val (.ref b1_4), .val (.int t150_0)]) rfl ?_
        show Steps p.tables e below (T150j.setTop (mkF m 152 #[.val (.int p0), .val (.int p1), .val (.int p2), .val (.int p3), .val (.int p4), .val (.int wd), .val (.int (2 : Int32)), .val (.ref b1), .val (.ref b1_4), .val (.int t150_0)] [])) _
        refine XS.iload X150j.here hx rfl (hb hby at_152) rfl ?_
        show Steps p.tables e below (T150j.setTop (mkF m 154 #[.val (.int p0), .val (.int p1), .val (.int p2), .val (.int p3), .val (.int p4), .val (.int wd), .val (.int (2 : Int32)), .val (.ref b1), .val (.ref b1_4), .val (.int t150_0)] [(.int (2 : Int32))])) _
        refine XS.iconst X150j.here hx rfl (hb hby at_154) ?_
        show Steps p.tables e below (T150j.setTop (mkF m 155 #[.val (.int p0), .val (.int p1), .val (.int p2), .val (.int p3), .val (.int p4), .val (.int wd), .val (.int (2 : Int32)), .val (.ref b1), .val (.ref b1_4), .val (.int t150_0)] [(.int (2 : Int32)), (.int (2 : Int32))])) _
        refine XS.icmpYes X150j.here hx rfl (pc0 := 155) (pc' := 191) rfl (hb hby at_155) rfl (flt (by decide : ¬ ((2 : Int32) < (2 : Int32)))).2.2.2 (by decide) (by decide) ?_
        show Steps p.tables e below (T150j.setTop (mkF m 191 #[.val (.int p0), .val (.int p1), .val (.int p2), .val (.int p3), .val (.int p4), .val (.int wd), .val (.int (2 : Int32)), .val (.ref b1), .val (.ref b1_4), .val (.int t150_0)] [])) _
        refine XS.iload X150j.here hx rfl (hb hby at_191) rfl ?_
        show Steps p.tables e below (T150j.setTop (mkF m 193 #[.val (.int p0), .val (.int p1), .val (.int p2), .val (.int p3), .val (.int p4), .val (.int wd), .val (.int (2 : Int32)), .val (.ref b1), .val (.ref b1_4), .val (.int t150_0)] [(.int t150_0)])) _
        exact retN X150j hx (t := .boolean) Bd.returns (by simp) (hb hby at_193) hr
      have j149 : ∀ (T : State) (Lc : List Loc) (X : Stand p l e room_1 s m #[(.int p0), (.int p1), (.int p2), (.int p3), (.int p4)] below meth c T Lc 2 14) (eT : T.heap = h4) (N : Fr n0 Lc), Owe p e below s 16 128 (QL (.int (own_f0c2_149)) n0) T (mkF m 149 #[.val (.int p0), .val (.int p1), .val (.int p2), .val (.int p3), .val (.int p4), .val (.int wd), .val (.int (2 : Int32)), .val (.ref b1), .val (.ref b1_4), .val (.int t114_0)] []) := by
        intro T149j Lc149j X149j e149j N149j
        refine Owe.step (T' := T149j) (g' := (mkF m 150 #[.val (.int p0), .val (.int p1), .val (.int p2), .val (.int p3), .val (.int p4), .val (.int wd), .val (.int (2 : Int32)), .val (.ref b1), .val (.ref b1_4), .val (.int t114_0)] [(.int (0 : Int32))])) (fun t k => ?_) ?_
        · show Steps p.tables e below (T149j.setTop (mkF m 149 #[.val (.int p0), .val (.int p1), .val (.int p2), .val (.int p3), .val (.int p4), .val (.int wd), .val (.int (2 : Int32)), .val (.ref b1), .val (.ref b1_4), .val (.int t114_0)] [])) t
          refine XS.iconst X149j.here hx rfl (hb hby at_149) ?_
          show Steps p.tables e below (T149j.setTop (mkF m 150 #[.val (.int p0), .val (.int p1), .val (.int p2), .val (.int p3), .val (.int p4), .val (.int wd), .val (.int (2 : Int32)), .val (.ref b1), .val (.ref b1_4), .val (.int t114_0)] [(.int (0 : Int32))])) t
          exact k
        rw [show own_f0c2_149 = (own_f0c2_150 (0 : Int32)) from rfl]
        exact j150 T149j _ X149j (0 : Int32) e149j N149j
      by_cases hc124 : t114_0 = (0 : Int32)
      · refine Owe.step (T' := T114j) (g' := (mkF m 149 #[.val (.int p0), .val (.int p1), .val (.int p2), .val (.int p3), .val (.int p4), .val (.int wd), .val (.int (2 : Int32)), .val (.ref b1), .val (.ref b1_4), .val (.int t114_0)] [])) (fun t k => ?_) ?_
        · show Steps p.tables e below (T114j.setTop (mkF m 124 #[.val (.int p0), .val (.int p1), .val (.int p2), .val (.int p3), .val (.int p4), .val (.int wd), .val (.int (2 : Int32)), .val (.ref b1), .val (.ref b1_4), .val (.int t114_0)] [(.int t114_0)])) t
          refine XS.ifYes X114j.here hx rfl (pc0 := 124) (pc' := 149) rfl (hb hby at_124) rfl ((if0 _ _).trans (teq hc124).1) (by decide) (by decide) ?_
          show Steps p.tables e below (T114j.setTop (mkF m 149 #[.val (.int p0), .val (.int p1), .val (.int p2), .val (.int p3), .val (.int p4), .val (.int wd), .val (.int (2 : Int32)), .val (.ref b1), .val (.ref b1_4), .val (.int t114_0)] [])) t
          exact k
        rw [show own_f0c2_114 p2 p3 t114_0 wd = (own_f0c2_149) from (by rw [own_f0c2_114, if_pos hc124])]
        exact j149 T114j _ X114j e114j N114j
      · refine Owe.step (T' := T114j) (g' := (mkF m 127 #[.val (.int p0), .val (.int p1), .val (.int p2), .val (.int p3), .val (.int p4), .val (.int wd), .val (.int (2 : Int32)), .val (.ref b1), .val (.ref b1_4), .val (.int t114_0)] [])) (fun t k => ?_) ?_
        · show Steps p.tables e below (T114j.setTop (mkF m 124 #[.val (.int p0), .val (.int p1), .val (.int p2), .val (.int p3), .val (.int p4), .val (.int wd), .val (.int (2 : Int32)), .val (.ref b1), .val (.ref b1_4), .val (.int t114_0)] [(.int t114_0)])) t
          refine XS.ifNo X114j.here hx rfl (hb hby at_124) rfl ((if0 _ _).trans (feq hc124).1) ?_
          show Steps p.tables e below (T114j.setTop (mkF m 127 #[.val (.int p0), .val (.int p1), .val (.int p2), .val (.int p3), .val (.int p4), .val (.int wd), .val (.int (2 : Int32)), .val (.ref b1), .val (.ref b1_4), .val (.int t114_0)] [])) t
          exact k
        obtain ⟨_, _, ⟨T7, L7, k7, n7⟩, -, X7, ⟨Lc7, hQ7, l7, y7, z7⟩, st7⟩ := Jvm.LawKit.callS X114j hx (y := (⟨"com/example/rasterline/rasterline/formats/png/KnownChunkPackedPinLaw", "read", "([BII)I"⟩ : MethodName)) hown (mvT hZ (hw _ (List.mem_of_getElem? (i := 7) rfl))) (mvT hZ (hw _ (List.mem_of_getElem? (i := 8) rfl))) (mvT hZ (hw _ (List.mem_of_getElem? (i := 9) rfl))) (mvT hZ (hw _ (List.mem_of_getElem? (i := 10) rfl))) (by decide) (backOf (W := 0) (own_rm2 l Z aA hw [] b1_4 wd wd (wd * (2 : Int32)).toNatClampNeg (own_g wd (own_upd (own_upd (fun _ => (0 : Int32)) ((0 : Int32)).toNatClampNeg p2) ((1 : Int32)).toNatClampNeg p3) (own_m wd (2 : Int32) (0 : Int32))) h4 n0 Zn4 G4_0 (own_rd1 H_wd (by decide) (by decide))) hZ (hw _ (List.mem_of_getElem? (i := 10) rfl)) (hw _ (List.mem_of_getElem? (i := 9) rfl)) (by decide) (by decide)) (g := (mkF m 133 #[.val (.int p0), .val (.int p1), .val (.int p2), .val (.int p3), .val (.int p4), .val (.int wd), .val (.int (2 : Int32)), .val (.ref b1), .val (.ref b1_4), .val (.int t114_0)] [(.int wd), (.int wd), (.ref b1_4)])) rfl (by rw [hml]; rfl) (argsL := [(.ref b1_4), (.int wd), (.int wd)]) (rest := []) (lenOf own_pd1 rfl) rfl (by show 2 * 0 + _ ≤ _; exact Nat.le_of_eq rfl) (hb hby at_133) (fun _ _ => ⟨rfl, e114j, (by decide : 2 + 0 ≤ _), (by decide : 14 + 0 ≤ _)⟩)
        dsimp only [Pt.U, Pt.locs, Pt.cells, Pt.slots] at X7 l7 y7 z7 st7 hQ7
        subst y7 z7
        obtain ⟨rfl, N7q, e7⟩ := hQ7
        have N7 : Fr n0 L7 := by rw [l7]; exact Fr.app N114j N7q
        obtain ⟨_, _, ⟨T8, L8, k8, n8⟩, -, X8, ⟨Lc8, hQ8, l8, y8, z8⟩, st8⟩ := Jvm.LawKit.callS X7 hx (y := (⟨"com/example/rasterline/rasterline/formats/png/KnownChunkPackedPinLaw", "low", "(II)I"⟩ : MethodName)) hown (mvT hZ (hw _ (List.mem_of_getElem? (i := 11) rfl))) (mvT hZ (hw _ (List.mem_of_getElem? (i := 12) rfl))) (mvT hZ (hw _ (List.mem_of_getElem? (i := 9) rfl))) (mvT hZ (hw _ (List.mem_of_getElem? (i := 13) rfl))) (by decide) (backOf (W := 1) (own_rm3 l Z aA hw [] p3 wd h4 n0 Zn4 ) hZ (hw _ (List.mem_of_getElem? (i := 13) rfl)) (hw _ (List.mem_of_getElem? (i := 9) rfl)) (by decide) (by decide)) (g := (mkF m 139 #[.val (.int p0), .val (.int p1), .val (.int p2), .val (.int p3), .val (.int p4), .val (.int wd), .val (.int (2 : Int32)), .val (.ref b1), .val (.ref b1_4), .val (.int t114_0)] [(.int wd), (.int p3), (.int (own_f2_0 wd wd (own_g wd (own_upd (own_upd (fun _ => (0 : Int32)) ((0 : Int32)).toNatClampNeg p2) ((1 : Int32)).toNatClampNeg p3) (own_m wd (2 : Int32) (0 : Int32)))))])) rfl (by rw [hml]; rfl) (argsL := [(.int p3), (.int wd)]) (rest := [(.int (own_f2_0 wd wd (own_g wd (own_upd (own_upd (fun _ => (0 : Int32)) ((0 : Int32)).toNatClampNeg p2) ((1 : Int32)).toNatClampNeg p3) (own_m wd (2 : Int32) (0 : Int32)))))]) (lenOf own_pd2 rfl) rfl (by show 2 * 0 + _ ≤ _; exact Nat.le_of_eq rfl) (hb hby at_139) (fun _ _ => ⟨rfl, e7, (by decide : 2 + 0 ≤ _), (by decide : 14 + 0 ≤ _)⟩)
        dsimp only [Pt.U, Pt.locs, Pt.cells, Pt.slots] at X8 l8 y8 z8 st8 hQ8
        subst y8 z8
        obtain ⟨rfl, N8q, e8⟩ := hQ8
        have N8 : Fr n0 L8 := by rw [l8]; exact Fr.app N7 N8q
        refine Owe.step (T' := T8) (g' := (mkF m 142 #[.val (.int p0), .val (.int p1), .val (.int p2), .val (.int p3), .val (.int p4), .val (.int wd), .val (.int (2 : Int32)), .val (.ref b1), .val (.ref b1_4), .val (.int t114_0)] [(.int (own_f3_0 p3 wd)), (.int (own_f2_0 wd wd (own_g wd (own_upd (own_upd (fun _ => (0 : Int32)) ((0 : Int32)).toNatClampNeg p2) ((1 : Int32)).toNatClampNeg p3) (own_m wd (2 : Int32) (0 : Int32)))))])) (fun t k => ?_) ?_
        · show Steps p.tables e below (T114j.setTop (mkF m 127 #[.val (.int p0), .val (.int p1), .val (.int p2), .val (.int p3), .val (.int p4), .val (.int wd), .val (.int (2 : Int32)), .val (.ref b1), .val (.ref b1_4), .val (.int t114_0)] [])) t
          refine XS.aload X114j.here hx rfl (hb hby at_127) rfl rfl ?_
          show Steps p.tables e below (T114j.setTop (mkF m 129 #[.val (.int p0), .val (.int p1), .val (.int p2), .val (.int p3), .val (.int p4), .val (.int wd), .val (.int (2 : Int32)), .val (.ref b1), .val (.ref b1_4), .val (.int t114_0)] [(.ref b1_4)])) t
          refine XS.iload X114j.here hx rfl (hb hby at_129) rfl ?_
          show Steps p.tables e below (T114j.setTop (mkF m 131 #[.val (.int p0), .val (.int p1), .val (.int p2), .val (.int p3), .val (.int p4), .val (.int wd), .val (.int (2 : Int32)), .val (.ref b1), .val (.ref b1_4), .val (.int t114_0)] [(.int wd), (.ref b1_4)])) t
          refine XS.iload X114j.here hx rfl (hb hby at_131) rfl ?_
          show Steps p.tables e below (T114j.setTop (mkF m 133 #[.val (.int p0), .val (.int p1), .val (.int p2), .val (.int p3), .val (.int p4), .val (.int wd), .val (.int (2 : Int32)), .val (.ref b1), .val (.ref b1_4), .val (.int t114_0)] [(.int wd), (.int wd), (.ref b1_4)])) t
          refine st7 _ ?_
          show Steps p.tables e below (T7.setTop (mkF m 136 #[.val (.int p0), .val (.int p1), .val (.int p2), .val (.int p3), .val (.int p4), .val (.int wd), .val (.int (2 : Int32)), .val (.ref b1), .val (.ref b1_4), .val (.int t114_0)] [(.int (own_f2_0 wd wd (own_g wd (own_upd (own_upd (fun _ => (0 : Int32)) ((0 : Int32)).toNatClampNeg p2) ((1 : Int32)).toNatClampNeg p3) (own_m wd (2 : Int32) (0 : Int32)))))])) t
          refine XS.iloadN X7.here hx rfl (hb hby at_136) rfl ?_
          show Steps p.tables e below (T7.setTop (mkF m 137 #[.val (.int p0), .val (.int p1), .val (.int p2), .val (.int p3), .val (.int p4), .val (.int wd), .val (.int (2 : Int32)), .val (.ref b1), .val (.ref b1_4), .val (.int t114_0)] [(.int p3), (.int (own_f2_0 wd wd (own_g wd (own_upd (own_upd (fun _ => (0 : Int32)) ((0 : Int32)).toNatClampNeg p2) ((1 : Int32)).toNatClampNeg p3) (own_m wd (2 : Int32) (0 : Int32)))))])) t
          refine XS.iload X7.here hx rfl (hb hby at_137) rfl ?_
          show Steps p.tables e below (T7.setTop (mkF m 139 #[.val (.int p0), .val (.int p1), .val (.int p2), .val (.int p3), .val (.int p4), .val (.int wd), .val (.int (2 : Int32)), .val (.ref b1), .val (.ref b1_4), .val (.int t114_0)] [(.int wd), (.int p3), (.int (own_f2_0 wd wd (own_g wd (own_upd (own_upd (fun _ => (0 : Int32)) ((0 : Int32)).toNatClampNeg p2) ((1 : Int32)).toNatClampNeg p3) (own_m wd (2 : Int32) (0 : Int32)))))])) t
          refine st8 _ ?_
          show Steps p.tables e below (T8.setTop (mkF m 142 #[.val (.int p0), .val (.int p1), .val (.int p2), .val (.int p3), .val (.int p4), .val (.int wd), .val (.int (2 : Int32)), .val (.ref b1), .val (.ref b1_4), .val (.int t114_0)] [(.int (own_f3_0 p3 wd)), (.int (own_f2_0 wd wd (own_g wd (own_upd (own_upd (fun _ => (0 : Int32)) ((0 : Int32)).toNatClampNeg p2) ((1 : Int32)).toNatClampNeg p3) (own_m wd (2 : Int32) (0 : Int32)))))])) t
          exact k
        by_cases hc142 : (own_f2_0 wd wd (own_g wd (own_upd (own_upd (fun _ => (0 : Int32)) ((0 : Int32)).toNatClampNeg p2) ((1 : Int32)).toNatClampNeg p3) (own_m wd (2 : Int32) (0 : Int32)))) = (own_f3_0 p3 wd)
        · refine Owe.step (T' := T8) (g' := (mkF m 145 #[.val (.int p0), .val (.int p1), .val (.int p2), .val (.int p3), .val (.int p4), .val (.int wd), .val (.int (2 : Int32)), .val (.ref b1), .val (.ref b1_4), .val (.int t114_0)] [])) (fun t k => ?_) ?_
          · show Steps p.tables e below (T8.setTop (mkF m 142 #[.val (.int p0), .val (.int p1), .val (.int p2), .val (.int p3), .val (.int p4), .val (.int wd), .val (.int (2 : Int32)), .val (.ref b1), .val (.ref b1_4), .val (.int t114_0)] [(.int (own_f3_0 p3 wd)), (.int (own_f2_0 wd wd (own_g wd (own_upd (own_upd (fun _ => (0 : Int32)) ((0 : Int32)).toNatClampNeg p2) ((1 : Int32)).toNatClampNeg p3) (own_m wd (2 : Int32) (0 : Int32)))))])) t
            refine XS.icmpNo X8.here hx rfl (hb hby at_142) rfl (teq hc142).2 ?_
            show Steps p.tables e below (T8.setTop (mkF m 145 #[.val (.int p0), .val (.int p1), .val (.int p2), .val (.int p3), .val (.int p4), .val (.int wd), .val (.int (2 : Int32)), .val (.ref b1), .val (.ref b1_4), .val (.int t114_0)] [])) t
            exact k
          refine Owe.step (T' := T8) (g' := (mkF m 150 #[.val (.int p0), .val (.int p1), .val (.int p2), .val (.int p3), .val (.int p4), .val (.int wd), .val (.int (2 : Int32)), .val (.ref b1), .val (.ref b1_4), .val (.int t114_0)] [(.int (1 : Int32))])) (fun t k => ?_) ?_
          · show Steps p.tables e below (T8.setTop (mkF m 145 #[.val (.int p0), .val (.int p1), .val (.int p2), .val (.int p3), .val (.int p4), .val (.int wd), .val (.int (2 : Int32)), .val (.ref b1), .val (.ref b1_4), .val (.int t114_0)] [])) t
            refine XS.iconst X8.here hx rfl (hb hby at_145) ?_
            show Steps p.tables e below (T8.setTop (mkF m 146 #[.val (.int p0), .val (.int p1), .val (.int p2), .val (.int p3), .val (.int p4), .val (.int wd), .val (.int (2 : Int32)), .val (.ref b1), .val (.ref b1_4), .val (.int t114_0)] [(.int (1 : Int32))])) t
            refine XS.goto X8.here hx rfl (pc0 := 146) (pc' := 150) rfl (hb hby at_146) (by decide) (by decide) ?_
            show Steps p.tables e below (T8.setTop (mkF m 150 #[.val (.int p0), .val (.int p1), .val (.int p2), .val (.int p3), .val (.int p4), .val (.int wd), .val (.int (2 : Int32)), .val (.ref b1), .val (.ref b1_4), .val (.int t114_0)] [(.int (1 : Int32))])) t
            exact k
          rw [show own_f0c2_114 p2 p3 t114_0 wd = (own_f0c2_150 (1 : Int32)) from (by rw [own_f0c2_114, if_neg hc124, if_pos hc142])]
          exact j150 T8 _ X8 (1 : Int32) e8 N8
        · refine Owe.step (T' := T8) (g' := (mkF m 149 #[.val (.int p0), .val (.int p1), .val (.int p2), .val (.int p3), .val (.int p4), .val (.int wd), .val (.int (2 : Int32)), .val (.ref b1), .val (.ref b1_4), .val (.int t114_0)] [])) (fun t k => ?_) ?_
          · show Steps p.tables e below (T8.setTop (mkF m 142 #[.val (.int p0), .val (.int p1), .val (.int p2), .val (.int p3), .val (.int p4), .val (.int wd), .val (.int (2 : Int32)), .val (.ref b1), .val (.ref b1_4), .val (.int t114_0)] [(.int (own_f3_0 p3 wd)), (.int (own_f2_0 wd wd (own_g wd (own_upd (own_upd (fun _ => (0 : Int32)) ((0 : Int32)).toNatClampNeg p2) ((1 : Int32)).toNatClampNeg p3) (own_m wd (2 : Int32) (0 : Int32)))))])) t
            refine XS.icmpYes X8.here hx rfl (pc0 := 142) (pc' := 149) rfl (hb hby at_142) rfl (feq hc142).2 (by decide) (by decide) ?_
            show Steps p.tables e below (T8.setTop (mkF m 149 #[.val (.int p0), .val (.int p1), .val (.int p2), .val (.int p3), .val (.int p4), .val (.int wd), .val (.int (2 : Int32)), .val (.ref b1), .val (.ref b1_4), .val (.int t114_0)] [])) t
            exact k
          rw [show own_f0c2_114 p2 p3 t114_0 wd = (own_f0c2_149) from (by rw [own_f0c2_114, if_neg hc124, if_neg hc142])]
          exact j149 T8 _ X8 e8 N8
    by_cases hc106 : (own_f2_0 (0 : Int32) wd (own_g wd (own_upd (own_upd (fun _ => (0 : Int32)) ((0 : Int32)).toNatClampNeg p2) ((1 : Int32)).toNatClampNeg p3) (own_m wd (2 : Int32) (0 : Int32)))) = (own_f3_0 p2 wd)
    · refine Owe.step (T' := T6) (g' := (mkF m 109 #[.val (.int p0), .val (.int p1), .val (.int p2), .val (.int p3), .val (.int p4), .val (.int wd), .val (.int (2 : Int32)), .val (.ref b1), .val (.ref b1_4), .val (.int (1 : Int32))] [])) (fun t k => ?_) ?_
      · show Steps p.tables e below (T6.setTop (mkF m 106 #[.val (.int p0), .val (.int p1), .val (.int p2), .val (.int p3), .val (.int p4), .val (.int wd), .val (.int (2 : Int32)), .val (.ref b1), .val (.ref b1_4), .val (.int (1 : Int32))] [(.int (own_f3_0 p2 wd)), (.int (own_f2_0 (0 : Int32) wd (own_g wd (own_upd (own_upd (fun _ => (0 : Int32)) ((0 : Int32)).toNatClampNeg p2) ((1 : Int32)).toNatClampNeg p3) (own_m wd (2 : Int32) (0 : Int32)))))])) t
        refine XS.icmpNo X6.here hx rfl (hb hby at_106) rfl (teq hc106).2 ?_
        show Steps p.tables e below (T6.setTop (mkF m 109 #[.val (.int p0), .val (.int p1), .val (.int p2), .val (.int p3), .val (.int p4), .val (.int wd), .val (.int (2 : Int32)), .val (.ref b1), .val (.ref b1_4), .val (.int (1 : Int32))] [])) t
        exact k
      refine Owe.step (T' := T6) (g' := (mkF m 114 #[.val (.int p0), .val (.int p1), .val (.int p2), .val (.int p3), .val (.int p4), .val (.int wd), .val (.int (2 : Int32)), .val (.ref b1), .val (.ref b1_4), .val (.int (1 : Int32))] [(.int (1 : Int32))])) (fun t k => ?_) ?_
      · show Steps p.tables e below (T6.setTop (mkF m 109 #[.val (.int p0), .val (.int p1), .val (.int p2), .val (.int p3), .val (.int p4), .val (.int wd), .val (.int (2 : Int32)), .val (.ref b1), .val (.ref b1_4), .val (.int (1 : Int32))] [])) t
        refine XS.iconst X6.here hx rfl (hb hby at_109) ?_
        show Steps p.tables e below (T6.setTop (mkF m 110 #[.val (.int p0), .val (.int p1), .val (.int p2), .val (.int p3), .val (.int p4), .val (.int wd), .val (.int (2 : Int32)), .val (.ref b1), .val (.ref b1_4), .val (.int (1 : Int32))] [(.int (1 : Int32))])) t
        refine XS.goto X6.here hx rfl (pc0 := 110) (pc' := 114) rfl (hb hby at_110) (by decide) (by decide) ?_
        show Steps p.tables e below (T6.setTop (mkF m 114 #[.val (.int p0), .val (.int p1), .val (.int p2), .val (.int p3), .val (.int p4), .val (.int wd), .val (.int (2 : Int32)), .val (.ref b1), .val (.ref b1_4), .val (.int (1 : Int32))] [(.int (1 : Int32))])) t
        exact k
      refine Owe.cast (show (own_f0c2_114 p2 p3 (1 : Int32) wd) = (1 : Int32) from (show own_f0c2_0 p2 p3 wd = (own_f0c2_114 p2 p3 (1 : Int32) wd) from (by rw [own_f0c2_0, if_pos hc74, if_pos hc106])).symm.trans (own_law2 p0 p1 p2 p3 p4 wd H_wd)) ?_
      exact j114 T6 _ X6 (1 : Int32) e6 N6
    · refine Owe.step (T' := T6) (g' := (mkF m 113 #[.val (.int p0), .val (.int p1), .val (.int p2), .val (.int p3), .val (.int p4), .val (.int wd), .val (.int (2 : Int32)), .val (.ref b1), .val (.ref b1_4), .val (.int (1 : Int32))] [])) (fun t k => ?_) ?_
      · show Steps p.tables e below (T6.setTop (mkF m 106 #[.val (.int p0), .val (.int p1), .val (.int p2), .val (.int p3), .val (.int p4), .val (.int wd), .val (.int (2 : Int32)), .val (.ref b1), .val (.ref b1_4), .val (.int (1 : Int32))] [(.int (own_f3_0 p2 wd)), (.int (own_f2_0 (0 : Int32) wd (own_g wd (own_upd (own_upd (fun _ => (0 : Int32)) ((0 : Int32)).toNatClampNeg p2) ((1 : Int32)).toNatClampNeg p3) (own_m wd (2 : Int32) (0 : Int32)))))])) t
        refine XS.icmpYes X6.here hx rfl (pc0 := 106) (pc' := 113) rfl (hb hby at_106) rfl (feq hc106).2 (by decide) (by decide) ?_
        show Steps p.tables e below (T6.setTop (mkF m 113 #[.val (.int p0), .val (.int p1), .val (.int p2), .val (.int p3), .val (.int p4), .val (.int wd), .val (.int (2 : Int32)), .val (.ref b1), .val (.ref b1_4), .val (.int (1 : Int32))] [])) t
        exact k
      refine Owe.step (T' := T6) (g' := (mkF m 114 #[.val (.int p0), .val (.int p1), .val (.int p2), .val (.int p3), .val (.int p4), .val (.int wd), .val (.int (2 : Int32)), .val (.ref b1), .val (.ref b1_4), .val (.int (1 : Int32))] [(.int (0 : Int32))])) (fun t k => ?_) ?_
      · show Steps p.tables e below (T6.setTop (mkF m 113 #[.val (.int p0), .val (.int p1), .val (.int p2), .val (.int p3), .val (.int p4), .val (.int wd), .val (.int (2 : Int32)), .val (.ref b1), .val (.ref b1_4), .val (.int (1 : Int32))] [])) t
        refine XS.iconst X6.here hx rfl (hb hby at_113) ?_
        show Steps p.tables e below (T6.setTop (mkF m 114 #[.val (.int p0), .val (.int p1), .val (.int p2), .val (.int p3), .val (.int p4), .val (.int wd), .val (.int (2 : Int32)), .val (.ref b1), .val (.ref b1_4), .val (.int (1 : Int32))] [(.int (0 : Int32))])) t
        exact k
      refine Owe.cast (show (own_f0c2_114 p2 p3 (0 : Int32) wd) = (1 : Int32) from (show own_f0c2_0 p2 p3 wd = (own_f0c2_114 p2 p3 (0 : Int32) wd) from (by rw [own_f0c2_0, if_pos hc74, if_neg hc106])).symm.trans (own_law2 p0 p1 p2 p3 p4 wd H_wd)) ?_
      exact j114 T6 _ X6 (0 : Int32) e6 N6
  · refine Owe.step (T' := T4) (g' := (mkF m 77 #[.val (.int p0), .val (.int p1), .val (.int p2), .val (.int p3), .val (.int p4), .val (.int wd), .val (.int (2 : Int32)), .val (.ref b1), .val (.ref b1_4), .unset] [])) (fun t k => ?_) ?_
    · show Steps p.tables e below (T4.setTop (mkF m 74 #[.val (.int p0), .val (.int p1), .val (.int p2), .val (.int p3), .val (.int p4), .val (.int wd), .val (.int (2 : Int32)), .val (.ref b1), .val (.ref b1_4), .unset] [(.int (wd * (2 : Int32))), (.int (wd * (2 : Int32)))])) t
      refine XS.icmpNo X4.here hx rfl (hb hby at_74) rfl (feq hc74).1 ?_
      show Steps p.tables e below (T4.setTop (mkF m 77 #[.val (.int p0), .val (.int p1), .val (.int p2), .val (.int p3), .val (.int p4), .val (.int wd), .val (.int (2 : Int32)), .val (.ref b1), .val (.ref b1_4), .unset] [])) t
      exact k
    refine Owe.cast (show (0 : Int32) = (1 : Int32) from (show own_f0c2_0 p2 p3 wd = (0 : Int32) from (by rw [own_f0c2_0, if_neg hc74])).symm.trans (own_law2 p0 p1 p2 p3 p4 wd H_wd)) ?_
    refine Owe.ret X4 Bd.notSynchronized (v := (some (.int (0 : Int32)))) (fun h => by rw [Bd.returns] at h; cases h) (fun fs hr => ?_) ⟨rfl, N4⟩ (by decide) (by decide)
    show Steps p.tables e below (T4.setTop (mkF m 77 #[.val (.int p0), .val (.int p1), .val (.int p2), .val (.int p3), .val (.int p4), .val (.int wd), .val (.int (2 : Int32)), .val (.ref b1), .val (.ref b1_4), .unset] [])) _
    refine XS.iconst X4.here hx rfl (hb hby at_77) ?_
    show Steps p.tables e below (T4.setTop (mkF m 78 #[.val (.int p0), .val (.int p1), .val (.int p2), .val (.int p3), .val (.int p4), .val (.int wd), .val (.int (2 : Int32)), .val (.ref b1), .val (.ref b1_4), .unset] [(.int (0 : Int32))])) _
    exact retN X4 hx (t := .boolean) Bd.returns (by simp) (hb hby at_78) hr
theorem own_ef0c3 (m : MethodId) (p0 : Int32) (p1 : Int32) (p2 : Int32) (p3 : Int32) (p4 : Int32) : entryFrame m #[(.int p0), (.int p1), (.int p2), (.int p3), (.int p4)] maxLocals = mkF m 0 #[.val (.int p0), .val (.int p1), .val (.int p2), .val (.int p3), .val (.int p4), .unset, .unset, .unset, .unset, .unset] [] := by first | (simp [entryFrame, mkF, argsToLocals, Value.category, maxLocals]; done) | rfl
def own_f0c3_150 (p2 : Int32) (p3 : Int32) (p4 : Int32) (t150_0 : Int32) (wd : Int32) : Int32 := (if t150_0 = (0 : Int32) then (0 : Int32) else (if (own_f2_0 ((2 : Int32) * wd) wd (own_g wd (own_upd (own_upd (own_upd (fun _ => (0 : Int32)) ((0 : Int32)).toNatClampNeg p2) ((1 : Int32)).toNatClampNeg p3) ((2 : Int32)).toNatClampNeg p4) (own_m wd (3 : Int32) (0 : Int32)))) = (own_f3_0 p4 wd) then (1 : Int32) else (0 : Int32)))
def own_f0c3_149 (p2 : Int32) (p3 : Int32) (p4 : Int32) (wd : Int32) : Int32 := (own_f0c3_150 p2 p3 p4 (0 : Int32) wd)
def own_f0c3_114 (p2 : Int32) (p3 : Int32) (p4 : Int32) (t114_0 : Int32) (wd : Int32) : Int32 := (if t114_0 = (0 : Int32) then (own_f0c3_149 p2 p3 p4 wd) else (if (own_f2_0 wd wd (own_g wd (own_upd (own_upd (own_upd (fun _ => (0 : Int32)) ((0 : Int32)).toNatClampNeg p2) ((1 : Int32)).toNatClampNeg p3) ((2 : Int32)).toNatClampNeg p4) (own_m wd (3 : Int32) (0 : Int32)))) = (own_f3_0 p3 wd) then (own_f0c3_150 p2 p3 p4 (1 : Int32) wd) else (own_f0c3_149 p2 p3 p4 wd)))
def own_f0c3_0 (p2 : Int32) (p3 : Int32) (p4 : Int32) (wd : Int32) : Int32 := (if (wd * (3 : Int32)) = (wd * (3 : Int32)) then (if (own_f2_0 (0 : Int32) wd (own_g wd (own_upd (own_upd (own_upd (fun _ => (0 : Int32)) ((0 : Int32)).toNatClampNeg p2) ((1 : Int32)).toNatClampNeg p3) ((2 : Int32)).toNatClampNeg p4) (own_m wd (3 : Int32) (0 : Int32)))) = (own_f3_0 p2 wd) then (own_f0c3_114 p2 p3 p4 (1 : Int32) wd) else (own_f0c3_114 p2 p3 p4 (0 : Int32) wd)) else (0 : Int32))
theorem own_e3_0 (p2 p3 p4 : Int32) (wd : Int32) (H : own_W wd) : own_f2_0 (0 : Int32) wd (own_g wd (own_upd (own_upd (own_upd (fun _ => (0 : Int32)) ((0 : Int32)).toNatClampNeg p2) ((1 : Int32)).toNatClampNeg p3) ((2 : Int32)).toNatClampNeg p4) (own_m wd (3 : Int32) (0 : Int32))) = own_f3_0 p2 wd := by
  rcases own_w45 H with rfl | rfl | rfl | rfl | rfl
  · exact own_r0 _ _ _
  · exact own_r1 _ _ _ (own_gk 1 0 _ _ 0 0 _ (by decide) (by decide) rfl (by decide))
  · exact own_r2 _ _ _ (own_gk 2 8 _ _ 0 0 _ (by decide) (by decide) rfl (by decide)) (own_gk 2 0 _ _ 1 0 _ (by decide) (by decide) rfl (by decide))
  · exact own_r3 _ _ _ (own_gk 3 16 _ _ 0 0 _ (by decide) (by decide) rfl (by decide)) (own_gk 3 8 _ _ 1 0 _ (by decide) (by decide) rfl (by decide)) (own_gk 3 0 _ _ 2 0 _ (by decide) (by decide) rfl (by decide))
  · exact own_r4 _ _ _ (own_gk 4 24 _ _ 0 0 _ (by decide) (by decide) rfl (by decide)) (own_gk 4 16 _ _ 1 0 _ (by decide) (by decide) rfl (by decide)) (own_gk 4 8 _ _ 2 0 _ (by decide) (by decide) rfl (by decide)) (own_gk 4 0 _ _ 3 0 _ (by decide) (by decide) rfl (by decide))
theorem own_e3_1 (p2 p3 p4 : Int32) (wd : Int32) (H : own_W wd) : own_f2_0 wd wd (own_g wd (own_upd (own_upd (own_upd (fun _ => (0 : Int32)) ((0 : Int32)).toNatClampNeg p2) ((1 : Int32)).toNatClampNeg p3) ((2 : Int32)).toNatClampNeg p4) (own_m wd (3 : Int32) (0 : Int32))) = own_f3_0 p3 wd := by
  rcases own_w45 H with rfl | rfl | rfl | rfl | rfl
  · exact own_r0 _ _ _
  · exact own_r1 _ _ _ (own_gk 1 0 _ _ 1 1 _ (by decide) (by decide) rfl (by decide))
  · exact own_r2 _ _ _ (own_gk 2 8 _ _ 2 1 _ (by decide) (by decide) rfl (by decide)) (own_gk 2 0 _ _ 3 1 _ (by decide) (by decide) rfl (by decide))
  · exact own_r3 _ _ _ (own_gk 3 16 _ _ 3 1 _ (by decide) (by decide) rfl (by decide)) (own_gk 3 8 _ _ 4 1 _ (by decide) (by decide) rfl (by decide)) (own_gk 3 0 _ _ 5 1 _ (by decide) (by decide) rfl (by decide))
  · exact own_r4 _ _ _ (own_gk 4 24 _ _ 4 1 _ (by decide) (by decide) rfl (by decide)) (own_gk 4 16 _ _ 5 1 _ (by decide) (by decide) rfl (by decide)) (own_gk 4 8 _ _ 6 1 _ (by decide) (by decide) rfl (by decide)) (own_gk 4 0 _ _ 7 1 _ (by decide) (by decide) rfl (by decide))
theorem own_e3_2 (p2 p3 p4 : Int32) (wd : Int32) (H : own_W wd) : own_f2_0 ((2 : Int32) * wd) wd (own_g wd (own_upd (own_upd (own_upd (fun _ => (0 : Int32)) ((0 : Int32)).toNatClampNeg p2) ((1 : Int32)).toNatClampNeg p3) ((2 : Int32)).toNatClampNeg p4) (own_m wd (3 : Int32) (0 : Int32))) = own_f3_0 p4 wd := by
  rcases own_w45 H with rfl | rfl | rfl | rfl | rfl
  · exact own_r0 _ _ _
  · exact own_r1 _ _ _ (own_gk 1 0 _ _ 2 2 _ (by decide) (by decide) rfl (by decide))
  · exact own_r2 _ _ _ (own_gk 2 8 _ _ 4 2 _ (by decide) (by decide) rfl (by decide)) (own_gk 2 0 _ _ 5 2 _ (by decide) (by decide) rfl (by decide))
  · exact own_r3 _ _ _ (own_gk 3 16 _ _ 6 2 _ (by decide) (by decide) rfl (by decide)) (own_gk 3 8 _ _ 7 2 _ (by decide) (by decide) rfl (by decide)) (own_gk 3 0 _ _ 8 2 _ (by decide) (by decide) rfl (by decide))
  · exact own_r4 _ _ _ (own_gk 4 24 _ _ 8 2 _ (by decide) (by decide) rfl (by decide)) (own_gk 4 16 _ _ 9 2 _ (by decide) (by decide) rfl (by decide)) (own_gk 4 8 _ _ 10 2 _ (by decide) (by decide) rfl (by decide)) (own_gk 4 0 _ _ 11 2 _ (by decide) (by decide) rfl (by decide))
theorem own_law3 (p0 p1 p2 p3 p4 wd : Int32) (H : own_W wd) : own_f0c3_0 p2 p3 p4 wd = 1 := by
  have z : ¬ ((1 : Int32) = 0) := by decide
  unfold own_f0c3_0 own_f0c3_114 own_f0c3_150
  rw [if_pos rfl, if_pos (own_e3_0 p2 p3 p4 wd H), if_neg z, if_pos (own_e3_1 p2 p3 p4 wd H), if_neg z, if_pos (own_e3_2 p2 p3 p4 wd H)]
set_option maxRecDepth 65536 in
set_option maxHeartbeats 40000000 in
theorem own_rm0c3 (l : Launch) (Z : State) (aA : Array Value) (hw : ∀ d ∈ tables_1, d.before aA Z = true) (ws : List Jvm.Cond) (p0 : Int32) (p1 : Int32) (p2 : Int32) (p3 : Int32) (p4 : Int32)  (h0 : Heap) (n0 : Nat) (Z0 : n0 ≤ h0.size) (hc : (p1 &&& (3 : Int32)) = (3 : Int32)) :
    MetFree l x (head1 (Jvm.Cond.code x code maxLocals ret :: ws) room_1) (fun a U => a = #[(.int p0), (.int p1), (.int p2), (.int p3), (.int p4)] ∧ Z.Warmed39 U.vm ∧ U.heap = h0) (fun _ _ _ _ _ => True) (fun _ U o U' => ∃ v L, o = .returned v ∧ (QL (.int ((1 : Int32))) n0) v U'.heap L ∧ FrameEnd U o U' L 16 128) := by
  refine MetFree.of_bodySF (plainFor_of_name own_pn1) hisR ?_
  intro p e s m args below meth c s₁ Bd hml0 hP hK
  obtain ⟨rfl, hZ, hh⟩ := hP
  have hx := Bd.exec
  have hby := Bd.bytes
  have hml : c.maxLocals = 10 := hml0
  have hown : s.vm.findClass "com/example/rasterline/rasterline/formats/png/KnownChunkPackedPinLaw" = some m.cls := findClass_of_methodNamed Bd.named
  have hnm := (name_of_methodNamed Bd.named Bd.method).1
  have X0 : Stand p l e room_1 s m #[(.int p0), (.int p1), (.int p2), (.int p3), (.int p4)] below meth c s₁ [] 0 0 := Stand.of_body Bd
  have e0 : s₁.heap = h0 := by rw [← hh, Bd.state]; rfl
  have N0 := Fr.nil n0
  refine Owe.step (T := s₁) (T' := s₁) (g' := (mkF m 0 #[.val (.int p0), .val (.int p1), .val (.int p2), .val (.int p3), .val (.int p4), .unset, .unset, .unset, .unset, .unset] [])) (fun t k => castTop (own_ef0c3 m p0 p1 p2 p3 p4) k) ?_
  refine Owe.step (T' := s₁) (g' := (mkF m 6 #[.val (.int p0), .val (.int p1), .val (.int p2), .val (.int p3), .val (.int p4), .unset, .unset, .unset, .unset, .unset] [(.int ((p0 &&& (2147483647 : Int32)) - ((p0 &&& (2147483647 : Int32)) / (5 : Int32)) * (5 : Int32)))])) (fun t k => ?_) ?_
  · show Steps p.tables e below (s₁.setTop (mkF m 0 #[.val (.int p0), .val (.int p1), .val (.int p2), .val (.int p3), .val (.int p4), .unset, .unset, .unset, .unset, .unset] [])) t
    refine XS.iloadN X0.here hx rfl (hb hby at_0) rfl ?_
    show Steps p.tables e below (s₁.setTop (mkF m 1 #[.val (.int p0), .val (.int p1), .val (.int p2), .val (.int p3), .val (.int p4), .unset, .unset, .unset, .unset, .unset] [(.int p0)])) t
    refine X0.ldcInt hx hown (mvT hZ (hw _ (List.mem_of_getElem? (i := 0) rfl))) (g := (mkF m 1 #[.val (.int p0), .val (.int p1), .val (.int p2), .val (.int p3), .val (.int p4), .unset, .unset, .unset, .unset, .unset] [(.int p0)])) rfl (hb hby at_1) _ ?_
    show Steps p.tables e below (s₁.setTop (mkF m 3 #[.val (.int p0), .val (.int p1), .val (.int p2), .val (.int p3), .val (.int p4), .unset, .unset, .unset, .unset, .unset] [(.int (2147483647 : Int32)), (.int p0)])) t
    refine XS.iand X0.here hx rfl (hb hby at_3) rfl ?_
    show Steps p.tables e below (s₁.setTop (mkF m 4 #[.val (.int p0), .val (.int p1), .val (.int p2), .val (.int p3), .val (.int p4), .unset, .unset, .unset, .unset, .unset] [(.int (p0 &&& (2147483647 : Int32)))])) t
    refine XS.iconst X0.here hx rfl (hb hby at_4) ?_
    show Steps p.tables e below (s₁.setTop (mkF m 5 #[.val (.int p0), .val (.int p1), .val (.int p2), .val (.int p3), .val (.int p4), .unset, .unset, .unset, .unset, .unset] [(.int (5 : Int32)), (.int (p0 &&& (2147483647 : Int32)))])) t
    refine XS.irem X0.here hx rfl (hb hby at_5) rfl (by decide) ?_
    show Steps p.tables e below (s₁.setTop (mkF m 6 #[.val (.int p0), .val (.int p1), .val (.int p2), .val (.int p3), .val (.int p4), .unset, .unset, .unset, .unset, .unset] [(.int ((p0 &&& (2147483647 : Int32)) - ((p0 &&& (2147483647 : Int32)) / (5 : Int32)) * (5 : Int32)))])) t
    exact k
  obtain ⟨wd, e_wd⟩ : ∃ z, z = ((p0 &&& (2147483647 : Int32)) - ((p0 &&& (2147483647 : Int32)) / (5 : Int32)) * (5 : Int32)) := ⟨_, rfl⟩
  rw [← e_wd]
  have H_wd : own_W wd := by rw [e_wd]; exact own_w5 p0
  refine Owe.step (T' := s₁) (g' := (mkF m 11 #[.val (.int p0), .val (.int p1), .val (.int p2), .val (.int p3), .val (.int p4), .val (.int wd), .unset, .unset, .unset, .unset] [(.int (p1 &&& (3 : Int32)))])) (fun t k => ?_) ?_
  · show Steps p.tables e below (s₁.setTop (mkF m 6 #[.val (.int p0), .val (.int p1), .val (.int p2), .val (.int p3), .val (.int p4), .unset, .unset, .unset, .unset, .unset] [(.int wd)])) t
    refine XS.istore X0.here hx rfl (hb hby at_6) rfl (l' := #[.val (.int p0), .val (.int p1), .val (.int p2), .val (.int p3), .val (.int p4), .val (.int wd), .unset, .unset, .unset, .unset]) rfl ?_
    show Steps p.tables e below (s₁.setTop (mkF m 8 #[.val (.int p0), .val (.int p1), .val (.int p2), .val (.int p3), .val (.int p4), .val (.int wd), .unset, .unset, .unset, .unset] [])) t
    refine XS.iloadN X0.here hx rfl (hb hby at_8) rfl ?_
    show Steps p.tables e below (s₁.setTop (mkF m 9 #[.val (.int p0), .val (.int p1), .val (.int p2), .val (.int p3), .val (.int p4), .val (.int wd), .unset, .unset, .unset, .unset] [(.int p1)])) t
    refine XS.iconst X0.here hx rfl (hb hby at_9) ?_
    show Steps p.tables e below (s₁.setTop (mkF m 10 #[.val (.int p0), .val (.int p1), .val (.int p2), .val (.int p3), .val (.int p4), .val (.int wd), .unset, .unset, .unset, .unset] [(.int (3 : Int32)), (.int p1)])) t
    refine XS.iand X0.here hx rfl (hb hby at_10) rfl ?_
    show Steps p.tables e below (s₁.setTop (mkF m 11 #[.val (.int p0), .val (.int p1), .val (.int p2), .val (.int p3), .val (.int p4), .val (.int wd), .unset, .unset, .unset, .unset] [(.int (p1 &&& (3 : Int32)))])) t
    exact k
  rw [hc]
  obtain ⟨T1, h1, k1, X1, e1, E1, A1, st1⟩ := newP X0 hx hZ (hw _ (List.mem_of_getElem? (i := 1) rfl)) e0 (g := (mkF m 15 #[.val (.int p0), .val (.int p1), .val (.int p2), .val (.int p3), .val (.int p4), .val (.int wd), .val (.int (3 : Int32)), .unset, .unset, .unset] [(.int (3 : Int32))])) rfl (hb hby at_15) rfl (by decide) (cap := 3) (by decide) (by decide) (by decide) (by decide)
  obtain ⟨b1, g1⟩ : ∃ z, z = h0.size := ⟨_, rfl⟩
  rw [← g1] at A1 st1
  have g_b1 : n0 ≤ b1 := Nat.le_trans Z0 (Nat.le_of_eq g1.symm)
  have Zn1 : n0 ≤ h1.size := Nat.le_trans Z0 E1.1
  have V1 : AI Z h1 b1 .int 3 (fun _ => (0 : Int32)) := AV.new A1 (by decide)
  obtain ⟨T2, h2, X2, e2, W2, V2, st2⟩ := stAI X1 hx hZ e1 V1 (j := (0 : Int32)) (by decide) (by decide) (g := (mkF m 28 #[.val (.int p0), .val (.int p1), .val (.int p2), .val (.int p3), .val (.int p4), .val (.int wd), .val (.int (3 : Int32)), .val (.ref b1), .unset, .unset] [(.int p2), (.int (0 : Int32)), (.ref b1)])) rfl rfl (hb hby at_28)
  have N2 := Fr.snoc X2 N0 g_b1
  have Zn2 : n0 ≤ h2.size := Nat.le_trans Zn1 (Keep.of_wr W2).1
  obtain ⟨T3, h3, X3, e3, W3, V3, st3⟩ := stAI X2 hx hZ e2 V2 (j := (1 : Int32)) (by decide) (by decide) (g := (mkF m 39 #[.val (.int p0), .val (.int p1), .val (.int p2), .val (.int p3), .val (.int p4), .val (.int wd), .val (.int (3 : Int32)), .val (.ref b1), .unset, .unset] [(.int p3), (.int (1 : Int32)), (.ref b1)])) rfl rfl (hb hby at_39)
  have N3 := Fr.snoc X3 N2 g_b1
  have Zn3 : n0 ≤ h3.size := Nat.le_trans Zn2 (Keep.of_wr W3).1
  obtain ⟨T4, h4, X4, e4, W4, V4, st4⟩ := stAI X3 hx hZ e3 V3 (j := (2 : Int32)) (by decide) (by decide) (g := (mkF m 51 #[.val (.int p0), .val (.int p1), .val (.int p2), .val (.int p3), .val (.int p4), .val (.int wd), .val (.int (3 : Int32)), .val (.ref b1), .unset, .unset] [(.int p4), (.int (2 : Int32)), (.ref b1)])) rfl rfl (hb hby at_51)
  have N4 := Fr.snoc X4 N3 g_b1
  have Zn4 : n0 ≤ h4.size := Nat.le_trans Zn3 (Keep.of_wr W4).1
  obtain ⟨_, _, ⟨T5, L5, k5, n5⟩, -, X5, ⟨Lc5, hQ5, l5, y5, z5⟩, st5⟩ := Jvm.LawKit.callS X4 hx (y := (⟨"com/example/rasterline/rasterline/formats/png/KnownChunk", "packed", "(I[I)[B"⟩ : MethodName)) hown (mvT hZ (hw _ (List.mem_of_getElem? (i := 2) rfl))) (mvT hZ (hw _ (List.mem_of_getElem? (i := 3) rfl))) (mvT hZ (hw _ (List.mem_of_getElem? (i := 4) rfl))) (mvT hZ (hw _ (List.mem_of_getElem? (i := 5) rfl))) (by decide) (backOf (W := 0) (own_rm1 l Z aA hw [] wd b1 3 (own_upd (own_upd (own_upd (fun _ => (0 : Int32)) ((0 : Int32)).toNatClampNeg p2) ((1 : Int32)).toNatClampNeg p3) ((2 : Int32)).toNatClampNeg p4) (3 : Int32) h4 n0 Zn4 V4 (by decide) (by decide) (by decide) H_wd) hZ (hw _ (List.mem_of_getElem? (i := 5) rfl)) (hw _ (List.mem_of_getElem? (i := 4) rfl)) (by decide) (by decide)) (g := (mkF m 56 #[.val (.int p0), .val (.int p1), .val (.int p2), .val (.int p3), .val (.int p4), .val (.int wd), .val (.int (3 : Int32)), .val (.ref b1), .unset, .unset] [(.ref b1), (.int wd)])) rfl (by rw [hml]; rfl) (argsL := [(.int wd), (.ref b1)]) (rest := []) (lenOf own_pd0 rfl) rfl (by show 2 * 0 + _ ≤ _; exact Nat.le_of_eq rfl) (hb hby at_56) (fun _ _ => ⟨rfl, e4, (by decide : 1 + 1 ≤ _), (by decide : 3 + 12 ≤ _)⟩)
  dsimp only [Pt.U, Pt.locs, Pt.cells, Pt.slots] at X5 l5 y5 z5 st5 hQ5
  subst y5 z5
  obtain ⟨h5, eh5⟩ : ∃ z, T5.heap = z := ⟨_, rfl⟩
  rw [eh5] at hQ5
  obtain ⟨b1_5, rfl, N5q, K5q, sz5_b1_5, G5_0⟩ := hQ5
  have N5 : Fr n0 L5 := by rw [l5]; exact Fr.app N4 N5q
  have ne_b1_b1_5 : b1 ≠ b1_5 := Nat.ne_of_lt (Nat.lt_of_lt_of_le V4.lt sz5_b1_5)
  have g_b1_5 : n0 ≤ b1_5 := Nat.le_trans Zn4 sz5_b1_5
  have V4_k5 := V4.keep K5q (by simp only [List.mem_cons, List.not_mem_nil, or_false, not_or, not_false_eq_true])
  have Zn5 : n0 ≤ h5.size := Nat.le_trans Zn4 K5q.1
  refine Owe.step (T' := T5) (g' := (mkF m 74 #[.val (.int p0), .val (.int p1), .val (.int p2), .val (.int p3), .val (.int p4), .val (.int wd), .val (.int (3 : Int32)), .val (.ref b1), .val (.ref b1_5), .unset] [(.int (wd * (3 : Int32))), (.int (wd * (3 : Int32)))])) (fun t k => ?_) ?_
  · show Steps p.tables e below (s₁.setTop (mkF m 11 #[.val (.int p0), .val (.int p1), .val (.int p2), .val (.int p3), .val (.int p4), .val (.int wd), .unset, .unset, .unset, .unset] [(.int (3 : Int32))])) t
    refine XS.istore X0.here hx rfl (hb hby at_11) rfl (l' := #[.val (.int p0), .val (.int p1), .val (.int p2), .val (.int p3), .val (.int p4), .val (.int wd), .val (.int (3 : Int32)), .unset, .unset, .unset]) rfl ?_
    show Steps p.tables e below (s₁.setTop (mkF m 13 #[.val (.int p0), .val (.int p1), .val (.int p2), .val (.int p3), .val (.int p4), .val (.int wd), .val (.int (3 : Int32)), .unset, .unset, .unset] [])) t
    refine XS.iload X0.here hx rfl (hb hby at_13) rfl ?_
    show Steps p.tables e below (s₁.setTop (mkF m 15 #[.val (.int p0), .val (.int p1), .val (.int p2), .val (.int p3), .val (.int p4), .val (.int wd), .val (.int (3 : Int32)), .unset, .unset, .unset] [(.int (3 : Int32))])) t
    refine st1 _ ?_
    show Steps p.tables e below (T1.setTop (mkF m 17 #[.val (.int p0), .val (.int p1), .val (.int p2), .val (.int p3), .val (.int p4), .val (.int wd), .val (.int (3 : Int32)), .unset, .unset, .unset] [(.ref b1)])) t
    refine XS.astore X1.here hx rfl (hb hby at_17) rfl rfl (l' := #[.val (.int p0), .val (.int p1), .val (.int p2), .val (.int p3), .val (.int p4), .val (.int wd), .val (.int (3 : Int32)), .val (.ref b1), .unset, .unset]) rfl ?_
    show Steps p.tables e below (T1.setTop (mkF m 19 #[.val (.int p0), .val (.int p1), .val (.int p2), .val (.int p3), .val (.int p4), .val (.int wd), .val (.int (3 : Int32)), .val (.ref b1), .unset, .unset] [])) t
    refine XS.iload X1.here hx rfl (hb hby at_19) rfl ?_
    show Steps p.tables e below (T1.setTop (mkF m 21 #[.val (.int p0), .val (.int p1), .val (.int p2), .val (.int p3), .val (.int p4), .val (.int wd), .val (.int (3 : Int32)), .val (.ref b1), .unset, .unset] [(.int (3 : Int32))])) t
    refine XS.ifNo X1.here hx rfl (hb hby at_21) rfl ((if0 _ _).trans (tlt (by decide : (0 : Int32) < (3 : Int32))).2.2.2) ?_
    show Steps p.tables e below (T1.setTop (mkF m 24 #[.val (.int p0), .val (.int p1), .val (.int p2), .val (.int p3), .val (.int p4), .val (.int wd), .val (.int (3 : Int32)), .val (.ref b1), .unset, .unset] [])) t
    refine XS.aload X1.here hx rfl (hb hby at_24) rfl rfl ?_
    show Steps p.tables e below (T1.setTop (mkF m 26 #[.val (.int p0), .val (.int p1), .val (.int p2), .val (.int p3), .val (.int p4), .val (.int wd), .val (.int (3 : Int32)), .val (.ref b1), .unset, .unset] [(.ref b1)])) t
    refine XS.iconst X1.here hx rfl (hb hby at_26) ?_
    show Steps p.tables e below (T1.setTop (mkF m 27 #[.val (.int p0), .val (.int p1), .val (.int p2), .val (.int p3), .val (.int p4), .val (.int wd), .val (.int (3 : Int32)), .val (.ref b1), .unset, .unset] [(.int (0 : Int32)), (.ref b1)])) t
    refine XS.iloadN X1.here hx rfl (hb hby at_27) rfl ?_
    show Steps p.tables e below (T1.setTop (mkF m 28 #[.val (.int p0), .val (.int p1), .val (.int p2), .val (.int p3), .val (.int p4), .val (.int wd), .val (.int (3 : Int32)), .val (.ref b1), .unset, .unset] [(.int p2), (.int (0 : Int32)), (.ref b1)])) t
    refine st2 _ ?_
    show Steps p.tables e below (T2.setTop (mkF m 29 #[.val (.int p0), .val (.int p1), .val (.int p2), .val (.int p3), .val (.int p4), .val (.int wd), .val (.int (3 : Int32)), .val (.ref b1), .unset, .unset] [])) t
    refine XS.iload X2.here hx rfl (hb hby at_29) rfl ?_
    show Steps p.tables e below (T2.setTop (mkF m 31 #[.val (.int p0), .val (.int p1), .val (.int p2), .val (.int p3), .val (.int p4), .val (.int wd), .val (.int (3 : Int32)), .val (.ref b1), .unset, .unset] [(.int (3 : Int32))])) t
    refine XS.iconst X2.here hx rfl (hb hby at_31) ?_
    show Steps p.tables e below (T2.setTop (mkF m 32 #[.val (.int p0), .val (.int p1), .val (.int p2), .val (.int p3), .val (.int p4), .val (.int wd), .val (.int (3 : Int32)), .val (.ref b1), .unset, .unset] [(.int (1 : Int32)), (.int (3 : Int32))])) t
    refine XS.icmpNo X2.here hx rfl (hb hby at_32) rfl (tlt (by decide : (1 : Int32) < (3 : Int32))).2.2.2 ?_
    show Steps p.tables e below (T2.setTop (mkF m 35 #[.val (.int p0), .val (.int p1), .val (.int p2), .val (.int p3), .val (.int p4), .val (.int wd), .val (.int (3 : Int32)), .val (.ref b1), .unset, .unset] [])) t
    refine XS.aload X2.here hx rfl (hb hby at_35) rfl rfl ?_
    show Steps p.tables e below (T2.setTop (mkF m 37 #[.val (.int p0), .val (.int p1), .val (.int p2), .val (.int p3), .val (.int p4), .val (.int wd), .val (.int (3 : Int32)), .val (.ref b1), .unset, .unset] [(.ref b1)])) t
    refine XS.iconst X2.here hx rfl (hb hby at_37) ?_
    show Steps p.tables e below (T2.setTop (mkF m 38 #[.val (.int p0), .val (.int p1), .val (.int p2), .val (.int p3), .val (.int p4), .val (.int wd), .val (.int (3 : Int32)), .val (.ref b1), .unset, .unset] [(.int (1 : Int32)), (.ref b1)])) t
    refine XS.iloadN X2.here hx rfl (hb hby at_38) rfl ?_
    show Steps p.tables e below (T2.setTop (mkF m 39 #[.val (.int p0), .val (.int p1), .val (.int p2), .val (.int p3), .val (.int p4), .val (.int wd), .val (.int (3 : Int32)), .val (.ref b1), .unset, .unset] [(.int p3), (.int (1 : Int32)), (.ref b1)])) t
    refine st3 _ ?_
    show Steps p.tables e below (T3.setTop (mkF m 40 #[.val (.int p0), .val (.int p1), .val (.int p2), .val (.int p3), .val (.int p4), .val (.int wd), .val (.int (3 : Int32)), .val (.ref b1), .unset, .unset] [])) t
    refine XS.iload X3.here hx rfl (hb hby at_40) rfl ?_
    show Steps p.tables e below (T3.setTop (mkF m 42 #[.val (.int p0), .val (.int p1), .val (.int p2), .val (.int p3), .val (.int p4), .val (.int wd), .val (.int (3 : Int32)), .val (.ref b1), .unset, .unset] [(.int (3 : Int32))])) t
    refine XS.iconst X3.here hx rfl (hb hby at_42) ?_
    show Steps p.tables e below (T3.setTop (mkF m 43 #[.val (.int p0), .val (.int p1), .val (.int p2), .val (.int p3), .val (.int p4), .val (.int wd), .val (.int (3 : Int32)), .val (.ref b1), .unset, .unset] [(.int (2 : Int32)), (.int (3 : Int32))])) t
    refine XS.icmpNo X3.here hx rfl (hb hby at_43) rfl (tlt (by decide : (2 : Int32) < (3 : Int32))).2.2.2 ?_
    show Steps p.tables e below (T3.setTop (mkF m 46 #[.val (.int p0), .val (.int p1), .val (.int p2), .val (.int p3), .val (.int p4), .val (.int wd), .val (.int (3 : Int32)), .val (.ref b1), .unset, .unset] [])) t
    refine XS.aload X3.here hx rfl (hb hby at_46) rfl rfl ?_
    show Steps p.tables e below (T3.setTop (mkF m 48 #[.val (.int p0), .val (.int p1), .val (.int p2), .val (.int p3), .val (.int p4), .val (.int wd), .val (.int (3 : Int32)), .val (.ref b1), .unset, .unset] [(.ref b1)])) t
    refine XS.iconst X3.here hx rfl (hb hby at_48) ?_
    show Steps p.tables e below (T3.setTop (mkF m 49 #[.val (.int p0), .val (.int p1), .val (.int p2), .val (.int p3), .val (.int p4), .val (.int wd), .val (.int (3 : Int32)), .val (.ref b1), .unset, .unset] [(.int (2 : Int32)), (.ref b1)])) t
    refine XS.iload X3.here hx rfl (hb hby at_49) rfl ?_
    show Steps p.tables e below (T3.setTop (mkF m 51 #[.val (.int p0), .val (.int p1), .val (.int p2), .val (.int p3), .val (.int p4), .val (.int wd), .val (.int (3 : Int32)), .val (.ref b1), .unset, .unset] [(.int p4), (.int (2 : Int32)), (.ref b1)])) t
    refine st4 _ ?_
    show Steps p.tables e below (T4.setTop (mkF m 52 #[.val (.int p0), .val (.int p1), .val (.int p2), .val (.int p3), .val (.int p4), .val (.int wd), .val (.int (3 : Int32)), .val (.ref b1), .unset, .unset] [])) t
    refine XS.iload X4.here hx rfl (hb hby at_52) rfl ?_
    show Steps p.tables e below (T4.setTop (mkF m 54 #[.val (.int p0), .val (.int p1), .val (.int p2), .val (.int p3), .val (.int p4), .val (.int wd), .val (.int (3 : Int32)), .val (.ref b1), .unset, .unset] [(.int wd)])) t
    refine XS.aload X4.here hx rfl (hb hby at_54) rfl rfl ?_
    show Steps p.tables e below (T4.setTop (mkF m 56 #[.val (.int p0), .val (.int p1), .val (.int p2), .val (.int p3), .val (.int p4), .val (.int wd), .val (.int (3 : Int32)), .val (.ref b1), .unset, .unset] [(.ref b1), (.int wd)])) t
    refine st5 _ ?_
    show Steps p.tables e below (T5.setTop (mkF m 59 #[.val (.int p0), .val (.int p1), .val (.int p2), .val (.int p3), .val (.int p4), .val (.int wd), .val (.int (3 : Int32)), .val (.ref b1), .unset, .unset] [(.ref b1_5)])) t
    refine XS.astore X5.here hx rfl (hb hby at_59) rfl rfl (l' := #[.val (.int p0), .val (.int p1), .val (.int p2), .val (.int p3), .val (.int p4), .val (.int wd), .val (.int (3 : Int32)), .val (.ref b1), .val (.ref b1_5), .unset]) rfl ?_
    show Steps p.tables e below (T5.setTop (mkF m 61 #[.val (.int p0), .val (.int p1), .val (.int p2), .val (.int p3), .val (.int p4), .val (.int wd), .val (.int (3 : Int32)), .val (.ref b1), .val (.ref b1_5), .unset] [])) t
    refine XS.aload X5.here hx rfl (hb hby at_61) rfl rfl ?_
    show Steps p.tables e below (T5.setTop (mkF m 63 #[.val (.int p0), .val (.int p1), .val (.int p2), .val (.int p3), .val (.int p4), .val (.int wd), .val (.int (3 : Int32)), .val (.ref b1), .val (.ref b1_5), .unset] [(.ref b1_5)])) t
    refine XS.ifnullNo X5.here hx rfl (hb hby at_63) rfl ?_
    show Steps p.tables e below (T5.setTop (mkF m 66 #[.val (.int p0), .val (.int p1), .val (.int p2), .val (.int p3), .val (.int p4), .val (.int wd), .val (.int (3 : Int32)), .val (.ref b1), .val (.ref b1_5), .unset] [])) t
    refine XS.aload X5.here hx rfl (hb hby at_66) rfl rfl ?_
    show Steps p.tables e below (T5.setTop (mkF m 68 #[.val (.int p0), .val (.int p1), .val (.int p2), .val (.int p3), .val (.int p4), .val (.int wd), .val (.int (3 : Int32)), .val (.ref b1), .val (.ref b1_5), .unset] [(.ref b1_5)])) t
    refine lenA X5 hx hZ eh5 G5_0 (z := (wd * (3 : Int32))) (own_len H_wd (by decide)) (g := (mkF m 68 #[.val (.int p0), .val (.int p1), .val (.int p2), .val (.int p3), .val (.int p4), .val (.int wd), .val (.int (3 : Int32)), .val (.ref b1), .val (.ref b1_5), .unset] [(.ref b1_5)])) rfl rfl (hb hby at_68) _ ?_
    show Steps p.tables e below (T5.setTop (mkF m 69 #[.val (.int p0), .val (.int p1), .val (.int p2), .val (.int p3), .val (.int p4), .val (.int wd), .val (.int (3 : Int32)), .val (.ref b1), .val (.ref b1_5), .unset] [(.int (wd * (3 : Int32)))])) t
    refine XS.iload X5.here hx rfl (hb hby at_69) rfl ?_
    show Steps p.tables e below (T5.setTop (mkF m 71 #[.val (.int p0), .val (.int p1), .val (.int p2), .val (.int p3), .val (.int p4), .val (.int wd), .val (.int (3 : Int32)), .val (.ref b1), .val (.ref b1_5), .unset] [(.int wd), (.int (wd * (3 : Int32)))])) t
    refine XS.iload X5.here hx rfl (hb hby at_71) rfl ?_
    show Steps p.tables e below (T5.setTop (mkF m 73 #[.val (.int p0), .val (.int p1), .val (.int p2), .val (.int p3), .val (.int p4), .val (.int wd), .val (.int (3 : Int32)), .val (.ref b1), .val (.ref b1_5), .unset] [(.int (3 : Int32)), (.int wd), (.int (wd * (3 : Int32)))])) t
    refine XS.imul X5.here hx rfl (hb hby at_73) rfl ?_
    show Steps p.tables e below (T5.setTop (mkF m 74 #[.val (.int p0), .val (.int p1), .val (.int p2), .val (.int p3), .val (.int p4), .val (.int wd), .val (.int (3 : Int32)), .val (.ref b1), .val (.ref b1_5), .unset] [(.int (wd * (3 : Int32))), (.int (wd * (3 : Int32)))])) t
    exact k
  by_cases hc74 : (wd * (3 : Int32)) = (wd * (3 : Int32))
  · refine Owe.step (T' := T5) (g' := (mkF m 79 #[.val (.int p0), .val (.int p1), .val (.int p2), .val (.int p3), .val (.int p4), .val (.int wd), .val (.int (3 : Int32)), .val (.ref b1), .val (.ref b1_5), .unset] [])) (fun t k => ?_) ?_
    · show Steps p.tables e below (T5.setTop (mkF m 74 #[.val (.int p0), .val (.int p1), .val (.int p2), .val (.int p3), .val (.int p4), .val (.int wd), .val (.int (3 : Int32)), .val (.ref b1), .val (.ref b1_5), .unset] [(.int (wd * (3 : Int32))), (.int (wd * (3 : Int32)))])) t
      refine XS.icmpYes X5.here hx rfl (pc0 := 74) (pc' := 79) rfl (hb hby at_74) rfl (teq hc74).1 (by decide) (by decide) ?_
      show Steps p.tables e below (T5.setTop (mkF m 79 #[.val (.int p0), .val (.int p1), .val (.int p2), .val (.int p3), .val (.int p4), .val (.int wd), .val (.int (3 : Int32)), .val (.ref b1), .val (.ref b1_5), .unset] [])) t
      exact k
    obtain ⟨_, _, ⟨T6, L6, k6, n6⟩, -, X6, ⟨Lc6, hQ6, l6, y6, z6⟩, st6⟩ := Jvm.LawKit.callS X5 hx (y := (⟨"com/example/rasterline/rasterline/formats/png/KnownChunkPackedPinLaw", "read", "([BII)I"⟩ : MethodName)) hown (mvT hZ (hw _ (List.mem_of_getElem? (i := 7) rfl))) (mvT hZ (hw _ (List.mem_of_getElem? (i := 8) rfl))) (mvT hZ (hw _ (List.mem_of_getElem? (i := 9) rfl))) (mvT hZ (hw _ (List.mem_of_getElem? (i := 10) rfl))) (by decide) (backOf (W := 0) (own_rm2 l Z aA hw [] b1_5 (0 : Int32) wd (wd * (3 : Int32)).toNatClampNeg (own_g wd (own_upd (own_upd (own_upd (fun _ => (0 : Int32)) ((0 : Int32)).toNatClampNeg p2) ((1 : Int32)).toNatClampNeg p3) ((2 : Int32)).toNatClampNeg p4) (own_m wd (3 : Int32) (0 : Int32))) h5 n0 Zn5 G5_0 (own_rd0 H_wd (by decide) (by decide))) hZ (hw _ (List.mem_of_getElem? (i := 10) rfl)) (hw _ (List.mem_of_getElem? (i := 9) rfl)) (by decide) (by decide)) (g := (mkF m 97 #[.val (.int p0), .val (.int p1), .val (.int p2), .val (.int p3), .val (.int p4), .val (.int wd), .val (.int (3 : Int32)), .val (.ref b1), .val (.ref b1_5), .val (.int (1 : Int32))] [(.int wd), (.int (0 : Int32)), (.ref b1_5)])) rfl (by rw [hml]; rfl) (argsL := [(.ref b1_5), (.int (0 : Int32)), (.int wd)]) (rest := []) (lenOf own_pd1 rfl) rfl (by show 2 * 0 + _ ≤ _; exact Nat.le_of_eq rfl) (hb hby at_97) (fun _ _ => ⟨rfl, eh5, (by decide : 2 + 0 ≤ _), (by decide : 15 + 0 ≤ _)⟩)
    dsimp only [Pt.U, Pt.locs, Pt.cells, Pt.slots] at X6 l6 y6 z6 st6 hQ6
    subst y6 z6
    obtain ⟨rfl, N6q, e6⟩ := hQ6
    have N6 : Fr n0 L6 := by rw [l6]; exact Fr.app N5 N6q
    obtain ⟨_, _, ⟨T7, L7, k7, n7⟩, -, X7, ⟨Lc7, hQ7, l7, y7, z7⟩, st7⟩ := Jvm.LawKit.callS X6 hx (y := (⟨"com/example/rasterline/rasterline/formats/png/KnownChunkPackedPinLaw", "low", "(II)I"⟩ : MethodName)) hown (mvT hZ (hw _ (List.mem_of_getElem? (i := 11) rfl))) (mvT hZ (hw _ (List.mem_of_getElem? (i := 12) rfl))) (mvT hZ (hw _ (List.mem_of_getElem? (i := 9) rfl))) (mvT hZ (hw _ (List.mem_of_getElem? (i := 13) rfl))) (by decide) (backOf (W := 1) (own_rm3 l Z aA hw [] p2 wd h5 n0 Zn5 ) hZ (hw _ (List.mem_of_getElem? (i := 13) rfl)) (hw _ (List.mem_of_getElem? (i := 9) rfl)) (by decide) (by decide)) (g := (mkF m 103 #[.val (.int p0), .val (.int p1), .val (.int p2), .val (.int p3), .val (.int p4), .val (.int wd), .val (.int (3 : Int32)), .val (.ref b1), .val (.ref b1_5), .val (.int (1 : Int32))] [(.int wd), (.int p2), (.int (own_f2_0 (0 : Int32) wd (own_g wd (own_upd (own_upd (own_upd (fun _ => (0 : Int32)) ((0 : Int32)).toNatClampNeg p2) ((1 : Int32)).toNatClampNeg p3) ((2 : Int32)).toNatClampNeg p4) (own_m wd (3 : Int32) (0 : Int32)))))])) rfl (by rw [hml]; rfl) (argsL := [(.int p2), (.int wd)]) (rest := [(.int (own_f2_0 (0 : Int32) wd (own_g wd (own_upd (own_upd (own_upd (fun _ => (0 : Int32)) ((0 : Int32)).toNatClampNeg p2) ((1 : Int32)).toNatClampNeg p3) ((2 : Int32)).toNatClampNeg p4) (own_m wd (3 : Int32) (0 : Int32)))))]) (lenOf own_pd2 rfl) rfl (by show 2 * 0 + _ ≤ _; exact Nat.le_of_eq rfl) (hb hby at_103) (fun _ _ => ⟨rfl, e6, (by decide : 2 + 0 ≤ _), (by decide : 15 + 0 ≤ _)⟩)
    dsimp only [Pt.U, Pt.locs, Pt.cells, Pt.slots] at X7 l7 y7 z7 st7 hQ7
    subst y7 z7
    obtain ⟨rfl, N7q, e7⟩ := hQ7
    have N7 : Fr n0 L7 := by rw [l7]; exact Fr.app N6 N7q
    refine Owe.step (T' := T7) (g' := (mkF m 106 #[.val (.int p0), .val (.int p1), .val (.int p2), .val (.int p3), .val (.int p4), .val (.int wd), .val (.int (3 : Int32)), .val (.ref b1), .val (.ref b1_5), .val (.int (1 : Int32))] [(.int (own_f3_0 p2 wd)), (.int (own_f2_0 (0 : Int32) wd (own_g wd (own_upd (own_upd (own_upd (fun _ => (0 : Int32)) ((0 : Int32)).toNatClampNeg p2) ((1 : Int32)).toNatClampNeg p3) ((2 : Int32)).toNatClampNeg p4) (own_m wd (3 : Int32) (0 : Int32)))))])) (fun t k => ?_) ?_
    · show Steps p.tables e below (T5.setTop (mkF m 79 #[.val (.int p0), .val (.int p1), .val (.int p2), .val (.int p3), .val (.int p4), .val (.int wd), .val (.int (3 : Int32)), .val (.ref b1), .val (.ref b1_5), .unset] [])) t
      refine XS.iconst X5.here hx rfl (hb hby at_79) ?_
      show Steps p.tables e below (T5.setTop (mkF m 80 #[.val (.int p0), .val (.int p1), .val (.int p2), .val (.int p3), .val (.int p4), .val (.int wd), .val (.int (3 : Int32)), .val (.ref b1), .val (.ref b1_5), .unset] [(.int (1 : Int32))])) t
      refine XS.istore X5.here hx rfl (hb hby at_80) rfl (l' := #[.val (.int p0), .val (.int p1), .val (.int p2), .val (.int p3), .val (.int p4), .val (.int wd), .val (.int (3 : Int32)), .val (.ref b1), .val (.ref b1_5), .val (.int (1 : Int32))]) rfl ?_
      show Steps p.tables e below (T5.setTop (mkF m 82 #[.val (.int p0), .val (.int p1), .val (.int p2), .val (.int p3), .val (.int p4), .val (.int wd), .val (.int (3 : Int32)), .val (.ref b1), .val (.ref b1_5), .val (.int (1 : Int32))] [])) t
      refine XS.iload X5.here hx rfl (hb hby at_82) rfl ?_
      show Steps p.tables e below (T5.setTop (mkF m 84 #[.val (.int p0), .val (.int p1), .val (.int p2), .val (.int p3), .val (.int p4), .val (.int wd), .val (.int (3 : Int32)), .val (.ref b1), .val (.ref b1_5), .val (.int (1 : Int32))] [(.int (3 : Int32))])) t
      refine XS.ifNo X5.here hx rfl (hb hby at_84) rfl ((if0 _ _).trans (tlt (by decide : (0 : Int32) < (3 : Int32))).2.2.2) ?_
      show Steps p.tables e below (T5.setTop (mkF m 87 #[.val (.int p0), .val (.int p1), .val (.int p2), .val (.int p3), .val (.int p4), .val (.int wd), .val (.int (3 : Int32)), .val (.ref b1), .val (.ref b1_5), .val (.int (1 : Int32))] [])) t
      refine XS.iload X5.here hx rfl (hb hby at_87) rfl ?_
      show Steps p.tables e below (T5.setTop (mkF m 89 #[.val (.int p0), .val (.int p1), .val (.int p2), .val (.int p3), .val (.int p4), .val (.int wd), .val (.int (3 : Int32)), .val (.ref b1), .val (.ref b1_5), .val (.int (1 : Int32))] [(.int (1 : Int32))])) t
      refine XS.ifNo X5.here hx rfl (hb hby at_89) rfl ((if0 _ _).trans (feq (by decide : ¬ ((1 : Int32) = (0 : Int32)))).1) ?_
      show Steps p.tables e below (T5.setTop (mkF m 92 #[.val (.int p0), .val (.int p1), .val (.int p2), .val (.int p3), .val (.int p4), .val (.int wd), .val (.int (3 : Int32)), .val (.ref b1), .val (.ref b1_5), .val (.int (1 : Int32))] [])) t
      refine XS.aload X5.here hx rfl (hb hby at_92) rfl rfl ?_
      show Steps p.tables e below (T5.setTop (mkF m 94 #[.val (.int p0), .val (.int p1), .val (.int p2), .val (.int p3), .val (.int p4), .val (.int wd), .val (.int (3 : Int32)), .val (.ref b1), .val (.ref b1_5), .val (.int (1 : Int32))] [(.ref b1_5)])) t
      refine XS.iconst X5.here hx rfl (hb hby at_94) ?_
      show Steps p.tables e below (T5.setTop (mkF m 95 #[.val (.int p0), .val (.int p1), .val (.int p2), .val (.int p3), .val (.int p4), .val (.int wd), .val (.int (3 : Int32)), .val (.ref b1), .val (.ref b1_5), .val (.int (1 : Int32))] [(.int (0 : Int32)), (.ref b1_5)])) t
      refine XS.iload X5.here hx rfl (hb hby at_95) rfl ?_
      show Steps p.tables e below (T5.setTop (mkF m 97 #[.val (.int p0), .val (.int p1), .val (.int p2), .val (.int p3), .val (.int p4), .val (.int wd), .val (.int (3 : Int32)), .val (.ref b1), .val (.ref b1_5), .val (.int (1 : Int32))] [(.int wd), (.int (0 : Int32)), (.ref b1_5)])) t
      refine st6 _ ?_
      show Steps p.tables e below (T6.setTop (mkF m 100 #[.val (.int p0), .val (.int p1), .val (.int p2), .val (.int p3), .val (.int p4), .val (.int wd), .val (.int (3 : Int32)), .val (.ref b1), .val (.ref b1_5), .val (.int (1 : Int32))] [(.int (own_f2_0 (0 : Int32) wd (own_g wd (own_upd (own_upd (own_upd (fun _ => (0 : Int32)) ((0 : Int32)).toNatClampNeg p2) ((1 : Int32)).toNatClampNeg p3) ((2 : Int32)).toNatClampNeg p4) (own_m wd (3 : Int32) (0 : Int32)))))])) t
      refine XS.iloadN X6.here hx rfl (hb hby at_100) rfl ?_
      show Steps p.tables e below (T6.setTop (mkF m 101 #[.val (.int p0), .val (.int p1), .val (.int p2), .val (.int p3), .val (.int p4), .val (.int wd), .val (.int (3 : Int32)), .val (.ref b1), .val (.ref b1_5), .val (.int (1 : Int32))] [(.int p2), (.int (own_f2_0 (0 : Int32) wd (own_g wd (own_upd (own_upd (own_upd (fun _ => (0 : Int32)) ((0 : Int32)).toNatClampNeg p2) ((1 : Int32)).toNatClampNeg p3) ((2 : Int32)).toNatClampNeg p4) (own_m wd (3 : Int32) (0 : Int32)))))])) t
      refine XS.iload X6.here hx rfl (hb hby at_101) rfl ?_
      show Steps p.tables e below (T6.setTop (mkF m 103 #[.val (.int p0), .val (.int p1), .val (.int p2), .val (.int p3), .val (.int p4), .val (.int wd), .val (.int (3 : Int32)), .val (.ref b1), .val (.ref b1_5), .val (.int (1 : Int32))] [(.int wd), (.int p2), (.int (own_f2_0 (0 : Int32) wd (own_g wd (own_upd (own_upd (own_upd (fun _ => (0 : Int32)) ((0 : Int32)).toNatClampNeg p2) ((1 : Int32)).toNatClampNeg p3) ((2 : Int32)).toNatClampNeg p4) (own_m wd (3 : Int32) (0 : Int32)))))])) t
      refine st7 _ ?_
      show Steps p.tables e below (T7.setTop (mkF m 106 #[.val (.int p0), .val (.int p1), .val (.int p2), .val (.int p3), .val (.int p4), .val (.int wd), .val (.int (3 : Int32)), .val (.ref b1), .val (.ref b1_5), .val (.int (1 : Int32))] [(.int (own_f3_0 p2 wd)), (.int (own_f2_0 (0 : Int32) wd (own_g wd (own_upd (own_upd (own_upd (fun _ => (0 : Int32)) ((0 : Int32)).toNatClampNeg p2) ((1 : Int32)).toNatClampNeg p3) ((2 : Int32)).toNatClampNeg p4) (own_m wd (3 : Int32) (0 : Int32)))))])) t
      exact k
    have j114 : ∀ (T : State) (Lc : List Loc) (X : Stand p l e room_1 s m #[(.int p0), (.int p1), (.int p2), (.int p3), (.int p4)] below meth c T Lc 2 15) (t114_0 : Int32) (eT : T.heap = h5) (N : Fr n0 Lc), Owe p e below s 16 128 (QL (.int (own_f0c3_114 p2 p3 p4 t114_0 wd)) n0) T (mkF m 114 #[.val (.int p0), .val (.int p1), .val (.int p2), .val (.int p3), .val (.int p4), .val (.int wd), .val (.int (3 : Int32)), .val (.ref b1), .val (.ref b1_5), .val (.int (1 : Int32))] [(.int t114_0)]) := by
      intro T114j Lc114j X114j t114_0 e114j N114j
      refine Owe.step (T' := T114j) (g' := (mkF m 124 #[.val (.int p0), .val (.int p1), .val (.int p2), .val (.int p3), .val (.int p4), .val (.int wd), .val (.int (3 : Int32)), .val (.ref b1), .val (.ref b1_5), .val (.int t114_0)] [(.int t114_0)])) (fun t k => ?_) ?_
      · show Steps p.tables e below (T114j.setTop (mkF m 114 #[.val (.int p0), .val (.int p1), .val (.int p2), .val (.int p3), .val (.int p4), .val (.int wd), .val (.int (3 : Int32)), .val (.ref b1), .val (.ref b1_5), .val (.int (1 : Int32))] [(.int t114_0)])) t
        refine XS.istore X114j.here hx rfl (hb hby at_114) rfl (l' := #[.val (.int p0), .val (.int p1), .val (.int p2), .val (.int p3), .val (.int p4), .val (.int wd), .val (.int (3 : Int32)), .val (.ref b1), .val (.ref b1_5), .val (.int t114_0)]) rfl ?_
        show Steps p.tables e below (T114j.setTop (mkF m 116 #[.val (.int p0), .val (.int p1), .val (.int p2), .val (.int p3), .val (.int p4), .val (.int wd), .val (.int (3 : Int32)), .val (.ref b1), .val (.ref b1_5), .val (.int t114_0)] [])) t
        refine XS.iload X114j.here hx rfl (hb hby at_116) rfl ?_
        show Steps p.tables e below (T114j.setTop (mkF m 118 #[.val (.int p0), .val (.int p1), .val (.int p2), .val (.int p3), .val (.int p4), .val (.int wd), .val (.int (3 : Int32)), .val (.ref b1), .val (.ref b1_5), .val (.int t114_0)] [(.int (3 : Int32))])) t
        refine XS.iconst X114j.here hx rfl (hb hby at_118) ?_
        show Steps p.tables e below (T114j.setTop (mkF m 119 #[.val (.int p0), .val (.int p1), .val (.int p2), .val (.int p3), .val (.int p4), .val (.int wd), .val (.int (3 : Int32)), .val (.ref b1), .val (.ref b1_5), .val (.int t114_0)] [(.int (1 : Int32)), (.int (3 : Int32))])) t
        refine XS.icmpNo X114j.here hx rfl (hb hby at_119) rfl (tlt (by decide : (1 : Int32) < (3 : Int32))).2.2.2 ?_
        show Steps p.tables e below (T114j.setTop (mkF m 122 #[.val (.int p0), .val (.int p1), .val (.int p2), .val (.int p3), .val (.int p4), .val (.int wd), .val (.int (3 : Int32)), .val (.ref b1), .val (.ref b1_5), .val (.int t114_0)] [])) t
        refine XS.iload X114j.here hx rfl (hb hby at_122) rfl ?_
        show Steps p.tables e below (T114j.setTop (mkF m 124 #[.val (.int p0), .val (.int p1), .val (.int p2), .val (.int p3), .val (.int p4), .val (.int wd), .val (.int (3 : Int32)), .val (.ref b1), .val (.ref b1_5), .val (.int t114_0)] [(.int t114_0)])) t
        exact k
      have j150 : ∀ (T : State) (Lc : List Loc) (X : Stand p l e room_1 s m #[(.int p0), (.int p1), (.int p2), (.int p3), (.int p4)] below meth c T Lc 2 15) (t150_0 : Int32) (eT : T.heap = h5) (N : Fr n0 Lc), Owe p e below s 16 128 (QL (.int (own_f0c3_150 p2 p3 p4 t150_0 wd)) n0) T (mkF m 150 #[.val (.int p0), .val (.int p1), .val (.int p2), .val (.int p3), .val (.int p4), .val (.int wd), .val (.int (3 : Int32)), .val (.ref b1), .val (.ref b1_5), .val (.int t114_0)] [(.int t150_0)]) := by
        intro T150j Lc150j X150j t150_0 e150j N150j
        refine Owe.step (T' := T150j) (g' := (mkF m 160 #[.val (.int p0), .val (.int p1), .val (.int p2), .val (.int p3), .val (.int p4), .val (.int wd), .val (.int (3 : Int32)), .val (.ref b1), .val (.ref b1_5), .val (.int t150_0)] [(.int t150_0)])) (fun t k => ?_) ?_
        · show Steps p.tables e below (T150j.setTop (mkF m 150 #[.val (.int p0), .val (.int p1), .val (.int p2), .val (.int p3), .val (.int p4), .val (.int wd), .val (.int (3 : Int32)), .val (.ref b1), .val (.ref b1_5), .val (.int t114_0)] [(.int t150_0)])) t
          refine XS.istore X150j.here hx rfl (hb hby at_150) rfl (l' := #[.val (.int p0), .val (.int p1), .val (.int p2), .val (.int p3), .val (.int p4), .val (.int wd), .val (.int (3 : Int32)), .val (.ref b1), .val (.ref b1_5), .val (.int t150_0)]) rfl ?_
          show Steps p.tables e below (T150j.setTop (mkF m 152 #[.val (.int p0), .val (.int p1), .val (.int p2), .val (.int p3), .val (.int p4), .val (.int wd), .val (.int (3 : Int32)), .val (.ref b1), .val (.ref b1_5), .val (.int t150_0)] [])) t
          refine XS.iload X150j.here hx rfl (hb hby at_152) rfl ?_
          show Steps p.tables e below (T150j.setTop (mkF m 154 #[.val (.int p0), .val (.int p1), .val (.int p2), .val (.int p3), .val (.int p4), .val (.int wd), .val (.int (3 : Int32)), .val (.ref b1), .val (.ref b1_5), .val (.int t150_0)] [(.int (3 : Int32))])) t
          refine XS.iconst X150j.here hx rfl (hb hby at_154) ?_
          show Steps p.tables e below (T150j.setTop (mkF m 155 #[.val (.int p0), .val (.int p1), .val (.int p2), .val (.int p3), .val (.int p4), .val (.int wd), .val (.int (3 : Int32)), .val (.ref b1), .val (.ref b1_5), .val (.int t150_0)] [(.int (2 : Int32)), (.int (3 : Int32))])) t
          refine XS.icmpNo X150j.here hx rfl (hb hby at_155) rfl (tlt (by decide : (2 : Int32) < (3 : Int32))).2.2.2 ?_
          show Steps p.tables e below (T150j.setTop (mkF m 158 #[.val (.int p0), .val (.int p1), .val (.int p2), .val (.int p3), .val (.int p4), .val (.int wd), .val (.int (3 : Int32)), .val (.ref b1), .val (.ref b1_5), .val (.int t150_0)] [])) t
          refine XS.iload X150j.here hx rfl (hb hby at_158) rfl ?_
          show Steps p.tables e below (T150j.setTop (mkF m 160 #[.val (.int p0), .val (.int p1), .val (.int p2), .val (.int p3), .val (.int p4), .val (.int wd), .val (.int (3 : Int32)), .val (.ref b1), .val (.ref b1_5), .val (.int t150_0)] [(.int t150_0)])) t
          exact k
        by_cases hc160 : t150_0 = (0 : Int32)
        · refine Owe.step (T' := T150j) (g' := (mkF m 188 #[.val (.int p0), .val (.int p1), .val (.int p2), .val (.int p3), .val (.int p4), .val (.int wd), .val (.int (3 : Int32)), .val (.ref b1), .val (.ref b1_5), .val (.int t150_0)] [])) (fun t k => ?_) ?_
          · show Steps p.tables e below (T150j.setTop (mkF m 160 #[.val (.int p0), .val (.int p1), .val (.int p2), .val (.int p3), .val (.int p4), .val (.int wd), .val (.int (3 : Int32)), .val (.ref b1), .val (.ref b1_5), .val (.int t150_0)] [(.int t150_0)])) t
            refine XS.ifYes X150j.here hx rfl (pc0 := 160) (pc' := 188) rfl (hb hby at_160) rfl ((if0 _ _).trans (teq hc160).1) (by decide) (by decide) ?_
            show Steps p.tables e below (T150j.setTop (mkF m 188 #[.val (.int p0), .val (.int p1), .val (.int p2), .val (.int p3), .val (.int p4), .val (.int wd), .val (.int (3 : Int32)), .val (.ref b1), .val (.ref b1_5), .val (.int t150_0)] [])) t
            exact k
          rw [show own_f0c3_150 p2 p3 p4 t150_0 wd = (0 : Int32) from (by rw [own_f0c3_150, if_pos hc160])]
          refine Owe.ret X150j Bd.notSynchronized (v := (some (.int (0 : Int32)))) (fun h => by rw [Bd.returns] at h; cases h) (fun fs hr => ?_) ⟨rfl, N150j⟩ (by decide) (by decide)
          show Steps p.tables e below (T150j.setTop (mkF m 188 #[.val (.int p0), .val (.int p1), .val (.int p2), .val (.int p3), .val (.int p4), .val (.int wd), .val (.int (3 : Int32)), .val (.ref b1), .val (.ref b1_5), .val (.int t150_0)] [])) _
          refine XS.iconst X150j.here hx rfl (hb hby at_188) ?_
          show Steps p.tables e below (T150j.setTop (mkF m 189 #[.val (.int p0), .val (.int p1), .val (.int p2), .val (.int p3), .val (.int p4), .val (.int wd), .val (.int (3 : Int32)), .val (.ref b1), .val (.ref b1_5), .val (.int t150_0)] [(.int (0 : Int32))])) _
          refine XS.istore X150j.here hx rfl (hb hby at_189) rfl (l' := #[.val (.int p0), .val (.int p1), .val (.int p2), .val (.int p3), .val (.int p4), .val (.int wd), .val (.int (3 : Int32)), .val (.ref b1), .val (.ref b1_5), .val (.int (0 : Int32))]) rfl ?_
          show Steps p.tables e below (T150j.setTop (mkF m 191 #[.val (.int p0), .val (.int p1), .val (.int p2), .val (.int p3), .val (.int p4), .val (.int wd), .val (.int (3 : Int32)), .val (.ref b1), .val (.ref b1_5), .val (.int (0 : Int32))] [])) _
          refine XS.iload X150j.here hx rfl (hb hby at_191) rfl ?_
          show Steps p.tables e below (T150j.setTop (mkF m 193 #[.val (.int p0), .val (.int p1), .val (.int p2), .val (.int p3), .val (.int p4), .val (.int wd), .val (.int (3 : Int32)), .val (.ref b1), .val (.ref b1_5), .val (.int (0 : Int32))] [(.int (0 : Int32))])) _
          exact retN X150j hx (t := .boolean) Bd.returns (by simp) (hb hby at_193) hr
        · refine Owe.step (T' := T150j) (g' := (mkF m 163 #[.val (.int p0), .val (.int p1), .val (.int p2), .val (.int p3), .val (.int p4), .val (.int wd), .val (.int (3 : Int32)), .val (.ref b1), .val (.ref b1_5), .val (.int t150_0)] [])) (fun t k => ?_) ?_
          · show Steps p.tables e below (T150j.setTop (mkF m 160 #[.val (.int p0), .val (.int p1), .val (.int p2), .val (.int p3), .val (.int p4), .val (.int wd), .val (.int (3 : Int32)), .val (.ref b1), .val (.ref b1_5), .val (.int t150_0)] [(.int t150_0)])) t
            refine XS.ifNo X150j.here hx rfl (hb hby at_160) rfl ((if0 _ _).trans (feq hc160).1) ?_
            show Steps p.tables e below (T150j.setTop (mkF m 163 #[.val (.int p0), .val (.int p1), .val (.int p2), .val (.int p3), .val (.int p4), .val (.int wd), .val (.int (3 : Int32)), .val (.ref b1), .val (.ref b1_5), .val (.int t150_0)] [])) t
            exact k
          obtain ⟨_, _, ⟨T8, L8, k8, n8⟩, -, X8, ⟨Lc8, hQ8, l8, y8, z8⟩, st8⟩ := Jvm.LawKit.callS X150j hx (y := (⟨"com/example/rasterline/rasterline/formats/png/KnownChunkPackedPinLaw", "read", "([BII)I"⟩ : MethodName)) hown (mvT hZ (hw _ (List.mem_of_getElem? (i := 7) rfl))) (mvT hZ (hw _ (List.mem_of_getElem? (i := 8) rfl))) (mvT hZ (hw _ (List.mem_of_getElem? (i := 9) rfl))) (mvT hZ (hw _ (List.mem_of_getElem? (i := 10) rfl))) (by decide) (backOf (W := 0) (own_rm2 l Z aA hw [] b1_5 ((2 : Int32) * wd) wd (wd * (3 : Int32)).toNatClampNeg (own_g wd (own_upd (own_upd (own_upd (fun _ => (0 : Int32)) ((0 : Int32)).toNatClampNeg p2) ((1 : Int32)).toNatClampNeg p3) ((2 : Int32)).toNatClampNeg p4) (own_m wd (3 : Int32) (0 : Int32))) h5 n0 Zn5 G5_0 (own_rd2 H_wd (by decide) (by decide))) hZ (hw _ (List.mem_of_getElem? (i := 10) rfl)) (hw _ (List.mem_of_getElem? (i := 9) rfl)) (by decide) (by decide)) (g := (mkF m 171 #[.val (.int p0), .val (.int p1), .val (.int p2), .val (.int p3), .val (.int p4), .val (.int wd), .val (.int (3 : Int32)), .val (.ref b1), .val (.ref b1_5), .val (.int t150_0)] [(.int wd), (.int ((2 : Int32) * wd)), (.ref b1_5)])) rfl (by rw [hml]; rfl) (argsL := [(.ref b1_5), (.int ((2 : Int32) * wd)), (.int wd)]) (rest := []) (lenOf own_pd1 rfl) rfl (by show 2 * 0 + _ ≤ _; exact Nat.le_of_eq rfl) (hb hby at_171) (fun _ _ => ⟨rfl, e150j, (by decide : 2 + 0 ≤ _), (by decide : 15 + 0 ≤ _)⟩)
          dsimp only [Pt.U, Pt.locs, Pt.cells, Pt.slots] at X8 l8 y8 z8 st8 hQ8
          subst y8 z8
          obtain ⟨rfl, N8q, e8⟩ := hQ8
          have N8 : Fr n0 L8 := by rw [l8]; exact Fr.app N150j N8q
          obtain ⟨_, _, ⟨T9, L9, k9, n9⟩, -, X9, ⟨Lc9, hQ9, l9, y9, z9⟩, st9⟩ := Jvm.LawKit.callS X8 hx (y := (⟨"com/example/rasterline/rasterline/formats/png/KnownChunkPackedPinLaw", "low", "(II)I"⟩ : MethodName)) hown (mvT hZ (hw _ (List.mem_of_getElem? (i := 11) rfl))) (mvT hZ (hw _ (List.mem_of_getElem? (i := 12) rfl))) (mvT hZ (hw _ (List.mem_of_getElem? (i := 9) rfl))) (mvT hZ (hw _ (List.mem_of_getElem? (i := 13) rfl))) (by decide) (backOf (W := 1) (own_rm3 l Z aA hw [] p4 wd h5 n0 Zn5 ) hZ (hw _ (List.mem_of_getElem? (i := 13) rfl)) (hw _ (List.mem_of_getElem? (i := 9) rfl)) (by decide) (by decide)) (g := (mkF m 178 #[.val (.int p0), .val (.int p1), .val (.int p2), .val (.int p3), .val (.int p4), .val (.int wd), .val (.int (3 : Int32)), .val (.ref b1), .val (.ref b1_5), .val (.int t150_0)] [(.int wd), (.int p4), (.int (own_f2_0 ((2 : Int32) * wd) wd (own_g wd (own_upd (own_upd (own_upd (fun _ => (0 : Int32)) ((0 : Int32)).toNatClampNeg p2) ((1 : Int32)).toNatClampNeg p3) ((2 : Int32)).toNatClampNeg p4) (own_m wd (3 : Int32) (0 : Int32)))))])) rfl (by rw [hml]; rfl) (argsL := [(.int p4), (.int wd)]) (rest := [(.int (own_f2_0 ((2 : Int32) * wd) wd (own_g wd (own_upd (own_upd (own_upd (fun _ => (0 : Int32)) ((0 : Int32)).toNatClampNeg p2) ((1 : Int32)).toNatClampNeg p3) ((2 : Int32)).toNatClampNeg p4) (own_m wd (3 : Int32) (0 : Int32)))))]) (lenOf own_pd2 rfl) rfl (by show 2 * 0 + _ ≤ _; exact Nat.le_of_eq rfl) (hb hby at_178) (fun _ _ => ⟨rfl, e8, (by decide : 2 + 0 ≤ _), (by decide : 15 + 0 ≤ _)⟩)
          dsimp only [Pt.U, Pt.locs, Pt.cells, Pt.slots] at X9 l9 y9 z9 st9 hQ9
          subst y9 z9
          obtain ⟨rfl, N9q, e9⟩ := hQ9
          have N9 : Fr n0 L9 := by rw [l9]; exact Fr.app N8 N9q
          refine Owe.step (T' := T9) (g' := (mkF m 181 #[.val (.int p0), .val (.int p1), .val (.int p2), .val (.int p3), .val (.int p4), .val (.int wd), .val (.int (3 : Int32)), .val (.ref b1), .val (.ref b1_5), .val (.int t150_0)] [(.int (own_f3_0 p4 wd)), (.int (own_f2_0 ((2 : Int32) * wd) wd (own_g wd (own_upd (own_upd (own_upd (fun _ => (0 : Int32)) ((0 : Int32)).toNatClampNeg p2) ((1 : Int32)).toNatClampNeg p3) ((2 : Int32)).toNatClampNeg p4) (own_m wd (3 : Int32) (0 : Int32)))))])) (fun t k => ?_) ?_
          · show Steps p.tables e below (T150j.setTop (mkF m 163 #[.val (.int p0), .val (.int p1), .val (.int p2), .val (.int p3), .val (.int p4), .val (.int wd), .val (.int (3 : Int32)), .val (.ref b1), .val (.ref b1_5), .val (.int t150_0)] [])) t
            refine XS.aload X150j.here hx rfl (hb hby at_163) rfl rfl ?_
            show Steps p.tables e below (T150j.setTop (mkF m 165 #[.val (.int p0), .val (.int p1), .val (.int p2), .val (.int p3), .val (.int p4), .val (.int wd), .val (.int (3 : Int32)), .val (.ref b1), .val (.ref b1_5), .val (.int t150_0)] [(.ref b1_5)])) t
            refine XS.iconst X150j.here hx rfl (hb hby at_165) ?_
            show Steps p.tables e below (T150j.setTop (mkF m 166 #[.val (.int p0), .val (.int p1), .val (.int p2), .val (.int p3), .val (.int p4), .val (.int wd), .val (.int (3 : Int32)), .val (.ref b1), .val (.ref b1_5), .val (.int t150_0)] [(.int (2 : Int32)), (.ref b1_5)])) t
            refine XS.iload X150j.here hx rfl (hb hby at_166) rfl ?_
            show Steps p.tables e below (T150j.setTop (mkF m 168 #[.val (.int p0), .val (.int p1), .val (.int p2), .val (.int p3), .val (.int p4), .val (.int wd), .val (.int (3 : Int32)), .val (.ref b1), .val (.ref b1_5), .val (.int t150_0)] [(.int wd), (.int (2 : Int32)), (.ref b1_5)])) t
            refine XS.imul X150j.here hx rfl (hb hby at_168) rfl ?_
            show Steps p.tables e below (T150j.setTop (mkF m 169 #[.val (.int p0), .val (.int p1), .val (.int p2), .val (.int p3), .val (.int p4), .val (.int wd), .val (.int (3 : Int32)), .val (.ref b1), .val (.ref b1_5), .val (.int t150_0)] [(.int ((2 : Int32) * wd)), (.ref b1_5)])) t
            refine XS.iload X150j.here hx rfl (hb hby at_169) rfl ?_
            show Steps p.tables e below (T150j.setTop (mkF m 171 #[.val (.int p0), .val (.int p1), .val (.int p2), .val (.int p3), .val (.int p4), .val (.int wd), .val (.int (3 : Int32)), .val (.ref b1), .val (.ref b1_5), .val (.int t150_0)] [(.int wd), (.int ((2 : Int32) * wd)), (.ref b1_5)])) t
            refine st8 _ ?_
            show Steps p.tables e below (T8.setTop (mkF m 174 #[.val (.int p0), .val (.int p1), .val (.int p2), .val (.int p3), .val (.int p4), .val (.int wd), .val (.int (3 : Int32)), .val (.ref b1), .val (.ref b1_5), .val (.int t150_0)] [(.int (own_f2_0 ((2 : Int32) * wd) wd (own_g wd (own_upd (own_upd (own_upd (fun _ => (0 : Int32)) ((0 : Int32)).toNatClampNeg p2) ((1 : Int32)).toNatClampNeg p3) ((2 : Int32)).toNatClampNeg p4) (own_m wd (3 : Int32) (0 : Int32)))))])) t
            refine XS.iload X8.here hx rfl (hb hby at_174) rfl ?_
            show Steps p.tables e below (T8.setTop (mkF m 176 #[.val (.int p0), .val (.int p1), .val (.int p2), .val (.int p3), .val (.int p4), .val (.int wd), .val (.int (3 : Int32)), .val (.ref b1), .val (.ref b1_5), .val (.int t150_0)] [(.int p4), (.int (own_f2_0 ((2 : Int32) * wd) wd (own_g wd (own_upd (own_upd (own_upd (fun _ => (0 : Int32)) ((0 : Int32)).toNatClampNeg p2) ((1 : Int32)).toNatClampNeg p3) ((2 : Int32)).toNatClampNeg p4) (own_m wd (3 : Int32) (0 : Int32)))))])) t
            refine XS.iload X8.here hx rfl (hb hby at_176) rfl ?_
            show Steps p.tables e below (T8.setTop (mkF m 178 #[.val (.int p0), .val (.int p1), .val (.int p2), .val (.int p3), .val (.int p4), .val (.int wd), .val (.int (3 : Int32)), .val (.ref b1), .val (.ref b1_5), .val (.int t150_0)] [(.int wd), (.int p4), (.int (own_f2_0 ((2 : Int32) * wd) wd (own_g wd (own_upd (own_upd (own_upd (fun _ => (0 : Int32)) ((0 : Int32)).toNatClampNeg p2) ((1 : Int32)).toNatClampNeg p3) ((2 : Int32)).toNatClampNeg p4) (own_m wd (3 : Int32) (0 : Int32)))))])) t
            refine st9 _ ?_
            show Steps p.tables e below (T9.setTop (mkF m 181 #[.val (.int p0), .val (.int p1), .val (.int p2), .val (.int p3), .val (.int p4), .val (.int wd), .val (.int (3 : Int32)), .val (.ref b1), .val (.ref b1_5), .val (.int t150_0)] [(.int (own_f3_0 p4 wd)), (.int (own_f2_0 ((2 : Int32) * wd) wd (own_g wd (own_upd (own_upd (own_upd (fun _ => (0 : Int32)) ((0 : Int32)).toNatClampNeg p2) ((1 : Int32)).toNatClampNeg p3) ((2 : Int32)).toNatClampNeg p4) (own_m wd (3 : Int32) (0 : Int32)))))])) t
            exact k
          by_cases hc181 : (own_f2_0 ((2 : Int32) * wd) wd (own_g wd (own_upd (own_upd (own_upd (fun _ => (0 : Int32)) ((0 : Int32)).toNatClampNeg p2) ((1 : Int32)).toNatClampNeg p3) ((2 : Int32)).toNatClampNeg p4) (own_m wd (3 : Int32) (0 : Int32)))) = (own_f3_0 p4 wd)
          · refine Owe.step (T' := T9) (g' := (mkF m 184 #[.val (.int p0), .val (.int p1), .val (.int p2), .val (.int p3), .val (.int p4), .val (.int wd), .val (.int (3 : Int32)), .val (.ref b1), .val (.ref b1_5), .val (.int t150_0)] [])) (fun t k => ?_) ?_
            · show Steps p.tables e below (T9.setTop (mkF m 181 #[.val (.int p0), .val (.int p1), .val (.int p2), .val (.int p3), .val (.int p4), .val (.int wd), .val (.int (3 : Int32)), .val (.ref b1), .val (.ref b1_5), .val (.int t150_0)] [(.int (own_f3_0 p4 wd)), (.int (own_f2_0 ((2 : Int32) * wd) wd (own_g wd (own_upd (own_upd (own_upd (fun _ => (0 : Int32)) ((0 : Int32)).toNatClampNeg p2) ((1 : Int32)).toNatClampNeg p3) ((2 : Int32)).toNatClampNeg p4) (own_m wd (3 : Int32) (0 : Int32)))))])) t
              refine XS.icmpNo X9.here hx rfl (hb hby at_181) rfl (teq hc181).2 ?_
              show Steps p.tables e below (T9.setTop (mkF m 184 #[.val (.int p0), .val (.int p1), .val (.int p2), .val (.int p3), .val (.int p4), .val (.int wd), .val (.int (3 : Int32)), .val (.ref b1), .val (.ref b1_5), .val (.int t150_0)] [])) t
              exact k
            rw [show own_f0c3_150 p2 p3 p4 t150_0 wd = (1 : Int32) from (by rw [own_f0c3_150, if_neg hc160, if_pos hc181])]
            refine Owe.ret X9 Bd.notSynchronized (v := (some (.int (1 : Int32)))) (fun h => by rw [Bd.returns] at h; cases h) (fun fs hr => ?_) ⟨rfl, N9⟩ (by decide) (by decide)
            show Steps p.tables e below (T9.setTop (mkF m 184 #[.val (.int p0), .val (.int p1), .val (.int p2), .val (.int p3), .val (.int p4), .val (.int wd), .val (.int (3 : Int32)), .val (.ref b1), .val (.ref b1_5), .val (.int t150_0)] [])) _
            refine XS.iconst X9.here hx rfl (hb hby at_184) ?_
            show Steps p.tables e below (T9.setTop (mkF m 185 #[.val (.int p0), .val (.int p1), .val (.int p2), .val (.int p3), .val (.int p4), .val (.int wd), .val (.int (3 : Int32)), .val (.ref b1), .val (.ref b1_5), .val (.int t150_0)] [(.int (1 : Int32))])) _
            refine XS.goto X9.here hx rfl (pc0 := 185) (pc' := 189) rfl (hb hby at_185) (by decide) (by decide) ?_
            show Steps p.tables e below (T9.setTop (mkF m 189 #[.val (.int p0), .val (.int p1), .val (.int p2), .val (.int p3), .val (.int p4), .val (.int wd), .val (.int (3 : Int32)), .val (.ref b1), .val (.ref b1_5), .val (.int t150_0)] [(.int (1 : Int32))])) _
            refine XS.istore X9.here hx rfl (hb hby at_189) rfl (l' := #[.val (.int p0), .val (.int p1), .val (.int p2), .val (.int p3), .val (.int p4), .val (.int wd), .val (.int (3 : Int32)), .val (.ref b1), .val (.ref b1_5), .val (.int (1 : Int32))]) rfl ?_
            show Steps p.tables e below (T9.setTop (mkF m 191 #[.val (.int p0), .val (.int p1), .val (.int p2), .val (.int p3), .val (.int p4), .val (.int wd), .val (.int (3 : Int32)), .val (.ref b1), .val (.ref b1_5), .val (.int (1 : Int32))] [])) _
            refine XS.iload X9.here hx rfl (hb hby at_191) rfl ?_
            show Steps p.tables e below (T9.setTop (mkF m 193 #[.val (.int p0), .val (.int p1), .val (.int p2), .val (.int p3), .val (.int p4), .val (.int wd), .val (.int (3 : Int32)), .val (.ref b1), .val (.ref b1_5), .val (.int (1 : Int32))] [(.int (1 : Int32))])) _
            exact retN X9 hx (t := .boolean) Bd.returns (by simp) (hb hby at_193) hr
          · refine Owe.step (T' := T9) (g' := (mkF m 188 #[.val (.int p0), .val (.int p1), .val (.int p2), .val (.int p3), .val (.int p4), .val (.int wd), .val (.int (3 : Int32)), .val (.ref b1), .val (.ref b1_5), .val (.int t150_0)] [])) (fun t k => ?_) ?_
            · show Steps p.tables e below (T9.setTop (mkF m 181 #[.val (.int p0), .val (.int p1), .val (.int p2), .val (.int p3), .val (.int p4), .val (.int wd), .val (.int (3 : Int32)), .val (.ref b1), .val (.ref b1_5), .val (.int t150_0)] [(.int (own_f3_0 p4 wd)), (.int (own_f2_0 ((2 : Int32) * wd) wd (own_g wd (own_upd (own_upd (own_upd (fun _ => (0 : Int32)) ((0 : Int32)).toNatClampNeg p2) ((1 : Int32)).toNatClampNeg p3) ((2 : Int32)).toNatClampNeg p4) (own_m wd (3 : Int32) (0 : Int32)))))])) t
              refine XS.icmpYes X9.here hx rfl (pc0 := 181) (pc' := 188) rfl (hb hby at_181) rfl (feq hc181).2 (by decide) (by decide) ?_
              show Steps p.tables e below (T9.setTop (mkF m 188 #[.val (.int p0), .val (.int p1), .val (.int p2), .val (.int p3), .val (.int p4), .val (.int wd), .val (.int (3 : Int32)), .val (.ref b1), .val (.ref b1_5), .val (.int t150_0)] [])) t
              exact k
            rw [show own_f0c3_150 p2 p3 p4 t150_0 wd = (0 : Int32) from (by rw [own_f0c3_150, if_neg hc160, if_neg hc181])]
            refine Owe.ret X9 Bd.notSynchronized (v := (some (.int (0 : Int32)))) (fun h => by rw [Bd.returns] at h; cases h) (fun fs hr => ?_) ⟨rfl, N9⟩ (by decide) (by decide)
            show Steps p.tables e below (T9.setTop (mkF m 188 #[.val (.int p0), .val (.int p1), .val (.int p2), .val (.int p3), .val (.int p4), .val (.int wd), .val (.int (3 : Int32)), .val (.ref b1), .val (.ref b1_5), .val (.int t150_0)] [])) _
            refine XS.iconst X9.here hx rfl (hb hby at_188) ?_
            show Steps p.tables e below (T9.setTop (mkF m 189 #[.val (.int p0), .val (.int p1), .val (.int p2), .val (.int p3), .val (.int p4), .val (.int wd), .val (.int (3 : Int32)), .val (.ref b1), .val (.ref b1_5), .val (.int t150_0)] [(.int (0 : Int32))])) _
            refine XS.istore X9.here hx rfl (hb hby at_189) rfl (l' := #[.val (.int p0), .val (.int p1), .val (.int p2), .val (.int p3), .val (.int p4), .val (.int wd), .val (.int (3 : Int32)), .val (.ref b1), .val (.ref b1_5), .val (.int (0 : Int32))]) rfl ?_
            show Steps p.tables e below (T9.setTop (mkF m 191 #[.val (.int p0), .val (.int p1), .val (.int p2), .val (.int p3), .val (.int p4), .val (.int wd), .val (.int (3 : Int32)), .val (.ref b1), .val (.ref b1_5), .val (.int (0 : Int32))] [])) _
            refine XS.iload X9.here hx rfl (hb hby at_191) rfl ?_
            show Steps p.tables e below (T9.setTop (mkF m 193 #[.val (.int p0), .val (.int p1), .val (.int p2), .val (.int p3), .val (.int p4), .val (.int wd), .val (.int (3 : Int32)), .val (.ref b1), .val (.ref b1_5), .val (.int (0 : Int32))] [(.int (0 : Int32))])) _
            exact retN X9 hx (t := .boolean) Bd.returns (by simp) (hb hby at_193) hr
      have j149 : ∀ (T : State) (Lc : List Loc) (X : Stand p l e room_1 s m #[(.int p0), (.int p1), (.int p2), (.int p3), (.int p4)] below meth c T Lc 2 15) (eT : T.heap = h5) (N : Fr n0 Lc), Owe p e below s 16 128 (QL (.int (own_f0c3_149 p2 p3 p4 wd)) n0) T (mkF m 149 #[.val (.int p0), .val (.int p1), .val (.int p2), .val (.int p3), .val (.int p4), .val (.int wd), .val (.int (3 : Int32)), .val (.ref b1), .val (.ref b1_5), .val (.int t114_0)] []) := by
        intro T149j Lc149j X149j e149j N149j
        refine Owe.step (T' := T149j) (g' := (mkF m 150 #[.val (.int p0), .val (.int p1), .val (.int p2), .val (.int p3), .val (.int p4), .val (.int wd), .val (.int (3 : Int32)), .val (.ref b1), .val (.ref b1_5), .val (.int t114_0)] [(.int (0 : Int32))])) (fun t k => ?_) ?_
        · show Steps p.tables e below (T149j.setTop (mkF m 149 #[.val (.int p0), .val (.int p1), .val (.int p2), .val (.int p3), .val (.int p4), .val (.int wd), .val (.int (3 : Int32)), .val (.ref b1), .val (.ref b1_5), .val (.int t114_0)] [])) t
          refine XS.iconst X149j.here hx rfl (hb hby at_149) ?_
          show Steps p.tables e below (T149j.setTop (mkF m 150 #[.val (.int p0), .val (.int p1), .val (.int p2), .val (.int p3), .val (.int p4), .val (.int wd), .val (.int (3 : Int32)), .val (.ref b1), .val (.ref b1_5), .val (.int t114_0)] [(.int (0 : Int32))])) t
          exact k
        rw [show own_f0c3_149 p2 p3 p4 wd = (own_f0c3_150 p2 p3 p4 (0 : Int32) wd) from rfl]
        exact j150 T149j _ X149j (0 : Int32) e149j N149j
      by_cases hc124 : t114_0 = (0 : Int32)
      · refine Owe.step (T' := T114j) (g' := (mkF m 149 #[.val (.int p0), .val (.int p1), .val (.int p2), .val (.int p3), .val (.int p4), .val (.int wd), .val (.int (3 : Int32)), .val (.ref b1), .val (.ref b1_5), .val (.int t114_0)] [])) (fun t k => ?_) ?_
        · show Steps p.tables e below (T114j.setTop (mkF m 124 #[.val (.int p0), .val (.int p1), .val (.int p2), .val (.int p3), .val (.int p4), .val (.int wd), .val (.int (3 : Int32)), .val (.ref b1), .val (.ref b1_5), .val (.int t114_0)] [(.int t114_0)])) t
          refine XS.ifYes X114j.here hx rfl (pc0 := 124) (pc' := 149) rfl (hb hby at_124) rfl ((if0 _ _).trans (teq hc124).1) (by decide) (by decide) ?_
          show Steps p.tables e below (T114j.setTop (mkF m 149 #[.val (.int p0), .val (.int p1), .val (.int p2), .val (.int p3), .val (.int p4), .val (.int wd), .val (.int (3 : Int32)), .val (.ref b1), .val (.ref b1_5), .val (.int t114_0)] [])) t
          exact k
        rw [show own_f0c3_114 p2 p3 p4 t114_0 wd = (own_f0c3_149 p2 p3 p4 wd) from (by rw [own_f0c3_114, if_pos hc124])]
        exact j149 T114j _ X114j e114j N114j
      · refine Owe.step (T' := T114j) (g' := (mkF m 127 #[.val (.int p0), .val (.int p1), .val (.int p2), .val (.int p3), .val (.int p4), .val (.int wd), .val (.int (3 : Int32)), .val (.ref b1), .val (.ref b1_5), .val (.int t114_0)] [])) (fun t k => ?_) ?_
        · show Steps p.tables e below (T114j.setTop (mkF m 124 #[.val (.int p0), .val (.int p1), .val (.int p2), .val (.int p3), .val (.int p4), .val (.int wd), .val (.int (3 : Int32)), .val (.ref b1), .val (.ref b1_5), .val (.int t114_0)] [(.int t114_0)])) t
          refine XS.ifNo X114j.here hx rfl (hb hby at_124) rfl ((if0 _ _).trans (feq hc124).1) ?_
          show Steps p.tables e below (T114j.setTop (mkF m 127 #[.val (.int p0), .val (.int p1), .val (.int p2), .val (.int p3), .val (.int p4), .val (.int wd), .val (.int (3 : Int32)), .val (.ref b1), .val (.ref b1_5), .val (.int t114_0)] [])) t
          exact k
        obtain ⟨_, _, ⟨T10, L10, k10, n10⟩, -, X10, ⟨Lc10, hQ10, l10, y10, z10⟩, st10⟩ := Jvm.LawKit.callS X114j hx (y := (⟨"com/example/rasterline/rasterline/formats/png/KnownChunkPackedPinLaw", "read", "([BII)I"⟩ : MethodName)) hown (mvT hZ (hw _ (List.mem_of_getElem? (i := 7) rfl))) (mvT hZ (hw _ (List.mem_of_getElem? (i := 8) rfl))) (mvT hZ (hw _ (List.mem_of_getElem? (i := 9) rfl))) (mvT hZ (hw _ (List.mem_of_getElem? (i := 10) rfl))) (by decide) (backOf (W := 0) (own_rm2 l Z aA hw [] b1_5 wd wd (wd * (3 : Int32)).toNatClampNeg (own_g wd (own_upd (own_upd (own_upd (fun _ => (0 : Int32)) ((0 : Int32)).toNatClampNeg p2) ((1 : Int32)).toNatClampNeg p3) ((2 : Int32)).toNatClampNeg p4) (own_m wd (3 : Int32) (0 : Int32))) h5 n0 Zn5 G5_0 (own_rd1 H_wd (by decide) (by decide))) hZ (hw _ (List.mem_of_getElem? (i := 10) rfl)) (hw _ (List.mem_of_getElem? (i := 9) rfl)) (by decide) (by decide)) (g := (mkF m 133 #[.val (.int p0), .val (.int p1), .val (.int p2), .val (.int p3), .val (.int p4), .val (.int wd), .val (.int (3 : Int32)), .val (.ref b1), .val (.ref b1_5), .val (.int t114_0)] [(.int wd), (.int wd), (.ref b1_5)])) rfl (by rw [hml]; rfl) (argsL := [(.ref b1_5), (.int wd), (.int wd)]) (rest := []) (lenOf own_pd1 rfl) rfl (by show 2 * 0 + _ ≤ _; exact Nat.le_of_eq rfl) (hb hby at_133) (fun _ _ => ⟨rfl, e114j, (by decide : 2 + 0 ≤ _), (by decide : 15 + 0 ≤ _)⟩)
        dsimp only [Pt.U, Pt.locs, Pt.cells, Pt.slots] at X10 l10 y10 z10 st10 hQ10
        subst y10 z10
        obtain ⟨rfl, N10q, e10⟩ := hQ10
        have N10 : Fr n0 L10 := by rw [l10]; exact Fr.app N114j N10q
        obtain ⟨_, _, ⟨T11, L11, k11, n11⟩, -, X11, ⟨Lc11, hQ11, l11, y11, z11⟩, st11⟩ := Jvm.LawKit.callS X10 hx (y := (⟨"com/example/rasterline/rasterline/formats/png/KnownChunkPackedPinLaw", "low", "(II)I"⟩ : MethodName)) hown (mvT hZ (hw _ (List.mem_of_getElem? (i := 11) rfl))) (mvT hZ (hw _ (List.mem_of_getElem? (i := 12) rfl))) (mvT hZ (hw _ (List.mem_of_getElem? (i := 9) rfl))) (mvT hZ (hw _ (List.mem_of_getElem? (i := 13) rfl))) (by decide) (backOf (W := 1) (own_rm3 l Z aA hw [] p3 wd h5 n0 Zn5 ) hZ (hw _ (List.mem_of_getElem? (i := 13) rfl)) (hw _ (List.mem_of_getElem? (i := 9) rfl)) (by decide) (by decide)) (g := (mkF m 139 #[.val (.int p0), .val (.int p1), .val (.int p2), .val (.int p3), .val (.int p4), .val (.int wd), .val (.int (3 : Int32)), .val (.ref b1), .val (.ref b1_5), .val (.int t114_0)] [(.int wd), (.int p3), (.int (own_f2_0 wd wd (own_g wd (own_upd (own_upd (own_upd (fun _ => (0 : Int32)) ((0 : Int32)).toNatClampNeg p2) ((1 : Int32)).toNatClampNeg p3) ((2 : Int32)).toNatClampNeg p4) (own_m wd (3 : Int32) (0 : Int32)))))])) rfl (by rw [hml]; rfl) (argsL := [(.int p3), (.int wd)]) (rest := [(.int (own_f2_0 wd wd (own_g wd (own_upd (own_upd (own_upd (fun _ => (0 : Int32)) ((0 : Int32)).toNatClampNeg p2) ((1 : Int32)).toNatClampNeg p3) ((2 : Int32)).toNatClampNeg p4) (own_m wd (3 : Int32) (0 : Int32)))))]) (lenOf own_pd2 rfl) rfl (by show 2 * 0 + _ ≤ _; exact Nat.le_of_eq rfl) (hb hby at_139) (fun _ _ => ⟨rfl, e10, (by decide : 2 + 0 ≤ _), (by decide : 15 + 0 ≤ _)⟩)
        dsimp only [Pt.U, Pt.locs, Pt.cells, Pt.slots] at X11 l11 y11 z11 st11 hQ11
        subst y11 z11
        obtain ⟨rfl, N11q, e11⟩ := hQ11
        have N11 : Fr n0 L11 := by rw [l11]; exact Fr.app N10 N11q
        refine Owe.step (T' := T11) (g' := (mkF m 142 #[.val (.int p0), .val (.int p1), .val (.int p2), .val (.int p3), .val (.int p4), .val (.int wd), .val (.int (3 : Int32)), .val (.ref b1), .val (.ref b1_5), .val (.int t114_0)] [(.int (own_f3_0 p3 wd)), (.int (own_f2_0 wd wd (own_g wd (own_upd (own_upd (own_upd (fun _ => (0 : Int32)) ((0 : Int32)).toNatClampNeg p2) ((1 : Int32)).toNatClampNeg p3) ((2 : Int32)).toNatClampNeg p4) (own_m wd (3 : Int32) (0 : Int32)))))])) (fun t k => ?_) ?_
        · show Steps p.tables e below (T114j.setTop (mkF m 127 #[.val (.int p0), .val (.int p1), .val (.int p2), .val (.int p3), .val (.int p4), .val (.int wd), .val (.int (3 : Int32)), .val (.ref b1), .val (.ref b1_5), .val (.int t114_0)] [])) t
          refine XS.aload X114j.here hx rfl (hb hby at_127) rfl rfl ?_
          show Steps p.tables e below (T114j.setTop (mkF m 129 #[.val (.int p0), .val (.int p1), .val (.int p2), .val (.int p3), .val (.int p4), .val (.int wd), .val (.int (3 : Int32)), .val (.ref b1), .val (.ref b1_5), .val (.int t114_0)] [(.ref b1_5)])) t
          refine XS.iload X114j.here hx rfl (hb hby at_129) rfl ?_
          show Steps p.tables e below (T114j.setTop (mkF m 131 #[.val (.int p0), .val (.int p1), .val (.int p2), .val (.int p3), .val (.int p4), .val (.int wd), .val (.int (3 : Int32)), .val (.ref b1), .val (.ref b1_5), .val (.int t114_0)] [(.int wd), (.ref b1_5)])) t
          refine XS.iload X114j.here hx rfl (hb hby at_131) rfl ?_
          show Steps p.tables e below (T114j.setTop (mkF m 133 #[.val (.int p0), .val (.int p1), .val (.int p2), .val (.int p3), .val (.int p4), .val (.int wd), .val (.int (3 : Int32)), .val (.ref b1), .val (.ref b1_5), .val (.int t114_0)] [(.int wd), (.int wd), (.ref b1_5)])) t
          refine st10 _ ?_
          show Steps p.tables e below (T10.setTop (mkF m 136 #[.val (.int p0), .val (.int p1), .val (.int p2), .val (.int p3), .val (.int p4), .val (.int wd), .val (.int (3 : Int32)), .val (.ref b1), .val (.ref b1_5), .val (.int t114_0)] [(.int (own_f2_0 wd wd (own_g wd (own_upd (own_upd (own_upd (fun _ => (0 : Int32)) ((0 : Int32)).toNatClampNeg p2) ((1 : Int32)).toNatClampNeg p3) ((2 : Int32)).toNatClampNeg p4) (own_m wd (3 : Int32) (0 : Int32)))))])) t
          refine XS.iloadN X10.here hx rfl (hb hby at_136) rfl ?_
          show Steps p.tables e below (T10.setTop (mkF m 137 #[.val (.int p0), .val (.int p1), .val (.int p2), .val (.int p3), .val (.int p4), .val (.int wd), .val (.int (3 : Int32)), .val (.ref b1), .val (.ref b1_5), .val (.int t114_0)] [(.int p3), (.int (own_f2_0 wd wd (own_g wd (own_upd (own_upd (own_upd (fun _ => (0 : Int32)) ((0 : Int32)).toNatClampNeg p2) ((1 : Int32)).toNatClampNeg p3) ((2 : Int32)).toNatClampNeg p4) (own_m wd (3 : Int32) (0 : Int32)))))])) t
          refine XS.iload X10.here hx rfl (hb hby at_137) rfl ?_
          show Steps p.tables e below (T10.setTop (mkF m 139 #[.val (.int p0), .val (.int p1), .val (.int p2), .val (.int p3), .val (.int p4), .val (.int wd), .val (.int (3 : Int32)), .val (.ref b1), .val (.ref b1_5), .val (.int t114_0)] [(.int wd), (.int p3), (.int (own_f2_0 wd wd (own_g wd (own_upd (own_upd (own_upd (fun _ => (0 : Int32)) ((0 : Int32)).toNatClampNeg p2) ((1 : Int32)).toNatClampNeg p3) ((2 : Int32)).toNatClampNeg p4) (own_m wd (3 : Int32) (0 : Int32)))))])) t
          refine st11 _ ?_
          show Steps p.tables e below (T11.setTop (mkF m 142 #[.val (.int p0), .val (.int p1), .val (.int p2), .val (.int p3), .val (.int p4), .val (.int wd), .val (.int (3 : Int32)), .val (.ref b1), .val (.ref b1_5), .val (.int t114_0)] [(.int (own_f3_0 p3 wd)), (.int (own_f2_0 wd wd (own_g wd (own_upd (own_upd (own_upd (fun _ => (0 : Int32)) ((0 : Int32)).toNatClampNeg p2) ((1 : Int32)).toNatClampNeg p3) ((2 : Int32)).toNatClampNeg p4) (own_m wd (3 : Int32) (0 : Int32)))))])) t
          exact k
        by_cases hc142 : (own_f2_0 wd wd (own_g wd (own_upd (own_upd (own_upd (fun _ => (0 : Int32)) ((0 : Int32)).toNatClampNeg p2) ((1 : Int32)).toNatClampNeg p3) ((2 : Int32)).toNatClampNeg p4) (own_m wd (3 : Int32) (0 : Int32)))) = (own_f3_0 p3 wd)
        · refine Owe.step (T' := T11) (g' := (mkF m 145 #[.val (.int p0), .val (.int p1), .val (.int p2), .val (.int p3), .val (.int p4), .val (.int wd), .val (.int (3 : Int32)), .val (.ref b1), .val (.ref b1_5), .val (.int t114_0)] [])) (fun t k => ?_) ?_
          · show Steps p.tables e below (T11.setTop (mkF m 142 #[.val (.int p0), .val (.int p1), .val (.int p2), .val (.int p3), .val (.int p4), .val (.int wd), .val (.int (3 : Int32)), .val (.ref b1), .val (.ref b1_5), .val (.int t114_0)] [(.int (own_f3_0 p3 wd)), (.int (own_f2_0 wd wd (own_g wd (own_upd (own_upd (own_upd (fun _ => (0 : Int32)) ((0 : Int32)).toNatClampNeg p2) ((1 : Int32)).toNatClampNeg p3) ((2 : Int32)).toNatClampNeg p4) (own_m wd (3 : Int32) (0 : Int32)))))])) t
            refine XS.icmpNo X11.here hx rfl (hb hby at_142) rfl (teq hc142).2 ?_
            show Steps p.tables e below (T11.setTop (mkF m 145 #[.val (.int p0), .val (.int p1), .val (.int p2), .val (.int p3), .val (.int p4), .val (.int wd), .val (.int (3 : Int32)), .val (.ref b1), .val (.ref b1_5), .val (.int t114_0)] [])) t
            exact k
          refine Owe.step (T' := T11) (g' := (mkF m 150 #[.val (.int p0), .val (.int p1), .val (.int p2), .val (.int p3), .val (.int p4), .val (.int wd), .val (.int (3 : Int32)), .val (.ref b1), .val (.ref b1_5), .val (.int t114_0)] [(.int (1 : Int32))])) (fun t k => ?_) ?_
          · show Steps p.tables e below (T11.setTop (mkF m 145 #[.val (.int p0), .val (.int p1), .val (.int p2), .val (.int p3), .val (.int p4), .val (.int wd), .val (.int (3 : Int32)), .val (.ref b1), .val (.ref b1_5), .val (.int t114_0)] [])) t
            refine XS.iconst X11.here hx rfl (hb hby at_145) ?_
            show Steps p.tables e below (T11.setTop (mkF m 146 #[.val (.int p0), .val (.int p1), .val (.int p2), .val (.int p3), .val (.int p4), .val (.int wd), .val (.int (3 : Int32)), .val (.ref b1), .val (.ref b1_5), .val (.int t114_0)] [(.int (1 : Int32))])) t
            refine XS.goto X11.here hx rfl (pc0 := 146) (pc' := 150) rfl (hb hby at_146) (by decide) (by decide) ?_
            show Steps p.tables e below (T11.setTop (mkF m 150 #[.val (.int p0), .val (.int p1), .val (.int p2), .val (.int p3), .val (.int p4), .val (.int wd), .val (.int (3 : Int32)), .val (.ref b1), .val (.ref b1_5), .val (.int t114_0)] [(.int (1 : Int32))])) t
            exact k
          rw [show own_f0c3_114 p2 p3 p4 t114_0 wd = (own_f0c3_150 p2 p3 p4 (1 : Int32) wd) from (by rw [own_f0c3_114, if_neg hc124, if_pos hc142])]
          exact j150 T11 _ X11 (1 : Int32) e11 N11
        · refine Owe.step (T' := T11) (g' := (mkF m 149 #[.val (.int p0), .val (.int p1), .val (.int p2), .val (.int p3), .val (.int p4), .val (.int wd), .val (.int (3 : Int32)), .val (.ref b1), .val (.ref b1_5), .val (.int t114_0)] [])) (fun t k => ?_) ?_
          · show Steps p.tables e below (T11.setTop (mkF m 142 #[.val (.int p0), .val (.int p1), .val (.int p2), .val (.int p3), .val (.int p4), .val (.int wd), .val (.int (3 : Int32)), .val (.ref b1), .val (.ref b1_5), .val (.int t114_0)] [(.int (own_f3_0 p3 wd)), (.int (own_f2_0 wd wd (own_g wd (own_upd (own_upd (own_upd (fun _ => (0 : Int32)) ((0 : Int32)).toNatClampNeg p2) ((1 : Int32)).toNatClampNeg p3) ((2 : Int32)).toNatClampNeg p4) (own_m wd (3 : Int32) (0 : Int32)))))])) t
            refine XS.icmpYes X11.here hx rfl (pc0 := 142) (pc' := 149) rfl (hb hby at_142) rfl (feq hc142).2 (by decide) (by decide) ?_
            show Steps p.tables e below (T11.setTop (mkF m 149 #[.val (.int p0), .val (.int p1), .val (.int p2), .val (.int p3), .val (.int p4), .val (.int wd), .val (.int (3 : Int32)), .val (.ref b1), .val (.ref b1_5), .val (.int t114_0)] [])) t
            exact k
          rw [show own_f0c3_114 p2 p3 p4 t114_0 wd = (own_f0c3_149 p2 p3 p4 wd) from (by rw [own_f0c3_114, if_neg hc124, if_neg hc142])]
          exact j149 T11 _ X11 e11 N11
    by_cases hc106 : (own_f2_0 (0 : Int32) wd (own_g wd (own_upd (own_upd (own_upd (fun _ => (0 : Int32)) ((0 : Int32)).toNatClampNeg p2) ((1 : Int32)).toNatClampNeg p3) ((2 : Int32)).toNatClampNeg p4) (own_m wd (3 : Int32) (0 : Int32)))) = (own_f3_0 p2 wd)
    · refine Owe.step (T' := T7) (g' := (mkF m 109 #[.val (.int p0), .val (.int p1), .val (.int p2), .val (.int p3), .val (.int p4), .val (.int wd), .val (.int (3 : Int32)), .val (.ref b1), .val (.ref b1_5), .val (.int (1 : Int32))] [])) (fun t k => ?_) ?_
      · show Steps p.tables e below (T7.setTop (mkF m 106 #[.val (.int p0), .val (.int p1), .val (.int p2), .val (.int p3), .val (.int p4), .val (.int wd), .val (.int (3 : Int32)), .val (.ref b1), .val (.ref b1_5), .val (.int (1 : Int32))] [(.int (own_f3_0 p2 wd)), (.int (own_f2_0 (0 : Int32) wd (own_g wd (own_upd (own_upd (own_upd (fun _ => (0 : Int32)) ((0 : Int32)).toNatClampNeg p2) ((1 : Int32)).toNatClampNeg p3) ((2 : Int32)).toNatClampNeg p4) (own_m wd (3 : Int32) (0 : Int32)))))])) t
        refine XS.icmpNo X7.here hx rfl (hb hby at_106) rfl (teq hc106).2 ?_
        show Steps p.tables e below (T7.setTop (mkF m 109 #[.val (.int p0), .val (.int p1), .val (.int p2), .val (.int p3), .val (.int p4), .val (.int wd), .val (.int (3 : Int32)), .val (.ref b1), .val (.ref b1_5), .val (.int (1 : Int32))] [])) t
        exact k
      refine Owe.step (T' := T7) (g' := (mkF m 114 #[.val (.int p0), .val (.int p1), .val (.int p2), .val (.int p3), .val (.int p4), .val (.int wd), .val (.int (3 : Int32)), .val (.ref b1), .val (.ref b1_5), .val (.int (1 : Int32))] [(.int (1 : Int32))])) (fun t k => ?_) ?_
      · show Steps p.tables e below (T7.setTop (mkF m 109 #[.val (.int p0), .val (.int p1), .val (.int p2), .val (.int p3), .val (.int p4), .val (.int wd), .val (.int (3 : Int32)), .val (.ref b1), .val (.ref b1_5), .val (.int (1 : Int32))] [])) t
        refine XS.iconst X7.here hx rfl (hb hby at_109) ?_
        show Steps p.tables e below (T7.setTop (mkF m 110 #[.val (.int p0), .val (.int p1), .val (.int p2), .val (.int p3), .val (.int p4), .val (.int wd), .val (.int (3 : Int32)), .val (.ref b1), .val (.ref b1_5), .val (.int (1 : Int32))] [(.int (1 : Int32))])) t
        refine XS.goto X7.here hx rfl (pc0 := 110) (pc' := 114) rfl (hb hby at_110) (by decide) (by decide) ?_
        show Steps p.tables e below (T7.setTop (mkF m 114 #[.val (.int p0), .val (.int p1), .val (.int p2), .val (.int p3), .val (.int p4), .val (.int wd), .val (.int (3 : Int32)), .val (.ref b1), .val (.ref b1_5), .val (.int (1 : Int32))] [(.int (1 : Int32))])) t
        exact k
      refine Owe.cast (show (own_f0c3_114 p2 p3 p4 (1 : Int32) wd) = (1 : Int32) from (show own_f0c3_0 p2 p3 p4 wd = (own_f0c3_114 p2 p3 p4 (1 : Int32) wd) from (by rw [own_f0c3_0, if_pos hc74, if_pos hc106])).symm.trans (own_law3 p0 p1 p2 p3 p4 wd H_wd)) ?_
      exact j114 T7 _ X7 (1 : Int32) e7 N7
    · refine Owe.step (T' := T7) (g' := (mkF m 113 #[.val (.int p0), .val (.int p1), .val (.int p2), .val (.int p3), .val (.int p4), .val (.int wd), .val (.int (3 : Int32)), .val (.ref b1), .val (.ref b1_5), .val (.int (1 : Int32))] [])) (fun t k => ?_) ?_
      · show Steps p.tables e below (T7.setTop (mkF m 106 #[.val (.int p0), .val (.int p1), .val (.int p2), .val (.int p3), .val (.int p4), .val (.int wd), .val (.int (3 : Int32)), .val (.ref b1), .val (.ref b1_5), .val (.int (1 : Int32))] [(.int (own_f3_0 p2 wd)), (.int (own_f2_0 (0 : Int32) wd (own_g wd (own_upd (own_upd (own_upd (fun _ => (0 : Int32)) ((0 : Int32)).toNatClampNeg p2) ((1 : Int32)).toNatClampNeg p3) ((2 : Int32)).toNatClampNeg p4) (own_m wd (3 : Int32) (0 : Int32)))))])) t
        refine XS.icmpYes X7.here hx rfl (pc0 := 106) (pc' := 113) rfl (hb hby at_106) rfl (feq hc106).2 (by decide) (by decide) ?_
        show Steps p.tables e below (T7.setTop (mkF m 113 #[.val (.int p0), .val (.int p1), .val (.int p2), .val (.int p3), .val (.int p4), .val (.int wd), .val (.int (3 : Int32)), .val (.ref b1), .val (.ref b1_5), .val (.int (1 : Int32))] [])) t
        exact k
      refine Owe.step (T' := T7) (g' := (mkF m 114 #[.val (.int p0), .val (.int p1), .val (.int p2), .val (.int p3), .val (.int p4), .val (.int wd), .val (.int (3 : Int32)), .val (.ref b1), .val (.ref b1_5), .val (.int (1 : Int32))] [(.int (0 : Int32))])) (fun t k => ?_) ?_
      · show Steps p.tables e below (T7.setTop (mkF m 113 #[.val (.int p0), .val (.int p1), .val (.int p2), .val (.int p3), .val (.int p4), .val (.int wd), .val (.int (3 : Int32)), .val (.ref b1), .val (.ref b1_5), .val (.int (1 : Int32))] [])) t
        refine XS.iconst X7.here hx rfl (hb hby at_113) ?_
        show Steps p.tables e below (T7.setTop (mkF m 114 #[.val (.int p0), .val (.int p1), .val (.int p2), .val (.int p3), .val (.int p4), .val (.int wd), .val (.int (3 : Int32)), .val (.ref b1), .val (.ref b1_5), .val (.int (1 : Int32))] [(.int (0 : Int32))])) t
        exact k
      refine Owe.cast (show (own_f0c3_114 p2 p3 p4 (0 : Int32) wd) = (1 : Int32) from (show own_f0c3_0 p2 p3 p4 wd = (own_f0c3_114 p2 p3 p4 (0 : Int32) wd) from (by rw [own_f0c3_0, if_pos hc74, if_neg hc106])).symm.trans (own_law3 p0 p1 p2 p3 p4 wd H_wd)) ?_
      exact j114 T7 _ X7 (0 : Int32) e7 N7
  · refine Owe.step (T' := T5) (g' := (mkF m 77 #[.val (.int p0), .val (.int p1), .val (.int p2), .val (.int p3), .val (.int p4), .val (.int wd), .val (.int (3 : Int32)), .val (.ref b1), .val (.ref b1_5), .unset] [])) (fun t k => ?_) ?_
    · show Steps p.tables e below (T5.setTop (mkF m 74 #[.val (.int p0), .val (.int p1), .val (.int p2), .val (.int p3), .val (.int p4), .val (.int wd), .val (.int (3 : Int32)), .val (.ref b1), .val (.ref b1_5), .unset] [(.int (wd * (3 : Int32))), (.int (wd * (3 : Int32)))])) t
      refine XS.icmpNo X5.here hx rfl (hb hby at_74) rfl (feq hc74).1 ?_
      show Steps p.tables e below (T5.setTop (mkF m 77 #[.val (.int p0), .val (.int p1), .val (.int p2), .val (.int p3), .val (.int p4), .val (.int wd), .val (.int (3 : Int32)), .val (.ref b1), .val (.ref b1_5), .unset] [])) t
      exact k
    refine Owe.cast (show (0 : Int32) = (1 : Int32) from (show own_f0c3_0 p2 p3 p4 wd = (0 : Int32) from (by rw [own_f0c3_0, if_neg hc74])).symm.trans (own_law3 p0 p1 p2 p3 p4 wd H_wd)) ?_
    refine Owe.ret X5 Bd.notSynchronized (v := (some (.int (0 : Int32)))) (fun h => by rw [Bd.returns] at h; cases h) (fun fs hr => ?_) ⟨rfl, N5⟩ (by decide) (by decide)
    show Steps p.tables e below (T5.setTop (mkF m 77 #[.val (.int p0), .val (.int p1), .val (.int p2), .val (.int p3), .val (.int p4), .val (.int wd), .val (.int (3 : Int32)), .val (.ref b1), .val (.ref b1_5), .unset] [])) _
    refine XS.iconst X5.here hx rfl (hb hby at_77) ?_
    show Steps p.tables e below (T5.setTop (mkF m 78 #[.val (.int p0), .val (.int p1), .val (.int p2), .val (.int p3), .val (.int p4), .val (.int wd), .val (.int (3 : Int32)), .val (.ref b1), .val (.ref b1_5), .unset] [(.int (0 : Int32))])) _
    exact retN X5 hx (t := .boolean) Bd.returns (by simp) (hb hby at_78) hr
set_option maxRecDepth 65536 in
theorem own_rm0 (l : Launch) (Z : State) (aA : Array Value) (hw : ∀ d ∈ tables_1, d.before aA Z = true) (ws : List Jvm.Cond) (p0 p1 p2 p3 p4 : Int32) (h0 : Heap) (n0 : Nat) (Z0 : n0 ≤ h0.size) :
    MetFree l x (head1 (Jvm.Cond.code x code maxLocals ret :: ws) room_1) (fun a U => a = #[(.int p0), (.int p1), (.int p2), (.int p3), (.int p4)] ∧ Z.Warmed39 U.vm ∧ U.heap = h0) (fun _ _ _ _ _ => True) (fun _ U o U' => ∃ v L, o = .returned v ∧ (QL (.int ((1 : Int32))) n0) v U'.heap L ∧ FrameEnd U o U' L 16 128) := by
  rcases own_c4 p1 with h | h | h | h
  · exact own_rm0c0 l Z aA hw ws p0 p1 p2 p3 p4 h0 n0 Z0 h
  · exact own_rm0c1 l Z aA hw ws p0 p1 p2 p3 p4 h0 n0 Z0 h
  · exact own_rm0c2 l Z aA hw ws p0 p1 p2 p3 p4 h0 n0 Z0 h
  · exact own_rm0c3 l Z aA hw ws p0 p1 p2 p3 p4 h0 n0 Z0 h
set_option maxRecDepth 65536 in
set_option maxHeartbeats 40000000 in
theorem comes_1 {Post : Tables → Env → Array Value → State → Outcome → State → Prop} (hpost : ∀ tb e args s v u, (limb_1_1.after args s (.returned v) u = true ∧ limb_1_2.after args s (.returned v) u = true ∧ True) → FrameEnd s (.returned v) u (Jvm.fieldLocs frame_1_writes args s ++ Jvm.arrayLocs frame_1_arrays args s ++ Jvm.staticLocs frame_1_statics s) 16 128 → Post tb e args s (.returned v) u) :
    ArmFor flags0 classFile x code maxLocals ret World_1 tables_1 room_1 Calls_1 rest_1 Pre_1 Post := by
  intro l hfl _ _ p e ha hc hk s m args below hf hA hF happ hP
  obtain ⟨hcalls, hrest, hpre⟩ := hP
  obtain ⟨-, -, -, hnamed, -, -, -, hat⟩ := (Spec.applies_iff hf).mp happ
  obtain ⟨hg, hn⟩ := and_e (Cond.before_iff.mp (show (Jvm.Cond.and given_1 narrow_1).before args s = true from hpre))
  obtain ⟨ga1, gb1⟩ := and_e hg
  obtain ⟨ga2, gb2⟩ := and_e gb1
  obtain ⟨ga3, gb3⟩ := and_e gb2
  obtain ⟨ga4, gb4⟩ := and_e gb3
  obtain ⟨ga5, gb5⟩ := and_e gb4
  obtain ⟨w0, w1, w2, w3, w4, rfl⟩ : ∃ w0 w1 w2 w3 w4 : Value, args = #[w0, w1, w2, w3, w4] := by
    have hs : args.size = 5 := by simpa [Cond.value, given_1] using ga1
    obtain ⟨L⟩ := args
    match L, hs with
    | [w0, w1, w2, w3, w4], _ => exact ⟨w0, w1, w2, w3, w4, rfl⟩
  have hw := fun d (hd : d ∈ tables_1) => atoms_spec (ws := Jvm.Cond.code x code maxLocals ret :: tables_1) hat d (List.mem_cons_of_mem _ hd)
  obtain ⟨i0, ei0⟩ := is_v ga2
  obtain rfl : w0 = (.int i0) := Option.some.inj ei0
  obtain ⟨i1, ei1⟩ := is_v ga3
  obtain rfl : w1 = (.int i1) := Option.some.inj ei1
  obtain ⟨i2, ei2⟩ := is_v ga4
  obtain rfl : w2 = (.int i2) := Option.some.inj ei2
  obtain ⟨i3, ei3⟩ := is_v ga5
  obtain rfl : w3 = (.int i3) := Option.some.inj ei3
  obtain ⟨i4, ei4⟩ := is_v gb5
  obtain rfl : w4 = (.int i4) := Option.some.inj ei4
  obtain ⟨n, o, h1, h2, h3, _, L, rfl, ⟨rfl, N⟩, hq⟩ := own_rm0 l s _ hw tables_1 i0 i1 i2 i3 i4 s.heap s.heap.size (Nat.le_refl _) p e ha hc hk s m _ below hf ((Spec.applies_iff_loose hf).mp happ).1 ⟨rfl, State.Warmed39.refl s, rfl⟩ trivial
  refine ⟨n, _, h1, h2, h3, hpost _ _ _ _ _ _ ⟨Cond.after_iff.mpr rfl, Cond.after_iff.mpr (eq_i res_at (Term.int_eval (1)) rfl), trivial⟩ ⟨hq.1, hq.2.1, (hq.2.2.sift fun y hy => Or.inr (N y hy)).mono (by decide) (by decide)⟩⟩
theorem main_1_1 : Claimed_1_1 := comes_1 fun _ _ _ _ _ _ h hF => ⟨h.1, hF⟩
theorem main_1_2 : Claimed_1_2 := comes_1 fun _ _ _ _ _ _ h hF => ⟨h.2.1, hF⟩
end Jvm.Pilot.@@N@@
namespace Jvm.Pilot.@@N@@
open Jvm Jvm.ClassFile Sem Op Lib Jvm.Free Jvm.Stand Jvm.Pilot.@@N@@.Jvm.D
/-! MADE BY PROGRAM (witnessworld.py) out of the Statement's table words and the real class files: 12 classes; the members and pool entries that the words name. The judged class is class 1, her method 1. -/
namespace start1
open Jvm.ClassFile
def u (s : String) : CpInfo := .utf8 (stringToUtf16 s)
/-- a pool by its gaps: so many unusable entries, then the entry; so many at the end -/
def gap : Nat → List CpInfo → List CpInfo
  | 0, r => r
  | n + 1, r => .unusable :: gap n r
def poolList (es : List (Nat × CpInfo)) (last : Nat) : List CpInfo := es.foldr (fun e r => gap e.1 (e.2 :: r)) (gap last [])
def pool (es : List (Nat × CpInfo)) (last : Nat) : Array CpInfo := ⟨poolList es last⟩
def fileOf (pool : Array CpInfo) (this : Nat) (attrs : Array Attribute := #[]) (ms : Array MethodInfo := #[]) (fl : Nat := 33) (sup : Nat := 0) (ifs : Array Nat := #[]) (fds : Array FieldInfo := #[]) : ClassFile where
  minorVersion := 0
  majorVersion := 65
  constantPool := pool
  accessFlags := fl
  thisClass := this
  superClass := sup
  interfaces := ifs
  fields := fds
  methods := ms
  attributes := attrs
def plain (name : String) (sup : Option ClassId) : Class where
  name := name
  kind := .ordinary
  loader := none
  accessFlags := 33
  super := sup
  interfaces := #[]
  cf := none
  fields := #[]
  methods := #[]
  instanceTypes := #[]
  staticTypes := #[]
  resolved := #[]
  callSites := []
  init := .initialized
  statics := none
  mirror := none

def pool0 : Array CpInfo := pool [(5, u "<init>"), (0, u "()V"), (1, .class_ 10), (1, u "java/lang/Object")] 113

def k0m0 : Method := { name := "<init>", desc := "()V", sig := { parameters := [], returnType := none }, accessFlags := 1, code := none }
/-- java/lang/Object -/
def k0 : Class := { plain "java/lang/Object" none with
  accessFlags := 33
  interfaces := #[]
  cf := some (fileOf pool0 8 #[] #[{ accessFlags := 1, nameIndex := 5, descriptorIndex := 6, attributes := #[] }] 33 0 #[] #[])
  fields := #[]
  methods := #[k0m0]
  instanceTypes := #[]
  staticTypes := #[]
  resolved := Array.replicate 124 none
  statics := none }

def pool1 : Array CpInfo := pool [(2, .class_ 4), (1, u "java/lang/Object"), (0, u "<init>"), (0, u "()V"), (0, .integer 2147483647), (0, .methodref 9 10), (0, .class_ 11), (0, .nameAndType 12 13), (0, u "com/example/rasterline/rasterline/formats/png/KnownChunk"), (0, u "packed"), (0, u "(I[I)[B"), (0, .methodref 15 16), (0, .class_ 17), (0, .nameAndType 18 19), (0, u "com/example/rasterline/rasterline/formats/png/KnownChunkPackedPinLaw"), (0, u "read"), (0, u "([BII)I"), (0, .methodref 15 21), (0, .nameAndType 22 23), (0, u "low"), (0, u "(II)I"), (2, u "law"), (0, u "(IIIII)Z")] 7

def k1m0 : Method := { name := "<init>", desc := "()V", sig := { parameters := [], returnType := none }, accessFlags := 2, code := none }
def k1c1 : Code := { maxStack := 3, maxLocals := 10, code := code, exceptionTable := #[], attributes := #[] }
def k1m1 : Method := { name := "law", desc := "(IIIII)Z", sig := { parameters := [.int, .int, .int, .int, .int], returnType := some .boolean }, accessFlags := 9, code := some k1c1 }
def k1c2 : Code := { maxStack := 4, maxLocals := 4, code := method_3_code, exceptionTable := #[], attributes := #[] }
def k1m2 : Method := { name := "read", desc := "([BII)I", sig := { parameters := [(.array .byte), .int, .int], returnType := some .int }, accessFlags := 10, code := some k1c2 }
def k1c3 : Code := { maxStack := 4, maxLocals := 2, code := method_4_code, exceptionTable := #[], attributes := #[] }
def k1m3 : Method := { name := "low", desc := "(II)I", sig := { parameters := [.int, .int], returnType := some .int }, accessFlags := 10, code := some k1c3 }
/-- com/example/rasterline/rasterline/formats/png/KnownChunkPackedPinLaw -/
def k1 : Class := { plain "com/example/rasterline/rasterline/formats/png/KnownChunkPackedPinLaw" (some 0) with
  accessFlags := 49
  interfaces := #[]
  cf := some (fileOf pool1 15 #[] #[{ accessFlags := 2, nameIndex := 5, descriptorIndex := 6, attributes := #[] }, { accessFlags := 9, nameIndex := 26, descriptorIndex := 27, attributes := #[] }, { accessFlags := 10, nameIndex := 18, descriptorIndex := 19, attributes := #[] }, { accessFlags := 10, nameIndex := 22, descriptorIndex := 23, attributes := #[] }] 49 2 #[] #[])
  fields := #[]
  methods := #[k1m0, k1m1, k1m2, k1m3]
  instanceTypes := #[]
  staticTypes := #[]
  resolved := Array.replicate 35 none
  statics := none }

def pool2 : Array CpInfo := pool [(1, .class_ 2), (0, u "java/lang/constant/Constable"), (0, .class_ 4), (0, u "java/lang/Object")] 6

/-- java/lang/constant/Constable -/
def k2 : Class := { plain "java/lang/constant/Constable" (some 0) with
  accessFlags := 1537
  interfaces := #[]
  cf := some (fileOf pool2 1 #[] #[] 1537 3 #[] #[])
  fields := #[]
  methods := #[]
  instanceTypes := #[]
  staticTypes := #[]
  resolved := Array.replicate 11 none
  statics := none }

def pool3 : Array CpInfo := pool [(1, .class_ 2), (0, u "java/lang/Comparable"), (0, .class_ 4), (0, u "java/lang/Object")] 7

/-- java/lang/Comparable -/
def k3 : Class := { plain "java/lang/Comparable" (some 0) with
  accessFlags := 1537
  interfaces := #[]
  cf := some (fileOf pool3 1 #[] #[] 1537 3 #[] #[])
  fields := #[]
  methods := #[]
  instanceTypes := #[]
  staticTypes := #[]
  resolved := Array.replicate 12 none
  statics := none }

def pool4 : Array CpInfo := pool [(1, .class_ 2), (0, u "java/io/Serializable"), (0, .class_ 4), (0, u "java/lang/Object")] 2

/-- java/io/Serializable -/
def k4 : Class := { plain "java/io/Serializable" (some 0) with
  accessFlags := 1537
  interfaces := #[]
  cf := some (fileOf pool4 1 #[] #[] 1537 3 #[] #[])
  fields := #[]
  methods := #[]
  instanceTypes := #[]
  staticTypes := #[]
  resolved := Array.replicate 7 none
  statics := none }

def pool5 : Array CpInfo := pool [(2, .class_ 4), (1, u "java/lang/Enum"), (0, u "name"), (0, u "Ljava/lang/String;"), (2, u "ordinal"), (0, u "I"), (1, .class_ 14), (1, u "java/lang/Object"), (4, u "hash"), (86, .class_ 108), (1, u "java/lang/Enum$EnumDesc"), (2, .class_ 112), (0, u "java/lang/constant/Constable"), (0, .class_ 114), (0, u "java/lang/Comparable"), (0, .class_ 116), (0, u "java/io/Serializable")] 87

/-- java/lang/Enum -/
def k5 : Class := { plain "java/lang/Enum" (some 0) with
  accessFlags := 1057
  interfaces := #[2, 3, 4]
  cf := some (fileOf pool5 2 #[.nestMembers #[106]] #[] 1057 12 #[111, 113, 115] #[{ accessFlags := 18, nameIndex := 5, descriptorIndex := 6, attributes := #[] }, { accessFlags := 18, nameIndex := 9, descriptorIndex := 10, attributes := #[] }, { accessFlags := 2, nameIndex := 19, descriptorIndex := 10, attributes := #[] }])
  fields := #[{ name := "name", type := (.object "java/lang/String"), accessFlags := 18, slot := 0, constantValue := 0 }, { name := "ordinal", type := .int, accessFlags := 18, slot := 1, constantValue := 0 }, { name := "hash", type := .int, accessFlags := 2, slot := 2, constantValue := 0 }]
  methods := #[]
  instanceTypes := #[(.object "java/lang/String"), .int, .int]
  staticTypes := #[]
  resolved := Array.replicate 204 none
  statics := none }

def pool6 : Array CpInfo := pool [(1, .class_ 2), (0, u "com/example/rasterline/rasterline/formats/png/KnownChunk"), (2, u "PLTE"), (0, u "Lcom/example/rasterline/rasterline/formats/png/KnownChunk;"), (2, u "bKGD"), (2, u "cHRM"), (2, u "gAMA"), (2, u "hIST"), (2, u "iCCP"), (2, u "iTXt"), (2, u "pHYs"), (2, u "sBIT"), (2, u "sPLT"), (2, u "sRGB"), (2, u "tEXt"), (2, u "tIME"), (2, u "tRNS"), (2, u "zTXt"), (2, u "$VALUES"), (0, u "[Lcom/example/rasterline/rasterline/formats/png/KnownChunk;"), (6, .class_ 61), (1, u "java/lang/Enum"), (3, .class_ 67), (1, u "com/example/rasterline/rasterline/formats/png/KnownChunk$Repeats"), (1, u "Lcom/example/rasterline/rasterline/formats/png/KnownChunk$Repeats;"), (9, u "place"), (0, u "Lcom/example/rasterline/rasterline/formats/png/KnownChunk$Place;"), (2, u "repeats"), (20, u "LAYOUT"), (0, u "Ljava/util/Set;"), (76, u "RGB"), (4, u "Ljava/util/List;"), (2, u "GREY"), (207, .class_ 399), (0, u "com/example/rasterline/rasterline/formats/png/KnownChunk$1"), (2, .class_ 404), (1, u "com/example/rasterline/rasterline/formats/png/KnownChunk$Place"), (4, .class_ 410), (0, u "com/example/rasterline/rasterline/formats/png/KnownChunk$2"), (5, .class_ 417), (0, u "com/example/rasterline/rasterline/formats/png/KnownChunk$3"), (5, .class_ 424), (0, u "com/example/rasterline/rasterline/formats/png/KnownChunk$4"), (2, .class_ 428), (0, u "com/example/rasterline/rasterline/formats/png/KnownChunk$5"), (5, .class_ 435), (0, u "com/example/rasterline/rasterline/formats/png/KnownChunk$6"), (2, .class_ 439), (0, u "com/example/rasterline/rasterline/formats/png/KnownChunk$7"), (8, .class_ 449), (0, u "com/example/rasterline/rasterline/formats/png/KnownChunk$8"), (2, .class_ 453), (0, u "com/example/rasterline/rasterline/formats/png/KnownChunk$9"), (2, .class_ 457), (0, u "com/example/rasterline/rasterline/formats/png/KnownChunk$10"), (5, .class_ 464), (0, u "com/example/rasterline/rasterline/formats/png/KnownChunk$11"), (2, .class_ 468), (0, u "com/example/rasterline/rasterline/formats/png/KnownChunk$12"), (2, .class_ 472), (0, u "com/example/rasterline/rasterline/formats/png/KnownChunk$13"), (2, .class_ 476), (0, u "com/example/rasterline/rasterline/formats/png/KnownChunk$14"), (2, .class_ 480), (0, u "com/example/rasterline/rasterline/formats/png/KnownChunk$15"), (24, u "ENTRY"), (29, u "CHROMATICITIES"), (7, u "SUGGESTED_ENTRY"), (14, u "TIME"), (2, u "TIME_LEAST"), (0, u "[I"), (3, u "TIME_MOST"), (9, u "UNITS"), (10, u "INTENTS"), (2, u "DEFLATE"), (0, u "I"), (38, u "packed"), (0, u "(I[I)[B"), (15, .class_ 648), (0, u "com/example/rasterline/rasterline/formats/png/KnownChunk$SuggestedPalette")] 50

def k6c0 : Code := { maxStack := 6, maxLocals := 5, code := prog_41_method_30_code, exceptionTable := #[], attributes := #[] }
def k6m0 : Method := { name := "packed", desc := "(I[I)[B", sig := { parameters := [.int, (.array .int)], returnType := some (.array .byte) }, accessFlags := 136, code := some k6c0 }
/-- com/example/rasterline/rasterline/formats/png/KnownChunk -/
def k6 : Class := { plain "com/example/rasterline/rasterline/formats/png/KnownChunk" (some 5) with
  accessFlags := 17440
  interfaces := #[]
  cf := some (fileOf pool6 1 #[.nestMembers #[647, 65, 402, 479, 475, 471, 467, 463, 456, 452, 448, 438, 434, 427, 423, 416, 409, 398]] #[{ accessFlags := 136, nameIndex := 630, descriptorIndex := 631, attributes := #[] }] 17440 59 #[] #[{ accessFlags := 16409, nameIndex := 5, descriptorIndex := 6, attributes := #[] }, { accessFlags := 16409, nameIndex := 9, descriptorIndex := 6, attributes := #[] }, { accessFlags := 16409, nameIndex := 12, descriptorIndex := 6, attributes := #[] }, { accessFlags := 16409, nameIndex := 15, descriptorIndex := 6, attributes := #[] }, { accessFlags := 16409, nameIndex := 18, descriptorIndex := 6, attributes := #[] }, { accessFlags := 16409, nameIndex := 21, descriptorIndex := 6, attributes := #[] }, { accessFlags := 16409, nameIndex := 24, descriptorIndex := 6, attributes := #[] }, { accessFlags := 16409, nameIndex := 27, descriptorIndex := 6, attributes := #[] }, { accessFlags := 16409, nameIndex := 30, descriptorIndex := 6, attributes := #[] }, { accessFlags := 16409, nameIndex := 33, descriptorIndex := 6, attributes := #[] }, { accessFlags := 16409, nameIndex := 36, descriptorIndex := 6, attributes := #[] }, { accessFlags := 16409, nameIndex := 39, descriptorIndex := 6, attributes := #[] }, { accessFlags := 16409, nameIndex := 42, descriptorIndex := 6, attributes := #[] }, { accessFlags := 16409, nameIndex := 45, descriptorIndex := 6, attributes := #[] }, { accessFlags := 16409, nameIndex := 48, descriptorIndex := 6, attributes := #[] }, { accessFlags := 26, nameIndex := 104, descriptorIndex := 105, attributes := #[] }, { accessFlags := 26, nameIndex := 590, descriptorIndex := 591, attributes := #[] }, { accessFlags := 26, nameIndex := 505, descriptorIndex := 187, attributes := #[] }, { accessFlags := 26, nameIndex := 190, descriptorIndex := 187, attributes := #[] }, { accessFlags := 26, nameIndex := 182, descriptorIndex := 187, attributes := #[] }, { accessFlags := 26, nameIndex := 535, descriptorIndex := 187, attributes := #[] }, { accessFlags := 26, nameIndex := 543, descriptorIndex := 187, attributes := #[] }, { accessFlags := 26, nameIndex := 558, descriptorIndex := 187, attributes := #[] }, { accessFlags := 26, nameIndex := 561, descriptorIndex := 562, attributes := #[] }, { accessFlags := 26, nameIndex := 566, descriptorIndex := 562, attributes := #[] }, { accessFlags := 26, nameIndex := 576, descriptorIndex := 187, attributes := #[] }, { accessFlags := 26, nameIndex := 587, descriptorIndex := 187, attributes := #[] }, { accessFlags := 18, nameIndex := 79, descriptorIndex := 80, attributes := #[] }, { accessFlags := 18, nameIndex := 83, descriptorIndex := 69, attributes := #[] }, { accessFlags := 4122, nameIndex := 51, descriptorIndex := 52, attributes := #[] }])
  fields := #[{ name := "PLTE", type := (.object "com/example/rasterline/rasterline/formats/png/KnownChunk"), accessFlags := 16409, slot := 0, constantValue := 0 }, { name := "bKGD", type := (.object "com/example/rasterline/rasterline/formats/png/KnownChunk"), accessFlags := 16409, slot := 1, constantValue := 0 }, { name := "cHRM", type := (.object "com/example/rasterline/rasterline/formats/png/KnownChunk"), accessFlags := 16409, slot := 2, constantValue := 0 }, { name := "gAMA", type := (.object "com/example/rasterline/rasterline/formats/png/KnownChunk"), accessFlags := 16409, slot := 3, constantValue := 0 }, { name := "hIST", type := (.object "com/example/rasterline/rasterline/formats/png/KnownChunk"), accessFlags := 16409, slot := 4, constantValue := 0 }, { name := "iCCP", type := (.object "com/example/rasterline/rasterline/formats/png/KnownChunk"), accessFlags := 16409, slot := 5, constantValue := 0 }, { name := "iTXt", type := (.object "com/example/rasterline/rasterline/formats/png/KnownChunk"), accessFlags := 16409, slot := 6, constantValue := 0 }, { name := "pHYs", type := (.object "com/example/rasterline/rasterline/formats/png/KnownChunk"), accessFlags := 16409, slot := 7, constantValue := 0 }, { name := "sBIT", type := (.object "com/example/rasterline/rasterline/formats/png/KnownChunk"), accessFlags := 16409, slot := 8, constantValue := 0 }, { name := "sPLT", type := (.object "com/example/rasterline/rasterline/formats/png/KnownChunk"), accessFlags := 16409, slot := 9, constantValue := 0 }, { name := "sRGB", type := (.object "com/example/rasterline/rasterline/formats/png/KnownChunk"), accessFlags := 16409, slot := 10, constantValue := 0 }, { name := "tEXt", type := (.object "com/example/rasterline/rasterline/formats/png/KnownChunk"), accessFlags := 16409, slot := 11, constantValue := 0 }, { name := "tIME", type := (.object "com/example/rasterline/rasterline/formats/png/KnownChunk"), accessFlags := 16409, slot := 12, constantValue := 0 }, { name := "tRNS", type := (.object "com/example/rasterline/rasterline/formats/png/KnownChunk"), accessFlags := 16409, slot := 13, constantValue := 0 }, { name := "zTXt", type := (.object "com/example/rasterline/rasterline/formats/png/KnownChunk"), accessFlags := 16409, slot := 14, constantValue := 0 }, { name := "LAYOUT", type := (.object "java/util/Set"), accessFlags := 26, slot := 15, constantValue := 0 }, { name := "DEFLATE", type := .int, accessFlags := 26, slot := 16, constantValue := 0 }, { name := "ENTRY", type := (.object "java/util/List"), accessFlags := 26, slot := 17, constantValue := 0 }, { name := "GREY", type := (.object "java/util/List"), accessFlags := 26, slot := 18, constantValue := 0 }, { name := "RGB", type := (.object "java/util/List"), accessFlags := 26, slot := 19, constantValue := 0 }, { name := "CHROMATICITIES", type := (.object "java/util/List"), accessFlags := 26, slot := 20, constantValue := 0 }, { name := "SUGGESTED_ENTRY", type := (.object "java/util/List"), accessFlags := 26, slot := 21, constantValue := 0 }, { name := "TIME", type := (.object "java/util/List"), accessFlags := 26, slot := 22, constantValue := 0 }, { name := "TIME_LEAST", type := (.array .int), accessFlags := 26, slot := 23, constantValue := 0 }, { name := "TIME_MOST", type := (.array .int), accessFlags := 26, slot := 24, constantValue := 0 }, { name := "UNITS", type := (.object "java/util/List"), accessFlags := 26, slot := 25, constantValue := 0 }, { name := "INTENTS", type := (.object "java/util/List"), accessFlags := 26, slot := 26, constantValue := 0 }, { name := "place", type := (.object "com/example/rasterline/rasterline/formats/png/KnownChunk$Place"), accessFlags := 18, slot := 3, constantValue := 0 }, { name := "repeats", type := (.object "com/example/rasterline/rasterline/formats/png/KnownChunk$Repeats"), accessFlags := 18, slot := 4, constantValue := 0 }, { name := "$VALUES", type := (.array (.object "com/example/rasterline/rasterline/formats/png/KnownChunk")), accessFlags := 4122, slot := 27, constantValue := 0 }]
  methods := #[k6m0]
  instanceTypes := #[(.object "java/lang/String"), .int, .int, (.object "com/example/rasterline/rasterline/formats/png/KnownChunk$Place"), (.object "com/example/rasterline/rasterline/formats/png/KnownChunk$Repeats")]
  staticTypes := #[(.object "com/example/rasterline/rasterline/formats/png/KnownChunk"), (.object "com/example/rasterline/rasterline/formats/png/KnownChunk"), (.object "com/example/rasterline/rasterline/formats/png/KnownChunk"), (.object "com/example/rasterline/rasterline/formats/png/KnownChunk"), (.object "com/example/rasterline/rasterline/formats/png/KnownChunk"), (.object "com/example/rasterline/rasterline/formats/png/KnownChunk"), (.object "com/example/rasterline/rasterline/formats/png/KnownChunk"), (.object "com/example/rasterline/rasterline/formats/png/KnownChunk"), (.object "com/example/rasterline/rasterline/formats/png/KnownChunk"), (.object "com/example/rasterline/rasterline/formats/png/KnownChunk"), (.object "com/example/rasterline/rasterline/formats/png/KnownChunk"), (.object "com/example/rasterline/rasterline/formats/png/KnownChunk"), (.object "com/example/rasterline/rasterline/formats/png/KnownChunk"), (.object "com/example/rasterline/rasterline/formats/png/KnownChunk"), (.object "com/example/rasterline/rasterline/formats/png/KnownChunk"), (.object "java/util/Set"), .int, (.object "java/util/List"), (.object "java/util/List"), (.object "java/util/List"), (.object "java/util/List"), (.object "java/util/List"), (.object "java/util/List"), (.array .int), (.array .int), (.object "java/util/List"), (.object "java/util/List"), (.array (.object "com/example/rasterline/rasterline/formats/png/KnownChunk"))]
  resolved := Array.replicate 699 none
  statics := none }

def pool7 : Array CpInfo := pool [(1, u "java/lang/Cloneable"), (0, .class_ 1), (0, u "java/lang/Object"), (0, .class_ 3)] 3

/-- java/lang/Cloneable -/
def k7 : Class := { plain "java/lang/Cloneable" (some 0) with
  accessFlags := 1537
  interfaces := #[]
  cf := some (fileOf pool7 2 #[] #[] 1537 4 #[] #[])
  fields := #[]
  methods := #[]
  instanceTypes := #[]
  staticTypes := #[]
  resolved := Array.replicate 8 none
  statics := none }

/-- the primitive byte -/
def k8 : Class := { plain "byte" none with kind := .primitive 'B', accessFlags := 0x411 }
/-- [B -/
def k9 : Class := { plain "[B" (some 0) with kind := .array 8 .byte, interfaces := #[7, 4], accessFlags := 1041 }

/-- the primitive int -/
def k10 : Class := { plain "int" none with kind := .primitive 'I', accessFlags := 0x411 }
/-- [I -/
def k11 : Class := { plain "[I" (some 0) with kind := .array 10 .int, interfaces := #[7, 4], accessFlags := 1041 }

def heap : Heap := #[]
def classes : Array Class := #[k0, k1, k2, k3, k4, k5, k6, k7, k8, k9, k10, k11]
def interned : List (Array UInt16 × Addr) := []
def slotsUsed : Nat := 0
def theMethod : MethodId := ⟨1, 1⟩
def args0 : Array Value := #[.int 5, .int 7, .int 9, .int 11, .int 3]
def aboutOver (below : List Frame) : State where
  vm := { classes := classes, interned := interned.toArray }
  heap := heap
  slotsUsed := slotsUsed
  threads := #[{ frames := .invoking theMethod args0 :: below }]
def below0 : List Frame := [.native { method := ⟨0, 0⟩, args := #[] }]
def about1 : State := aboutOver below0
def p0 : Program := .bare "" "" ""
def e0 : Env := launch0.env 0 0 0
theorem w_frames : about1.frames = Frame.invoking theMethod args0 :: below0 := rfl
set_option maxRecDepth 65536 in
theorem w_args : argsFit about1.vm theMethod args0 = true := by decide +kernel
set_option maxRecDepth 65536 in
theorem w_heap : heapFits about1 = true := by decide +kernel
set_option maxRecDepth 65536 in
theorem w_runnable : about1.curStatus? = some .runnable := by decide +kernel
set_option maxRecDepth 65536 in
theorem w_alone : about1.alone = true := by decide +kernel
set_option maxRecDepth 65536 in
theorem w_named : about1.methodNamed? x = some theMethod := by decide +kernel
set_option maxRecDepth 65536 in
theorem w_hears : about1.hears theMethod below0 = true := by decide +kernel
set_option maxRecDepth 65536 in
theorem w_ripe : about1.ripe theMethod args0 below0 = true := by decide +kernel
theorem w_running : about1.status = .running := rfl
set_option maxRecDepth 65536 in
theorem w_room : about1.hasRoom e0.platform room_1 = true :=
  launch0.hasRoom_least _ room_1 (by decide +kernel) (by decide +kernel) (by decide +kernel) (by decide +kernel) (by decide +kernel) (by decide +kernel)
theorem allAtoms_all (ts : List Jvm.Cond) (a : Array Jvm.Value) (st : Jvm.State) : (allAtoms ts).before a st = ts.all (fun c => c.before a st) := by
  induction ts with
  | nil => rfl
  | cons c t ih =>
    show (Jvm.Cond.and c (allAtoms t)).before a st = _
    rw [Jvm.Cond.before_and, ih, List.all_cons]
def words1 : List Jvm.Cond := Jvm.Cond.code x code maxLocals ret :: tables_1
/-- a 'code' word, met by the world's own term for the bytes: nothing is compared byte by byte -/
theorem code_word {y : MethodName} {bytes : ByteArray} {mx : Nat} {rt : Option FieldType} {a : Array Value} {s : State} {m : MethodId} {meth : Method} {c : Code} (h1 : s.methodNamed? y = some m) (h2 : s.vm.method? m = some meth) (h3 : meth.code = some c) (h4 : c.code = bytes)
    (h5 : (c.maxLocals == mx && c.exceptionTable.isEmpty && decide (c.maxStack ≤ mostOperands) && decide (meth.sig.returnType = rt) && !meth.locks && decide (parseMethodDescriptor y.desc = some meth.sig)) = true) : (Jvm.Cond.code y bytes mx rt).before a s = true := by
  simp only [Bool.and_eq_true, beq_iff_eq, Bool.not_eq_true', decide_eq_true_eq] at h5
  obtain ⟨⟨⟨⟨⟨g1, g2⟩, g3⟩, g4⟩, g5⟩, g6⟩ := h5
  simp [Cond.before, Cond.holds, Cond.value, h1, h2, h3, h4, g1, g2, g3, g4, g5, g6]
def isCode : Jvm.Cond → Bool
  | .code _ _ _ _ => true
  | _ => false
theorem all_split {L : List Jvm.Cond} {P : Jvm.Cond → Bool} (h1 : L.all (fun c => isCode c || P c) = true) (h2 : ∀ c ∈ L.filter isCode, P c = true) : L.all P = true := by
  refine List.all_eq_true.mpr fun c hc => ?_
  have h := List.all_eq_true.mp h1 c hc
  rcases Bool.eq_false_or_eq_true (isCode c) with hi | hi
  · exact h2 c (List.mem_filter.mpr ⟨hc, hi⟩)
  · simpa [hi] using h
set_option maxRecDepth 65536 in
theorem w_c0 : (Jvm.Cond.code x code maxLocals ret).before args0 about1 = true := code_word (m := ⟨1, 1⟩) (meth := k1m1) (c := k1c1) (by decide +kernel) rfl rfl rfl (by decide +kernel)
set_option maxRecDepth 65536 in
theorem w_c1 : (Jvm.Cond.code ({ cls := "com/example/rasterline/rasterline/formats/png/KnownChunk", name := "packed", desc := "(I[I)[B" } : Jvm.MethodName) prog_41_method_30_code (5 : Nat) (Option.some (Jvm.ClassFile.FieldType.array Jvm.ClassFile.FieldType.byte))).before args0 about1 = true := code_word (m := ⟨6, 0⟩) (meth := k6m0) (c := k6c0) (by decide +kernel) rfl rfl rfl (by decide +kernel)
set_option maxRecDepth 65536 in
theorem w_c2 : (Jvm.Cond.code ({ cls := "com/example/rasterline/rasterline/formats/png/KnownChunkPackedPinLaw", name := "read", desc := "([BII)I" } : Jvm.MethodName) method_3_code (4 : Nat) (Option.some Jvm.ClassFile.FieldType.int)).before args0 about1 = true := code_word (m := ⟨1, 2⟩) (meth := k1m2) (c := k1c2) (by decide +kernel) rfl rfl rfl (by decide +kernel)
set_option maxRecDepth 65536 in
theorem w_c3 : (Jvm.Cond.code ({ cls := "com/example/rasterline/rasterline/formats/png/KnownChunkPackedPinLaw", name := "low", desc := "(II)I" } : Jvm.MethodName) method_4_code (2 : Nat) (Option.some Jvm.ClassFile.FieldType.int)).before args0 about1 = true := code_word (m := ⟨1, 3⟩) (meth := k1m3) (c := k1c3) (by decide +kernel) rfl rfl rfl (by decide +kernel)
def codes1 : List Jvm.Cond := [Jvm.Cond.code x code maxLocals ret, Jvm.Cond.code ({ cls := "com/example/rasterline/rasterline/formats/png/KnownChunk", name := "packed", desc := "(I[I)[B" } : Jvm.MethodName) prog_41_method_30_code (5 : Nat) (Option.some (Jvm.ClassFile.FieldType.array Jvm.ClassFile.FieldType.byte)), Jvm.Cond.code ({ cls := "com/example/rasterline/rasterline/formats/png/KnownChunkPackedPinLaw", name := "read", desc := "([BII)I" } : Jvm.MethodName) method_3_code (4 : Nat) (Option.some Jvm.ClassFile.FieldType.int), Jvm.Cond.code ({ cls := "com/example/rasterline/rasterline/formats/png/KnownChunkPackedPinLaw", name := "low", desc := "(II)I" } : Jvm.MethodName) method_4_code (2 : Nat) (Option.some Jvm.ClassFile.FieldType.int)]
set_option maxRecDepth 65536 in
theorem codes_eq : words1.filter isCode = codes1 := rfl
theorem w_codes : ∀ c ∈ words1.filter isCode, c.before args0 about1 = true := by
  rw [codes_eq]
  intro c hc
  simp only [codes1, List.mem_cons, List.not_mem_nil, or_false] at hc
  rcases hc with rfl | rfl | rfl | rfl
  · exact w_c0
  · exact w_c1
  · exact w_c2
  · exact w_c3
set_option maxRecDepth 65536 in
theorem w_t1 : words1.all (fun c => isCode c || c.before args0 about1) = true := by decide +kernel
theorem w_tables : (allAtoms (Jvm.Cond.code x code maxLocals ret :: tables_1)).before args0 about1 = true := by
  rw [allAtoms_all]
  show words1.all (fun c => c.before args0 about1) = true
  refine all_split ?_ w_codes
  rw [w_t1]
set_option maxRecDepth 65536 in
theorem w_case : (Jvm.Cond.and given_1 narrow_1).before args0 about1 = true := by decide +kernel
theorem w_applies : (headSpec (Jvm.Cond.code x code maxLocals ret :: tables_1) room_1).applies x e0.platform about1 = true :=
  (Spec.applies_iff w_frames).mpr ⟨w_running, w_runnable, w_alone, w_named, w_hears, w_ripe, w_room, w_tables⟩
theorem atStart : AtStart classFile x code maxLocals ret World_1 tables_1 room_1 Calls_1 rest_1 Pre_1 launch0 p0 e0 about1 theMethod args0 below0 :=
  ⟨lists_1, trivial, launch0.admits_env _ _ _, launch0.least_env, fairChoices_fair.cas, fairChoices_fair.clock, w_frames, w_args, w_heap, w_applies, trivial, trivial, w_case⟩
end start1
theorem witness_1 : WitnessClaimed_1 := ⟨start1.p0, start1.e0, start1.about1, start1.theMethod, start1.args0, start1.below0, start1.atStart⟩
end Jvm.Pilot.@@N@@
