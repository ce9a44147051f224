import JvmDerived
import JvmDerived.Pilot.@@N@@Statement
import JvmDerived.Pilot.@@N@@Code
set_option linter.unusedVariables false
set_option linter.unusedSimpArgs false
namespace Jvm.RoadKit
open Sem ClassFile Op Lib Jvm.Stand Jvm.Free Jvm.LawKit
section New
variable {p : Program} {l : Launch} {e : Env} {R : Room} {s : State} {m : MethodId} {args : Array Value} {below : List Frame} {meth : Method} {c : Code} {T : State} {locs : List Loc} {cells slots : Nat}
theorem retI (X : Stand p l e R s m args below meth c T locs cells slots) (hx : p.tables.exec = Jvm.exec) {pc : Nat} {Ls : Array Slot} {z : Int32} {rest : List Value} (hret : meth.sig.returnType = some .int) (hd : decode c.code pc = .ok (.ireturn, 1)) {fs : List Frame}
    (hl : ∀ (f : JFrame) (acts : List Action), f.method = m → f.locked = none → f.entered = [] → (doReturn e (T.setTop f) acts (some (.int z))).1 = T.setFrames fs) : Steps p.tables e below (T.setTop (mkF m pc Ls (.int z :: rest))) (T.setFrames fs) := by
  have hm' : T.vm.method? m = some meth := X.method'
  have hn : narrow .int (.int z) = .int z := rfl
  show Steps p.tables e below (T.setTop { method := m, pc := pc, locals := Ls, stack := _ :: rest, locked := none }) _
  jvm_step X.here [X.here.top, hx, hd, hm', hret, hn]
  first | (intro acts; rw [hl _ acts rfl rfl rfl]) | rw [hl _ _ rfl rfl rfl]
  exact Steps.refl _
theorem retJ (X : Stand p l e R s m args below meth c T locs cells slots) (hx : p.tables.exec = Jvm.exec) {pc : Nat} {Ls : Array Slot} {z : Int64} {rest : List Value} (hret : meth.sig.returnType = some .long) (hd : decode c.code pc = .ok (.lreturn, 1)) {fs : List Frame}
    (hl : ∀ (f : JFrame) (acts : List Action), f.method = m → f.locked = none → f.entered = [] → (doReturn e (T.setTop f) acts (some (.long z))).1 = T.setFrames fs) : Steps p.tables e below (T.setTop (mkF m pc Ls (.long z :: rest))) (T.setFrames fs) := by
  have hm' : T.vm.method? m = some meth := X.method'
  show Steps p.tables e below (T.setTop { method := m, pc := pc, locals := Ls, stack := _ :: rest, locked := none }) _
  jvm_step X.here [X.here.top, hx, hd, hm', hret, narrow]
  first | (intro acts; rw [hl _ acts rfl rfl rfl]) | rw [hl _ _ rfl rfl rfl]
  exact Steps.refl _
theorem retA (X : Stand p l e R s m args below meth c T locs cells slots) (hx : p.tables.exec = Jvm.exec) {pc : Nat} {Ls : Array Slot} {z : Value} {t : FieldType} {rest : List Value} (hret : meth.sig.returnType = some t) (ht : t.isReference = true) (hz : z.isRef = true) (hd : decode c.code pc = .ok (.areturn, 1)) {fs : List Frame}
    (hl : ∀ (f : JFrame) (acts : List Action), f.method = m → f.locked = none → f.entered = [] → (doReturn e (T.setTop f) acts (some z)).1 = T.setFrames fs) : Steps p.tables e below (T.setTop (mkF m pc Ls (z :: rest))) (T.setFrames fs) := by
  have hm' : T.vm.method? m = some meth := X.method'
  show Steps p.tables e below (T.setTop { method := m, pc := pc, locals := Ls, stack := _ :: rest, locked := none }) _
  jvm_step X.here [X.here.top, hx, hd, hm', hret, hz, ht]
  first | (intro acts; rw [hl _ acts rfl rfl rfl]) | rw [hl _ _ rfl rfl rfl]
  exact Steps.refl _
/-- what a body's contract owes from a state on -/
def Owe (p : Program) (e : Env) (below : List Frame) (first : State) (ck sk : Nat) (Q : Option Value → Heap → List Loc → Prop) (T : State) (g : JFrame) : Prop :=
  ∃ s₂ o, Steps p.tables e below (T.setTop g) s₂ ∧ s₂.status = .running ∧ Ended s₂ below o ∧ ∃ v L, o = .returned v ∧ Q v s₂.heap L ∧ FrameEnd first o s₂ L ck sk
theorem Owe.step {first : State} {ck sk : Nat} {Q : Option Value → Heap → List Loc → Prop} {T T' : State} {g g' : JFrame} (h : ∀ t, Steps p.tables e below (T'.setTop g') t → Steps p.tables e below (T.setTop g) t)
    (k : Owe p e below first ck sk Q T' g') : Owe p e below first ck sk Q T g := by
  obtain ⟨s₂, o, h1, h2⟩ := k
  exact ⟨s₂, o, h _ h1, h2⟩
theorem Owe.ret {ck sk : Nat} {Q : Option Value → Heap → List Loc → Prop} {g : JFrame} (X : Stand p l e R s m args below meth c T locs cells slots) (hlk : meth.locks = false) {v : Option Value} (hv : meth.sig.returnType = none → v = none)
    (hst : ∀ fs, (∀ (f : JFrame) (acts : List Action), f.method = m → f.locked = none → f.entered = [] → (doReturn e (T.setTop f) acts v).1 = T.setFrames fs) → Steps p.tables e below (T.setTop g) (T.setFrames fs))
    (hQ : Q v T.heap locs) (hc : cells ≤ ck) (hs : slots ≤ sk) : Owe p e below s ck sk Q T g := by
  obtain ⟨fs, hr, hrun, hended, hW, hsame⟩ := X.leave (v := v) hv hlk
  exact ⟨_, _, hst fs hr, hrun, hended, _, _, rfl, hQ, ⟨_, rfl⟩, hW, hsame.mono hc hs⟩
/-- a body that writes nothing and makes nothing: it returns w -/
def QP (w : Value) (h0 : Heap) (n0 : Nat) (v : Option Value) (h : Heap) (L : List Loc) : Prop := v = some w ∧ Fr n0 L ∧ h = h0
/-- .. and returns nothing -/
def QN (h0 : Heap) (n0 : Nat) (v : Option Value) (h : Heap) (L : List Loc) : Prop := v = none ∧ Fr n0 L ∧ h = h0
/-- the law itself -/
def QL (w : Value) (n0 : Nat) (v : Option Value) (h : Heap) (L : List Loc) : Prop := v = some w ∧ Fr n0 L
theorem Owe.cast {first : State} {ck sk n0 : Nat} {w w' : Int32} {g : JFrame} (q : w' = w) (k : Owe p e below first ck sk (QL (.int w') n0) T g) : Owe p e below first ck sk (QL (.int w) n0) T g := q ▸ k
end New
end Jvm.RoadKit
namespace Jvm.RoadKit
open Sem ClassFile Op Lib Jvm.Stand Jvm.Free Jvm.LawKit
section Arrays
variable {p : Program} {l : Launch} {e : Env} {R : Room} {s : State} {m : MethodId} {args : Array Value} {below : List Frame} {meth : Method} {c : Code} {T : State} {locs : List Loc} {cells slots : Nat}
variable {Z : State} {h h' : Heap} {a b : Addr} {ty : FieldType} {n sl : Nat} {f : Nat → Value} {v : Value} {ws : List Addr}
/-- an array of n places; place j holds f j -/
def AV (Z : State) (h : Heap) (a : Addr) (ty : FieldType) (n : Nat) (f : Nat → Value) : Prop := ∃ c : Cell, Arr Z h a c ty ∧ c.slots.size = n ∧ ∀ j, j < n → c.slots[j]? = some (f j)
abbrev AI (Z : State) (h : Heap) (a : Addr) (ty : FieldType) (n : Nat) (f : Nat → Int32) : Prop := AV Z h a ty n (fun k => .int (f k))
abbrev AJ (Z : State) (h : Heap) (a : Addr) (n : Nat) (f : Nat → Int64) : Prop := AV Z h a .long n (fun k => .long (f k))
def own_upd {α : Type} (f : Nat → α) (j : Nat) (x : α) : Nat → α := fun k => if k = j then x else f k
theorem own_upd_same {α : Type} (f : Nat → α) (j : Nat) (x : α) : own_upd f j x j = x := if_pos rfl
theorem own_upd_other {α : Type} (f : Nat → α) (j k : Nat) (x : α) (q : k ≠ j) : own_upd f j x k = f k := if_neg q
theorem AV.lt (F : AV Z h a ty n f) : a < h.size := by obtain ⟨c, A, -⟩ := F; exact A.lt
theorem AV.ext (F : AV Z h a ty n f) (E : Ext h h') : AV Z h' a ty n f := by obtain ⟨c, A, r⟩ := F; exact ⟨c, A.ext E, r⟩
theorem AV.other (F : AV Z h b ty n f) (W : Wr h h' a sl v) (q : b ≠ a) : AV Z h' b ty n f := by obtain ⟨c, A, r⟩ := F; exact ⟨c, A.other W q, r⟩
theorem AV.keep (F : AV Z h a ty n f) (K : Keep h h' ws) (q : a ∉ ws) : AV Z h' a ty n f := by obtain ⟨c, A, r⟩ := F; exact ⟨c, ⟨K.2.1 a c A.1 q, A.2⟩, r⟩
theorem AV.congr {f' : Nat → Value} (F : AV Z h a ty n f) (q : ∀ k, k < n → f k = f' k) : AV Z h a ty n f' := by obtain ⟨c, A, S, H⟩ := F; exact ⟨c, A, S, fun k hk => by rw [← q k hk]; exact H k hk⟩
theorem AV.new {k : ClassId} {z : Int32} (A : Arr Z h a (newA k ty z) ty) (e : z.toNatClampNeg = n) : AV Z h a ty n (fun _ => defaultValue ty) := by
  subst e
  exact ⟨_, A, sz_new _ _ _, fun j hj => by simp [newA, hj]⟩
theorem AV.set {j : Nat} (F : AV Z h a ty n f) (W : Wr h h' a j v) : AV Z h' a ty n (own_upd f j v) := by
  obtain ⟨c, A, S, H⟩ := F
  refine ⟨_, A.same W, by rw [sz_set]; exact S, fun k hk => ?_⟩
  by_cases u : k = j
  · subst u; simp [Cell.setSlot, S, hk, own_upd]
  · have := H k hk
    simp only [Cell.setSlot, own_upd, if_neg u] at this ⊢
    rw [Array.getElem?_setIfInBounds_ne (fun q => u q.symm)]; exact this
theorem AI.set {j : Nat} {g : Nat → Int32} {x : Int32} (F : AI Z h a ty n g) (W : Wr h h' a j (.int x)) : AI Z h' a ty n (own_upd g j x) := (AV.set F W).congr fun k _ => by unfold own_upd; split <;> rfl
theorem AJ.set {j : Nat} {g : Nat → Int64} {x : Int64} (F : AJ Z h a n g) (W : Wr h h' a j (.long x)) : AJ Z h' a n (own_upd g j x) := (AV.set F W).congr fun k _ => by unfold own_upd; split <;> rfl
theorem in_of {c : Cell} {j : Int32} (S : c.slots.size = n) (j0 : ¬ j < 0) (jn : j.toNatClampNeg < n) : ¬ (j < 0 ∨ c.slots.size ≤ j.toNatClampNeg) := by rw [S]; exact fun q => q.elim j0 fun y => absurd jn (Nat.not_lt.mpr y)
theorem ldAI (X : Stand p l e R s m args below meth c T locs cells slots) (hx : p.tables.exec = Jvm.exec) (hZ : Z.Warmed39 s.vm) (eT : T.heap = h) (F : AV Z h a .int n f) {j : Int32} (j0 : ¬ j < 0) (jn : j.toNatClampNeg < n) {g : JFrame} (hg : g.method = m) {rest : List Value} (hs : g.stack = .int j :: .ref a :: rest) (hd : decode c.code g.pc = .ok (.iaload, 1)) (target : State)
    (hr : Steps p.tables e below (T.setTop { g with pc := g.pc + 1, stack := f j.toNatClampNeg :: rest }) target) : Steps p.tables e below (T.setTop g) target := by
  obtain ⟨cl, A, S, H⟩ := F
  exact X.iaload hx (by rw [eT]; exact A.1) (State.isArrayOf_alike hZ.alike A.2.1) A.2.2 (in_of S j0 jn) (H _ jn) hg hs hd target hr
theorem ldAB (X : Stand p l e R s m args below meth c T locs cells slots) (hx : p.tables.exec = Jvm.exec) (hZ : Z.Warmed39 s.vm) (eT : T.heap = h) (F : AV Z h a .byte n f) {j : Int32} (j0 : ¬ j < 0) (jn : j.toNatClampNeg < n) {g : JFrame} (hg : g.method = m) {rest : List Value} (hs : g.stack = .int j :: .ref a :: rest) (hd : decode c.code g.pc = .ok (.baload, 1)) (target : State)
    (hr : Steps p.tables e below (T.setTop { g with pc := g.pc + 1, stack := f j.toNatClampNeg :: rest }) target) : Steps p.tables e below (T.setTop g) target := by
  obtain ⟨cl, A, S, H⟩ := F
  exact X.baloadBytes hx (by rw [eT]; exact A.1) (State.isArrayOf_alike hZ.alike A.2.1) A.2.2 (in_of S j0 jn) (H _ jn) hg hs hd target hr
theorem ldAJ (X : Stand p l e R s m args below meth c T locs cells slots) (hx : p.tables.exec = Jvm.exec) (hZ : Z.Warmed39 s.vm) (eT : T.heap = h) (F : AV Z h a .long n f) {j : Int32} (j0 : ¬ j < 0) (jn : j.toNatClampNeg < n) {g : JFrame} (hg : g.method = m) {rest : List Value} (hs : g.stack = .int j :: .ref a :: rest) (hd : decode c.code g.pc = .ok (.laload, 1)) (target : State)
    (hr : Steps p.tables e below (T.setTop { g with pc := g.pc + 1, stack := f j.toNatClampNeg :: rest }) target) : Steps p.tables e below (T.setTop g) target := by
  obtain ⟨cl, A, S, H⟩ := F
  exact X.laload hx (by rw [eT]; exact A.1) (State.isArrayOf_alike hZ.alike A.2.1) A.2.2 (in_of S j0 jn) (H _ jn) hg hs hd target hr
theorem stAI (X : Stand p l e R s m args below meth c T locs cells slots) (hx : p.tables.exec = Jvm.exec) (hZ : Z.Warmed39 s.vm) (eT : T.heap = h) {f : Nat → Int32} (F : AI Z h a .int n f) {j x : Int32} (j0 : ¬ j < 0) (jn : j.toNatClampNeg < n) {g : JFrame} (hg : g.method = m) {rest : List Value} (hs : g.stack = .int x :: .int j :: .ref a :: rest) (hd : decode c.code g.pc = .ok (.iastore, 1)) :
    ∃ T' h', Stand p l e R s m args below meth c T' (locs ++ [⟨a, j.toNatClampNeg⟩]) cells slots ∧ T'.heap = h' ∧ Wr h h' a j.toNatClampNeg (.int x) ∧ AI Z h' a .int n (own_upd f j.toNatClampNeg x) ∧ ∀ target, Steps p.tables e below (T'.setTop { g with pc := g.pc + 1, stack := rest }) target → Steps p.tables e below (T.setTop g) target := by
  obtain ⟨cl, A, S, H⟩ := id F
  obtain ⟨T', h', X', e', W, st⟩ := stI X hx hZ eT A (in_of S j0 jn) hg hs hd
  exact ⟨T', h', X', e', W, AI.set F W, st⟩
theorem stAB (X : Stand p l e R s m args below meth c T locs cells slots) (hx : p.tables.exec = Jvm.exec) (hZ : Z.Warmed39 s.vm) (eT : T.heap = h) {f : Nat → Int32} (F : AI Z h a .byte n f) {j x : Int32} (j0 : ¬ j < 0) (jn : j.toNatClampNeg < n) {g : JFrame} (hg : g.method = m) {rest : List Value} (hs : g.stack = .int x :: .int j :: .ref a :: rest) (hd : decode c.code g.pc = .ok (.bastore, 1)) :
    ∃ T' h', Stand p l e R s m args below meth c T' (locs ++ [⟨a, j.toNatClampNeg⟩]) cells slots ∧ T'.heap = h' ∧ Wr h h' a j.toNatClampNeg (.int (nar .byte x)) ∧ AI Z h' a .byte n (own_upd f j.toNatClampNeg (nar .byte x)) ∧ ∀ target, Steps p.tables e below (T'.setTop { g with pc := g.pc + 1, stack := rest }) target → Steps p.tables e below (T.setTop g) target := by
  obtain ⟨cl, A, S, H⟩ := id F
  obtain ⟨T', h', X', e', W, st⟩ := stB X hx hZ eT A (in_of S j0 jn) hg hs hd
  exact ⟨T', h', X', e', W, AI.set F W, st⟩
theorem stAC (X : Stand p l e R s m args below meth c T locs cells slots) (hx : p.tables.exec = Jvm.exec) (hZ : Z.Warmed39 s.vm) (eT : T.heap = h) {f : Nat → Int32} (F : AI Z h a .char n f) {j x : Int32} (j0 : ¬ j < 0) (jn : j.toNatClampNeg < n) {g : JFrame} (hg : g.method = m) {rest : List Value} (hs : g.stack = .int x :: .int j :: .ref a :: rest) (hd : decode c.code g.pc = .ok (.castore, 1)) :
    ∃ T' h', Stand p l e R s m args below meth c T' (locs ++ [⟨a, j.toNatClampNeg⟩]) cells slots ∧ T'.heap = h' ∧ Wr h h' a j.toNatClampNeg (.int (nar .char x)) ∧ AI Z h' a .char n (own_upd f j.toNatClampNeg (nar .char x)) ∧ ∀ target, Steps p.tables e below (T'.setTop { g with pc := g.pc + 1, stack := rest }) target → Steps p.tables e below (T.setTop g) target := by
  obtain ⟨cl, A, S, H⟩ := id F
  obtain ⟨T', h', X', e', W, st⟩ := stC X hx hZ eT A (in_of S j0 jn) hg hs hd
  exact ⟨T', h', X', e', W, AI.set F W, st⟩
theorem stAJ (X : Stand p l e R s m args below meth c T locs cells slots) (hx : p.tables.exec = Jvm.exec) (hZ : Z.Warmed39 s.vm) (eT : T.heap = h) {f : Nat → Int64} (F : AJ Z h a n f) {j : Int32} {x : Int64} (j0 : ¬ j < 0) (jn : j.toNatClampNeg < n) {g : JFrame} (hg : g.method = m) {rest : List Value} (hs : g.stack = .long x :: .int j :: .ref a :: rest) (hd : decode c.code g.pc = .ok (.lastore, 1)) :
    ∃ T' h', Stand p l e R s m args below meth c T' (locs ++ [⟨a, j.toNatClampNeg⟩]) cells slots ∧ T'.heap = h' ∧ Wr h h' a j.toNatClampNeg (.long x) ∧ AJ Z h' a n (own_upd f j.toNatClampNeg x) ∧ ∀ target, Steps p.tables e below (T'.setTop { g with pc := g.pc + 1, stack := rest }) target → Steps p.tables e below (T.setTop g) target := by
  obtain ⟨cl, A, S, H⟩ := id F
  obtain ⟨T', h', X', e', W, st⟩ := stJ X hx hZ eT A (in_of S j0 jn) hg hs hd
  exact ⟨T', h', X', e', W, AJ.set F W, st⟩
theorem lenA (X : Stand p l e R s m args below meth c T locs cells slots) (hx : p.tables.exec = Jvm.exec) (hZ : Z.Warmed39 s.vm) (eT : T.heap = h) (F : AV Z h a ty n f) {z : Int32} (hn : n.toInt32 = z) {g : JFrame} (hg : g.method = m) {rest : List Value} (hs : g.stack = .ref a :: rest) (hd : decode c.code g.pc = .ok (.arraylength, 1)) (target : State)
    (hr : Steps p.tables e below (T.setTop { g with pc := g.pc + 1, stack := .int z :: rest }) target) : Steps p.tables e below (T.setTop g) target := by
  obtain ⟨cl, A, S, H⟩ := F
  subst hn
  exact X.arraylength hx (by rw [eT]; exact A.1) (State.isArrayOf_alike hZ.alike A.2.1) hg hs hd target (by rw [S]; exact hr)
end Arrays
end Jvm.RoadKit
namespace Jvm.Pilot.@@N@@
open Jvm Jvm.ClassFile Sem Op Lib Jvm.Free Jvm.Stand Jvm.LawKit Jvm.RoadKit Bundle Jvm.Pilot.@@N@@.Jvm.D
theorem own_irem (x y : Int32) : x - (x / y) * y = x % y := by
  apply Int32.toInt_inj.mp
  have h1 := Int32.le_toInt (x % y)
  have h2 := Int32.toInt_lt (x % y)
  rw [Int32.toInt_sub, Int32.toInt_mul, Int32.toInt_div, Int.bmod_mul_bmod, Int.sub_bmod_bmod, Int.mul_comm (x.toInt.tdiv y.toInt), ← Int.tmod_def, ← Int32.toInt_mod]
  exact Int.bmod_eq_of_le_mul_two (by omega) (by omega)
/-- an index, told by its int -/
theorem own_ix {j : Int32} {n : Nat} (h0 : 0 ≤ j.toInt) (h1 : j.toInt < (n : Int)) : ¬ j < 0 ∧ j.toNatClampNeg < n := by
  rw [Int32.lt_iff_toInt_lt]
  have e0 : (0 : Int32).toInt = 0 := rfl
  have e1 : j.toNatClampNeg = j.toInt.toNat := rfl
  rw [e0, e1]; omega
theorem own_d1_0 : decode prog_50_method_1_code 0 = .ok (.aload_n 0, 1) := by decide +kernel
theorem own_d1_1 : decode prog_50_method_1_code 1 = .ok (.invokespecial 3, 3) := by decide +kernel
theorem own_d1_4 : decode prog_50_method_1_code 4 = .ok (.aload_n 0, 1) := by decide +kernel
theorem own_d1_5 : decode prog_50_method_1_code 5 = .ok (.bipush 16, 2) := by decide +kernel
theorem own_d1_7 : decode prog_50_method_1_code 7 = .ok (.newarray .int, 2) := by decide +kernel
theorem own_d1_9 : decode prog_50_method_1_code 9 = .ok (.putfield 9, 3) := by decide +kernel
theorem own_d1_12 : decode prog_50_method_1_code 12 = .ok (.return_, 1) := by decide +kernel
theorem own_pn0 : plainName "com/example/feuillet/feuillet/store/OpenTable" = true := by first | (simp [plainName, overriddenIn]; done) | decide +kernel
theorem own_ef1 (m : MethodId) (a0 : Addr) : entryFrame m #[(.ref a0)] 1 = mkF m 0 #[.val (.ref a0)] [] := by first | (simp [entryFrame, mkF, argsToLocals, Value.category]; done) | rfl
def own_Q1 (Z : State) (a0 : Addr) (h0 : Heap) (n0 : Nat) (v : Option Value) (h : Heap) (L : List Loc) : Prop := ∃ b2 : Addr, v = none ∧ Fr n0 L ∧ Keep h0 h [a0] ∧ h0.size ≤ b2 ∧ Exa Z h a0 "com/example/feuillet/feuillet/store/OpenTable" ∧ Fld Z h a0 "com/example/feuillet/feuillet/store/OpenTable" "size" "I" (.int (0 : Int32)) ∧ Fld Z h a0 "com/example/feuillet/feuillet/store/OpenTable" "slots" "[I" (.ref b2) ∧ AI Z h b2 .int 16 (fun _ => (0 : Int32))
set_option maxRecDepth 65536 in
set_option maxHeartbeats 40000000 in
theorem own_rm1 (l : Launch) (Z : State) (aA : Array Value) (hw : ∀ d ∈ tables_1, d.before aA Z = true) (ws : List Jvm.Cond) (a0 : Addr)  (h0 : Heap) (n0 : Nat) (Z0 : n0 ≤ h0.size) (E_a0 : Exa Z h0 a0 "com/example/feuillet/feuillet/store/OpenTable") (F_slots : Fld Z h0 a0 "com/example/feuillet/feuillet/store/OpenTable" "slots" "[I" .null) (F_size : Fld Z h0 a0 "com/example/feuillet/feuillet/store/OpenTable" "size" "I" (.int (0 : Int32))) (g_a0 : n0 ≤ a0) :
    MetFree l (⟨"com/example/feuillet/feuillet/store/OpenTable", "<init>", "()V"⟩ : MethodName) (head1 (Jvm.Cond.code (⟨"com/example/feuillet/feuillet/store/OpenTable", "<init>", "()V"⟩ : MethodName) prog_50_method_1_code 1 none :: ws) ({ frames := 1, cells := 1, slots := 16, locals := 12 } : Room)) (fun a U => a = #[(.ref a0)] ∧ Z.Warmed39 U.vm ∧ U.heap = h0) (fun _ _ _ _ _ => True) (fun _ U o U' => ∃ v L, o = .returned v ∧ (own_Q1 Z a0 h0 n0) v U'.heap L ∧ FrameEnd U o U' L ({ frames := 1, cells := 1, slots := 16, locals := 12 } : Room).cells ({ frames := 1, cells := 1, slots := 16, locals := 12 } : Room).slots) := by
  refine MetFree.of_bodySF (plainFor_of_name own_pn0) hisR ?_
  intro p e s m args below meth c s₁ Bd hml0 hP hK
  obtain ⟨rfl, hZ, hh⟩ := hP
  have hx := Bd.exec
  have hby := Bd.bytes
  have hml : c.maxLocals = 1 := hml0
  have hown : s.vm.findClass "com/example/feuillet/feuillet/store/OpenTable" = some m.cls := findClass_of_methodNamed Bd.named
  have hnm := (name_of_methodNamed Bd.named Bd.method).1
  have X0 : Stand p l e ({ frames := 1, cells := 1, slots := 16, locals := 12 } : Room) s m #[(.ref a0)] below meth c s₁ [] 0 0 := Stand.of_body Bd
  have e0 : s₁.heap = h0 := by rw [← hh, Bd.state]; rfl
  have N0 := Fr.nil n0
  refine Owe.step (T := s₁) (T' := s₁) (g' := (mkF m 0 #[.val (.ref a0)] [])) (fun t k => castTop (own_ef1 m a0) k) ?_
  obtain ⟨T1, X1, e1, st1⟩ := initO X0 hx hZ hown (hw _ (List.mem_of_getElem? (i := 8) rfl)) (hw _ (List.mem_of_getElem? (i := 9) rfl)) (hw _ (List.mem_of_getElem? (i := 10) rfl)) e0 (g := (mkF m 1 #[.val (.ref a0)] [(.ref a0)])) rfl (by rw [hml]; rfl) rfl (hb hby own_d1_1) (by decide) (W := 0) (by show 2 * 0 + _ ≤ _; exact Nat.le_of_eq rfl) (by decide)
  obtain ⟨T2, h2, k2, X2, e2, E2, A2, st2⟩ := newP X1 hx hZ (hw _ (List.mem_of_getElem? (i := 11) rfl)) e1 (g := (mkF m 7 #[.val (.ref a0)] [(.int (16 : Int32)), (.ref a0)])) rfl (hb hby own_d1_7) rfl (by decide) (cap := 16) (by decide) (by decide) (by decide) (by decide)
  obtain ⟨b2, g2⟩ : ∃ z, z = h0.size := ⟨_, rfl⟩
  rw [← g2] at A2 st2
  have ne_a0_b2 : a0 ≠ b2 := Nat.ne_of_lt (Nat.lt_of_lt_of_le E_a0.lt (Nat.le_of_eq g2.symm))
  have g_b2 : n0 ≤ b2 := Nat.le_trans Z0 (Nat.le_of_eq g2.symm)
  have sz_b2 : h0.size ≤ b2 := Nat.le_trans (Keep.refl h0 [a0]).1 (Nat.le_of_eq g2.symm)
  have E_a0_x2 := E_a0.ext E2
  have F_slots_x2 := F_slots.ext E2
  have F_size_x2 := F_size.ext E2
  have K2 := (Keep.refl h0 [a0]).ext E2
  have Zn2 : n0 ≤ h2.size := Nat.le_trans Z0 E2.1
  have V2 : AI Z h2 b2 .int 16 (fun _ => (0 : Int32)) := AV.new A2 (by decide)
  obtain ⟨T3, h3, X3, e3, W3, st3⟩ := putF X2 hx hZ hown (host := "") (Or.inl (hw _ (List.mem_of_getElem? (i := 12) rfl))) Via.refl e2 F_slots_x2 E_a0_x2 (Or.inl (hw _ (List.mem_of_getElem? (i := 13) rfl))) (hw _ (List.mem_of_getElem? (i := 3) rfl)) (ty := (.array .int)) (by decide) rfl rfl (g := (mkF m 9 #[.val (.ref a0)] [(.ref b2), (.ref a0)])) rfl rfl (hb hby own_d1_9)
  have Fn3 := F_slots_x2.same W3
  have E_a0_w3 := E_a0_x2.wr W3
  have F_size_w3 := F_size_x2.other W3 (Or.inr (slot_ne (Or.inl (hw _ (List.mem_of_getElem? (i := 31) rfl))) (Or.inl (hw _ (List.mem_of_getElem? (i := 13) rfl))) (by decide) (t := .int) (t' := (.array .int)) (by decide) (by decide)))
  have V2_w3 := V2.other W3 (Ne.symm ne_a0_b2)
  have K3 := K2.wr W3 (Or.inl (List.mem_of_getElem? (i := 0) rfl))
  have N3 := Fr.snoc X3 N0 g_a0
  have Zn3 : n0 ≤ h3.size := Nat.le_trans Zn2 (Keep.of_wr W3).1
  refine Owe.step (T' := T3) (g' := (mkF m 12 #[.val (.ref a0)] [])) (fun t k => ?_) ?_
  · show Steps p.tables e below (s₁.setTop (mkF m 0 #[.val (.ref a0)] [])) t
    refine XS.aloadN X0.here hx rfl (hb hby own_d1_0) rfl rfl ?_
    show Steps p.tables e below (s₁.setTop (mkF m 1 #[.val (.ref a0)] [(.ref a0)])) t
    refine st1 _ ?_
    show Steps p.tables e below (T1.setTop (mkF m 4 #[.val (.ref a0)] [])) t
    refine XS.aloadN X1.here hx rfl (hb hby own_d1_4) rfl rfl ?_
    show Steps p.tables e below (T1.setTop (mkF m 5 #[.val (.ref a0)] [(.ref a0)])) t
    refine XS.bipush X1.here hx rfl (hb hby own_d1_5) ?_
    show Steps p.tables e below (T1.setTop (mkF m 7 #[.val (.ref a0)] [(.int (16 : Int32)), (.ref a0)])) t
    refine st2 _ ?_
    show Steps p.tables e below (T2.setTop (mkF m 9 #[.val (.ref a0)] [(.ref b2), (.ref a0)])) t
    refine st3 _ ?_
    show Steps p.tables e below (T3.setTop (mkF m 12 #[.val (.ref a0)] [])) t
    exact k
  refine Owe.ret X3 Bd.notSynchronized (v := none) (fun _ => rfl) (fun fs hr => ?_) (by rw [e3]; exact ⟨b2, rfl, N3, K3, sz_b2, E_a0_w3, F_size_w3, Fn3, V2_w3⟩) (by decide) (by decide)
  show Steps p.tables e below (T3.setTop (mkF m 12 #[.val (.ref a0)] [])) _
  exact X3.returnOut hx Bd.returns (hb hby own_d1_12) hr
theorem own_d4_0 : decode jdk_33_method_42_code 0 = .ok (.iload_n 0, 1) := by decide +kernel
theorem own_d4_1 : decode jdk_33_method_42_code 1 = .ok (.i2l, 1) := by decide +kernel
theorem own_d4_2 : decode jdk_33_method_42_code 2 = .ok (.ldc2_w 262, 3) := by decide +kernel
theorem own_d4_5 : decode jdk_33_method_42_code 5 = .ok (.land, 1) := by decide +kernel
theorem own_d4_6 : decode jdk_33_method_42_code 6 = .ok (.lreturn, 1) := by decide +kernel
theorem own_pn1 : plainName "java/lang/Integer" = true := by first | (simp [plainName, overriddenIn]; done) | decide +kernel
theorem own_ef4 (m : MethodId) (p0 : Int32) : entryFrame m #[(.int p0)] 1 = mkF m 0 #[.val (.int p0)] [] := by first | (simp [entryFrame, mkF, argsToLocals, Value.category]; done) | rfl
def own_f4_0 (p0 : Int32) : Int64 := ((p0.toInt64) &&& (4294967295 : Int64))
set_option maxRecDepth 65536 in
set_option maxHeartbeats 40000000 in
theorem own_rm4 (l : Launch) (Z : State) (aA : Array Value) (hw : ∀ d ∈ tables_1, d.before aA Z = true) (ws : List Jvm.Cond) (p0 : Int32)  (h0 : Heap) (n0 : Nat) (Z0 : n0 ≤ h0.size) :
    MetFree l (⟨"java/lang/Integer", "toUnsignedLong", "(I)J"⟩ : MethodName) (head1 (Jvm.Cond.code (⟨"java/lang/Integer", "toUnsignedLong", "(I)J"⟩ : MethodName) jdk_33_method_42_code 1 (some .long) :: ws) ({ frames := 0, cells := 0, slots := 0, locals := 0 } : Room)) (fun a U => a = #[(.int p0)] ∧ Z.Warmed39 U.vm ∧ U.heap = h0) (fun _ _ _ _ _ => True) (fun _ U o U' => ∃ v L, o = .returned v ∧ (QP (.long (own_f4_0 p0)) h0 n0) v U'.heap L ∧ FrameEnd U o U' L ({ frames := 0, cells := 0, slots := 0, locals := 0 } : Room).cells ({ frames := 0, cells := 0, slots := 0, locals := 0 } : Room).slots) := by
  refine MetFree.of_bodySF (plainFor_of_name own_pn1) hisR ?_
  intro p e s m args below meth c s₁ Bd hml0 hP hK
  obtain ⟨rfl, hZ, hh⟩ := hP
  have hx := Bd.exec
  have hby := Bd.bytes
  have hml : c.maxLocals = 1 := hml0
  have hown : s.vm.findClass "java/lang/Integer" = some m.cls := findClass_of_methodNamed Bd.named
  have hnm := (name_of_methodNamed Bd.named Bd.method).1
  have X0 : Stand p l e ({ frames := 0, cells := 0, slots := 0, locals := 0 } : Room) s m #[(.int p0)] below meth c s₁ [] 0 0 := Stand.of_body Bd
  have e0 : s₁.heap = h0 := by rw [← hh, Bd.state]; rfl
  have N0 := Fr.nil n0
  refine Owe.step (T := s₁) (T' := s₁) (g' := (mkF m 0 #[.val (.int p0)] [])) (fun t k => castTop (own_ef4 m p0) k) ?_
  rw [show own_f4_0 p0 = ((p0.toInt64) &&& (4294967295 : Int64)) from rfl]
  refine Owe.ret X0 Bd.notSynchronized (v := (some (.long ((p0.toInt64) &&& (4294967295 : Int64))))) (fun h => by rw [Bd.returns] at h; cases h) (fun fs hr => ?_) ⟨rfl, N0, e0⟩ (by decide) (by decide)
  show Steps p.tables e below (s₁.setTop (mkF m 0 #[.val (.int p0)] [])) _
  refine XS.iloadN X0.here hx rfl (hb hby own_d4_0) rfl ?_
  show Steps p.tables e below (s₁.setTop (mkF m 1 #[.val (.int p0)] [(.int p0)])) _
  refine XS.i2l X0.here hx rfl (hb hby own_d4_1) rfl ?_
  show Steps p.tables e below (s₁.setTop (mkF m 2 #[.val (.int p0)] [(.long (p0.toInt64))])) _
  refine X0.ldc2Long hx hown (mvT hZ (hw _ (List.mem_of_getElem? (i := 23) rfl))) (g := (mkF m 2 #[.val (.int p0)] [(.long (p0.toInt64))])) rfl (hb hby own_d4_2) _ ?_
  show Steps p.tables e below (s₁.setTop (mkF m 5 #[.val (.int p0)] [(.long (4294967295 : Int64)), (.long (p0.toInt64))])) _
  refine XS.land X0.here hx rfl (hb hby own_d4_5) rfl ?_
  show Steps p.tables e below (s₁.setTop (mkF m 6 #[.val (.int p0)] [(.long ((p0.toInt64) &&& (4294967295 : Int64)))])) _
  exact retJ X0 hx Bd.returns (hb hby own_d4_6) hr
theorem own_d3_0 : decode prog_50_method_2_code 0 = .ok (.iload_n 1, 1) := by decide +kernel
theorem own_d3_1 : decode prog_50_method_2_code 1 = .ok (.invokestatic 13, 3) := by decide +kernel
theorem own_d3_4 : decode prog_50_method_2_code 4 = .ok (.aload_n 0, 1) := by decide +kernel
theorem own_d3_5 : decode prog_50_method_2_code 5 = .ok (.getfield 9, 3) := by decide +kernel
theorem own_d3_8 : decode prog_50_method_2_code 8 = .ok (.arraylength, 1) := by decide +kernel
theorem own_d3_9 : decode prog_50_method_2_code 9 = .ok (.i2l, 1) := by decide +kernel
theorem own_d3_10 : decode prog_50_method_2_code 10 = .ok (.lmul, 1) := by decide +kernel
theorem own_d3_11 : decode prog_50_method_2_code 11 = .ok (.bipush 32, 2) := by decide +kernel
theorem own_d3_13 : decode prog_50_method_2_code 13 = .ok (.lushr, 1) := by decide +kernel
theorem own_d3_14 : decode prog_50_method_2_code 14 = .ok (.l2i, 1) := by decide +kernel
theorem own_d3_15 : decode prog_50_method_2_code 15 = .ok (.ireturn, 1) := by decide +kernel
theorem own_pd0 : parseMethodDescriptor "(I)J" = some ⟨[.int], some .long⟩ := by decide +kernel
theorem own_ef3 (m : MethodId) (a0 : Addr) (p1 : Int32) : entryFrame m #[(.ref a0), (.int p1)] 2 = mkF m 0 #[.val (.ref a0), .val (.int p1)] [] := by first | (simp [entryFrame, mkF, argsToLocals, Value.category]; done) | rfl
def own_f3_0 (p1 : Int32) : Int32 := (((((own_f4_0 p1) * ((16 : Int32).toInt64)).toUInt64 >>> ((32 : Int32) &&& 0x3f).toInt64.toUInt64).toInt64).toInt32)
set_option maxRecDepth 65536 in
set_option maxHeartbeats 40000000 in
theorem own_rm3 (l : Launch) (Z : State) (aA : Array Value) (hw : ∀ d ∈ tables_1, d.before aA Z = true) (ws : List Jvm.Cond) (a0 : Addr) (p1 : Int32) (tA : Addr) (fn : Nat → Int32) (h0 : Heap) (n0 : Nat) (Z0 : n0 ≤ h0.size) (F_slots : Fld Z h0 a0 "com/example/feuillet/feuillet/store/OpenTable" "slots" "[I" (.ref tA)) (A_t : AI Z h0 tA .int 16 fn) :
    MetFree l (⟨"com/example/feuillet/feuillet/store/OpenTable", "start", "(I)I"⟩ : MethodName) (head1 (Jvm.Cond.code (⟨"com/example/feuillet/feuillet/store/OpenTable", "start", "(I)I"⟩ : MethodName) prog_50_method_2_code 2 (some .int) :: ws) ({ frames := 1, cells := 0, slots := 0, locals := 12 } : Room)) (fun a U => a = #[(.ref a0), (.int p1)] ∧ Z.Warmed39 U.vm ∧ U.heap = h0) (fun _ _ _ _ _ => True) (fun _ U o U' => ∃ v L, o = .returned v ∧ (QP (.int (own_f3_0 p1)) h0 n0) v U'.heap L ∧ FrameEnd U o U' L ({ frames := 1, cells := 0, slots := 0, locals := 12 } : Room).cells ({ frames := 1, cells := 0, slots := 0, locals := 12 } : Room).slots) := by
  refine MetFree.of_bodySF (plainFor_of_name own_pn0) hisR ?_
  intro p e s m args below meth c s₁ Bd hml0 hP hK
  obtain ⟨rfl, hZ, hh⟩ := hP
  have hx := Bd.exec
  have hby := Bd.bytes
  have hml : c.maxLocals = 2 := hml0
  have hown : s.vm.findClass "com/example/feuillet/feuillet/store/OpenTable" = some m.cls := findClass_of_methodNamed Bd.named
  have hnm := (name_of_methodNamed Bd.named Bd.method).1
  have X0 : Stand p l e ({ frames := 1, cells := 0, slots := 0, locals := 12 } : Room) s m #[(.ref a0), (.int p1)] below meth c s₁ [] 0 0 := Stand.of_body Bd
  have e0 : s₁.heap = h0 := by rw [← hh, Bd.state]; rfl
  have N0 := Fr.nil n0
  refine Owe.step (T := s₁) (T' := s₁) (g' := (mkF m 0 #[.val (.ref a0), .val (.int p1)] [])) (fun t k => castTop (own_ef3 m a0 p1) k) ?_
  obtain ⟨_, _, ⟨T1, L1, k1, n1⟩, -, X1, ⟨Lc1, hQ1, l1, y1, z1⟩, st1⟩ := Jvm.LawKit.callS X0 hx (y := (⟨"java/lang/Integer", "toUnsignedLong", "(I)J"⟩ : MethodName)) hown (mvT hZ (hw _ (List.mem_of_getElem? (i := 19) rfl))) (mvT hZ (hw _ (List.mem_of_getElem? (i := 20) rfl))) (mvT hZ (hw _ (List.mem_of_getElem? (i := 21) rfl))) (mvT hZ (hw _ (List.mem_of_getElem? (i := 22) rfl))) (by decide) (backOf (W := 0) (own_rm4 l Z aA hw [] p1 h0 n0 Z0 ) hZ (hw _ (List.mem_of_getElem? (i := 22) rfl)) (hw _ (List.mem_of_getElem? (i := 21) rfl)) (by decide) (by decide)) (g := (mkF m 1 #[.val (.ref a0), .val (.int p1)] [(.int p1)])) rfl (by rw [hml]; rfl) (argsL := [(.int p1)]) (rest := []) (lenOf own_pd0 rfl) rfl (by show 2 * 0 + _ ≤ _; exact Nat.le_of_eq rfl) (hb hby own_d3_1) (fun _ _ => ⟨rfl, e0, (by decide : 0 + 0 ≤ _), (by decide : 0 + 0 ≤ _)⟩)
  dsimp only [Pt.U, Pt.locs, Pt.cells, Pt.slots] at X1 l1 y1 z1 st1 hQ1
  subst y1 z1
  obtain ⟨rfl, N1q, e1⟩ := hQ1
  have N1 : Fr n0 L1 := by rw [l1]; exact Fr.app N0 N1q
  obtain ⟨T2, X2, e2, st2⟩ := getF X1 hx hZ hown (host := "") (Or.inl (hw _ (List.mem_of_getElem? (i := 12) rfl))) Via.refl e1 F_slots (g := (mkF m 5 #[.val (.ref a0), .val (.int p1)] [(.ref a0), (.long (own_f4_0 p1))])) rfl rfl (hb hby own_d3_5)
  refine Owe.step (T' := T2) (g' := (mkF m 15 #[.val (.ref a0), .val (.int p1)] [(.int (((((own_f4_0 p1) * ((16 : Int32).toInt64)).toUInt64 >>> ((32 : Int32) &&& 0x3f).toInt64.toUInt64).toInt64).toInt32))])) (fun t k => ?_) ?_
  · show Steps p.tables e below (s₁.setTop (mkF m 0 #[.val (.ref a0), .val (.int p1)] [])) t
    refine XS.iloadN X0.here hx rfl (hb hby own_d3_0) rfl ?_
    show Steps p.tables e below (s₁.setTop (mkF m 1 #[.val (.ref a0), .val (.int p1)] [(.int p1)])) t
    refine st1 _ ?_
    show Steps p.tables e below (T1.setTop (mkF m 4 #[.val (.ref a0), .val (.int p1)] [(.long (own_f4_0 p1))])) t
    refine XS.aloadN X1.here hx rfl (hb hby own_d3_4) rfl rfl ?_
    show Steps p.tables e below (T1.setTop (mkF m 5 #[.val (.ref a0), .val (.int p1)] [(.ref a0), (.long (own_f4_0 p1))])) t
    refine st2 _ ?_
    show Steps p.tables e below (T2.setTop (mkF m 8 #[.val (.ref a0), .val (.int p1)] [(.ref tA), (.long (own_f4_0 p1))])) t
    refine lenA X2 hx hZ e2 A_t (z := (16 : Int32)) (by decide) (g := (mkF m 8 #[.val (.ref a0), .val (.int p1)] [(.ref tA), (.long (own_f4_0 p1))])) rfl rfl (hb hby own_d3_8) _ ?_
    show Steps p.tables e below (T2.setTop (mkF m 9 #[.val (.ref a0), .val (.int p1)] [(.int (16 : Int32)), (.long (own_f4_0 p1))])) t
    refine XS.i2l X2.here hx rfl (hb hby own_d3_9) rfl ?_
    show Steps p.tables e below (T2.setTop (mkF m 10 #[.val (.ref a0), .val (.int p1)] [(.long ((16 : Int32).toInt64)), (.long (own_f4_0 p1))])) t
    refine XS.lmul X2.here hx rfl (hb hby own_d3_10) rfl ?_
    show Steps p.tables e below (T2.setTop (mkF m 11 #[.val (.ref a0), .val (.int p1)] [(.long ((own_f4_0 p1) * ((16 : Int32).toInt64)))])) t
    refine XS.bipush X2.here hx rfl (hb hby own_d3_11) ?_
    show Steps p.tables e below (T2.setTop (mkF m 13 #[.val (.ref a0), .val (.int p1)] [(.int (32 : Int32)), (.long ((own_f4_0 p1) * ((16 : Int32).toInt64)))])) t
    refine XS.lushr X2.here hx rfl (hb hby own_d3_13) rfl ?_
    show Steps p.tables e below (T2.setTop (mkF m 14 #[.val (.ref a0), .val (.int p1)] [(.long ((((own_f4_0 p1) * ((16 : Int32).toInt64)).toUInt64 >>> ((32 : Int32) &&& 0x3f).toInt64.toUInt64).toInt64))])) t
    refine XS.l2i X2.here hx rfl (hb hby own_d3_14) rfl ?_
    show Steps p.tables e below (T2.setTop (mkF m 15 #[.val (.ref a0), .val (.int p1)] [(.int (((((own_f4_0 p1) * ((16 : Int32).toInt64)).toUInt64 >>> ((32 : Int32) &&& 0x3f).toInt64.toUInt64).toInt64).toInt32))])) t
    exact k
  rw [show own_f3_0 p1 = (((((own_f4_0 p1) * ((16 : Int32).toInt64)).toUInt64 >>> ((32 : Int32) &&& 0x3f).toInt64.toUInt64).toInt64).toInt32) from rfl]
  refine Owe.ret X2 Bd.notSynchronized (v := (some (.int (((((own_f4_0 p1) * ((16 : Int32).toInt64)).toUInt64 >>> ((32 : Int32) &&& 0x3f).toInt64.toUInt64).toInt64).toInt32)))) (fun h => by rw [Bd.returns] at h; cases h) (fun fs hr => ?_) ⟨rfl, N1, e2⟩ (by decide) (by decide)
  show Steps p.tables e below (T2.setTop (mkF m 15 #[.val (.ref a0), .val (.int p1)] [(.int (((((own_f4_0 p1) * ((16 : Int32).toInt64)).toUInt64 >>> ((32 : Int32) &&& 0x3f).toInt64.toUInt64).toInt64).toInt32))])) _
  exact retI X2 hx Bd.returns (hb hby own_d3_15) hr
theorem own_d6_0 : decode prog_50_method_12_code 0 = .ok (.ldc2_w 70, 3) := by decide +kernel
theorem own_d6_3 : decode prog_50_method_12_code 3 = .ok (.iload_n 0, 1) := by decide +kernel
theorem own_d6_4 : decode prog_50_method_12_code 4 = .ok (.i2l, 1) := by decide +kernel
theorem own_d6_5 : decode prog_50_method_12_code 5 = .ok (.lmul, 1) := by decide +kernel
theorem own_d6_6 : decode prog_50_method_12_code 6 = .ok (.ldc2_w 72, 3) := by decide +kernel
theorem own_d6_9 : decode prog_50_method_12_code 9 = .ok (.iload_n 1, 1) := by decide +kernel
theorem own_d6_10 : decode prog_50_method_12_code 10 = .ok (.i2l, 1) := by decide +kernel
theorem own_d6_11 : decode prog_50_method_12_code 11 = .ok (.lmul, 1) := by decide +kernel
theorem own_d6_12 : decode prog_50_method_12_code 12 = .ok (.lcmp, 1) := by decide +kernel
theorem own_d6_13 : decode prog_50_method_12_code 13 = .ok (.ifCond .gt 7, 3) := by decide +kernel
theorem own_d6_16 : decode prog_50_method_12_code 16 = .ok (.iconst 1, 1) := by decide +kernel
theorem own_d6_17 : decode prog_50_method_12_code 17 = .ok (.goto 4, 3) := by decide +kernel
theorem own_d6_20 : decode prog_50_method_12_code 20 = .ok (.iconst 0, 1) := by decide +kernel
theorem own_d6_21 : decode prog_50_method_12_code 21 = .ok (.ireturn, 1) := by decide +kernel
theorem own_ef6 (m : MethodId) (p0 : Int32) (p1 : Int32) : entryFrame m #[(.int p0), (.int p1)] 2 = mkF m 0 #[.val (.int p0), .val (.int p1)] [] := by first | (simp [entryFrame, mkF, argsToLocals, Value.category]; done) | rfl
def own_f6_0 (p0 : Int32) (p1 : Int32) : Int32 := (if (0 : Int32) < (lcmpW ((4 : Int64) * (p0.toInt64)) ((3 : Int64) * (p1.toInt64))) then (0 : Int32) else (1 : Int32))
set_option maxRecDepth 65536 in
set_option maxHeartbeats 40000000 in
theorem own_rm6 (l : Launch) (Z : State) (aA : Array Value) (hw : ∀ d ∈ tables_1, d.before aA Z = true) (ws : List Jvm.Cond) (p0 : Int32) (p1 : Int32)  (h0 : Heap) (n0 : Nat) (Z0 : n0 ≤ h0.size) :
    MetFree l (⟨"com/example/feuillet/feuillet/store/OpenTable", "holds", "(II)Z"⟩ : MethodName) (head1 (Jvm.Cond.code (⟨"com/example/feuillet/feuillet/store/OpenTable", "holds", "(II)Z"⟩ : MethodName) prog_50_method_12_code 2 (some .boolean) :: ws) ({ frames := 0, cells := 0, slots := 0, locals := 0 } : Room)) (fun a U => a = #[(.int p0), (.int p1)] ∧ Z.Warmed39 U.vm ∧ U.heap = h0) (fun _ _ _ _ _ => True) (fun _ U o U' => ∃ v L, o = .returned v ∧ (QP (.int (own_f6_0 p0 p1)) h0 n0) v U'.heap L ∧ FrameEnd U o U' L ({ frames := 0, cells := 0, slots := 0, locals := 0 } : Room).cells ({ frames := 0, cells := 0, slots := 0, locals := 0 } : Room).slots) := by
  refine MetFree.of_bodySF (plainFor_of_name own_pn0) hisR ?_
  intro p e s m args below meth c s₁ Bd hml0 hP hK
  obtain ⟨rfl, hZ, hh⟩ := hP
  have hx := Bd.exec
  have hby := Bd.bytes
  have hml : c.maxLocals = 2 := hml0
  have hown : s.vm.findClass "com/example/feuillet/feuillet/store/OpenTable" = some m.cls := findClass_of_methodNamed Bd.named
  have hnm := (name_of_methodNamed Bd.named Bd.method).1
  have X0 : Stand p l e ({ frames := 0, cells := 0, slots := 0, locals := 0 } : Room) s m #[(.int p0), (.int p1)] below meth c s₁ [] 0 0 := Stand.of_body Bd
  have e0 : s₁.heap = h0 := by rw [← hh, Bd.state]; rfl
  have N0 := Fr.nil n0
  refine Owe.step (T := s₁) (T' := s₁) (g' := (mkF m 0 #[.val (.int p0), .val (.int p1)] [])) (fun t k => castTop (own_ef6 m p0 p1) k) ?_
  refine Owe.step (T' := s₁) (g' := (mkF m 13 #[.val (.int p0), .val (.int p1)] [(.int (lcmpW ((4 : Int64) * (p0.toInt64)) ((3 : Int64) * (p1.toInt64))))])) (fun t k => ?_) ?_
  · show Steps p.tables e below (s₁.setTop (mkF m 0 #[.val (.int p0), .val (.int p1)] [])) t
    refine X0.ldc2Long hx hown (mvT hZ (hw _ (List.mem_of_getElem? (i := 35) rfl))) (g := (mkF m 0 #[.val (.int p0), .val (.int p1)] [])) rfl (hb hby own_d6_0) _ ?_
    show Steps p.tables e below (s₁.setTop (mkF m 3 #[.val (.int p0), .val (.int p1)] [(.long (4 : Int64))])) t
    refine XS.iloadN X0.here hx rfl (hb hby own_d6_3) rfl ?_
    show Steps p.tables e below (s₁.setTop (mkF m 4 #[.val (.int p0), .val (.int p1)] [(.int p0), (.long (4 : Int64))])) t
    refine XS.i2l X0.here hx rfl (hb hby own_d6_4) rfl ?_
    show Steps p.tables e below (s₁.setTop (mkF m 5 #[.val (.int p0), .val (.int p1)] [(.long (p0.toInt64)), (.long (4 : Int64))])) t
    refine XS.lmul X0.here hx rfl (hb hby own_d6_5) rfl ?_
    show Steps p.tables e below (s₁.setTop (mkF m 6 #[.val (.int p0), .val (.int p1)] [(.long ((4 : Int64) * (p0.toInt64)))])) t
    refine X0.ldc2Long hx hown (mvT hZ (hw _ (List.mem_of_getElem? (i := 36) rfl))) (g := (mkF m 6 #[.val (.int p0), .val (.int p1)] [(.long ((4 : Int64) * (p0.toInt64)))])) rfl (hb hby own_d6_6) _ ?_
    show Steps p.tables e below (s₁.setTop (mkF m 9 #[.val (.int p0), .val (.int p1)] [(.long (3 : Int64)), (.long ((4 : Int64) * (p0.toInt64)))])) t
    refine XS.iloadN X0.here hx rfl (hb hby own_d6_9) rfl ?_
    show Steps p.tables e below (s₁.setTop (mkF m 10 #[.val (.int p0), .val (.int p1)] [(.int p1), (.long (3 : Int64)), (.long ((4 : Int64) * (p0.toInt64)))])) t
    refine XS.i2l X0.here hx rfl (hb hby own_d6_10) rfl ?_
    show Steps p.tables e below (s₁.setTop (mkF m 11 #[.val (.int p0), .val (.int p1)] [(.long (p1.toInt64)), (.long (3 : Int64)), (.long ((4 : Int64) * (p0.toInt64)))])) t
    refine XS.lmul X0.here hx rfl (hb hby own_d6_11) rfl ?_
    show Steps p.tables e below (s₁.setTop (mkF m 12 #[.val (.int p0), .val (.int p1)] [(.long ((3 : Int64) * (p1.toInt64))), (.long ((4 : Int64) * (p0.toInt64)))])) t
    refine XS.lcmp X0.here hx rfl (hb hby own_d6_12) rfl ?_
    show Steps p.tables e below (s₁.setTop (mkF m 13 #[.val (.int p0), .val (.int p1)] [(.int (lcmpW ((4 : Int64) * (p0.toInt64)) ((3 : Int64) * (p1.toInt64))))])) t
    exact k
  by_cases hc13 : (0 : Int32) < (lcmpW ((4 : Int64) * (p0.toInt64)) ((3 : Int64) * (p1.toInt64)))
  · refine Owe.step (T' := s₁) (g' := (mkF m 20 #[.val (.int p0), .val (.int p1)] [])) (fun t k => ?_) ?_
    · show Steps p.tables e below (s₁.setTop (mkF m 13 #[.val (.int p0), .val (.int p1)] [(.int (lcmpW ((4 : Int64) * (p0.toInt64)) ((3 : Int64) * (p1.toInt64))))])) t
      refine XS.ifYes X0.here hx rfl (pc0 := 13) (pc' := 20) rfl (hb hby own_d6_13) rfl ((if0 _ _).trans (tlt hc13).2.2.1) (by decide) (by decide) ?_
      show Steps p.tables e below (s₁.setTop (mkF m 20 #[.val (.int p0), .val (.int p1)] [])) t
      exact k
    rw [show own_f6_0 p0 p1 = (0 : Int32) from (by rw [own_f6_0, if_pos hc13])]
    refine Owe.ret X0 Bd.notSynchronized (v := (some (.int (0 : Int32)))) (fun h => by rw [Bd.returns] at h; cases h) (fun fs hr => ?_) ⟨rfl, N0, e0⟩ (by decide) (by decide)
    show Steps p.tables e below (s₁.setTop (mkF m 20 #[.val (.int p0), .val (.int p1)] [])) _
    refine XS.iconst X0.here hx rfl (hb hby own_d6_20) ?_
    show Steps p.tables e below (s₁.setTop (mkF m 21 #[.val (.int p0), .val (.int p1)] [(.int (0 : Int32))])) _
    exact retN X0 hx (t := .boolean) Bd.returns (by simp) (hb hby own_d6_21) hr
  · refine Owe.step (T' := s₁) (g' := (mkF m 16 #[.val (.int p0), .val (.int p1)] [])) (fun t k => ?_) ?_
    · show Steps p.tables e below (s₁.setTop (mkF m 13 #[.val (.int p0), .val (.int p1)] [(.int (lcmpW ((4 : Int64) * (p0.toInt64)) ((3 : Int64) * (p1.toInt64))))])) t
      refine XS.ifNo X0.here hx rfl (hb hby own_d6_13) rfl ((if0 _ _).trans (flt hc13).2.2.1) ?_
      show Steps p.tables e below (s₁.setTop (mkF m 16 #[.val (.int p0), .val (.int p1)] [])) t
      exact k
    rw [show own_f6_0 p0 p1 = (1 : Int32) from (by rw [own_f6_0, if_neg hc13])]
    refine Owe.ret X0 Bd.notSynchronized (v := (some (.int (1 : Int32)))) (fun h => by rw [Bd.returns] at h; cases h) (fun fs hr => ?_) ⟨rfl, N0, e0⟩ (by decide) (by decide)
    show Steps p.tables e below (s₁.setTop (mkF m 16 #[.val (.int p0), .val (.int p1)] [])) _
    refine XS.iconst X0.here hx rfl (hb hby own_d6_16) ?_
    show Steps p.tables e below (s₁.setTop (mkF m 17 #[.val (.int p0), .val (.int p1)] [(.int (1 : Int32))])) _
    refine XS.goto X0.here hx rfl (pc0 := 17) (pc' := 21) rfl (hb hby own_d6_17) (by decide) (by decide) ?_
    show Steps p.tables e below (s₁.setTop (mkF m 21 #[.val (.int p0), .val (.int p1)] [(.int (1 : Int32))])) _
    exact retN X0 hx (t := .boolean) Bd.returns (by simp) (hb hby own_d6_21) hr
theorem own_d7_0 : decode prog_50_method_11_code 0 = .ok (.iload_n 1, 1) := by decide +kernel
theorem own_d7_1 : decode prog_50_method_11_code 1 = .ok (.bipush 26, 2) := by decide +kernel
theorem own_d7_3 : decode prog_50_method_11_code 3 = .ok (.ishl, 1) := by decide +kernel
theorem own_d7_4 : decode prog_50_method_11_code 4 = .ok (.iload_n 0, 1) := by decide +kernel
theorem own_d7_5 : decode prog_50_method_11_code 5 = .ok (.iconst 1, 1) := by decide +kernel
theorem own_d7_6 : decode prog_50_method_11_code 6 = .ok (.iadd, 1) := by decide +kernel
theorem own_d7_7 : decode prog_50_method_11_code 7 = .ok (.ior, 1) := by decide +kernel
theorem own_d7_8 : decode prog_50_method_11_code 8 = .ok (.ireturn, 1) := by decide +kernel
theorem own_ef7 (m : MethodId) (p0 : Int32) (p1 : Int32) : entryFrame m #[(.int p0), (.int p1)] 2 = mkF m 0 #[.val (.int p0), .val (.int p1)] [] := by first | (simp [entryFrame, mkF, argsToLocals, Value.category]; done) | rfl
def own_f7_0 (p0 : Int32) (p1 : Int32) : Int32 := ((p1 <<< ((26 : Int32) &&& 31)) ||| (p0 + (1 : Int32)))
set_option maxRecDepth 65536 in
set_option maxHeartbeats 40000000 in
theorem own_rm7 (l : Launch) (Z : State) (aA : Array Value) (hw : ∀ d ∈ tables_1, d.before aA Z = true) (ws : List Jvm.Cond) (p0 : Int32) (p1 : Int32)  (h0 : Heap) (n0 : Nat) (Z0 : n0 ≤ h0.size) :
    MetFree l (⟨"com/example/feuillet/feuillet/store/OpenTable", "slot", "(II)I"⟩ : MethodName) (head1 (Jvm.Cond.code (⟨"com/example/feuillet/feuillet/store/OpenTable", "slot", "(II)I"⟩ : MethodName) prog_50_method_11_code 2 (some .int) :: ws) ({ frames := 0, cells := 0, slots := 0, locals := 0 } : Room)) (fun a U => a = #[(.int p0), (.int p1)] ∧ Z.Warmed39 U.vm ∧ U.heap = h0) (fun _ _ _ _ _ => True) (fun _ U o U' => ∃ v L, o = .returned v ∧ (QP (.int (own_f7_0 p0 p1)) h0 n0) v U'.heap L ∧ FrameEnd U o U' L ({ frames := 0, cells := 0, slots := 0, locals := 0 } : Room).cells ({ frames := 0, cells := 0, slots := 0, locals := 0 } : Room).slots) := by
  refine MetFree.of_bodySF (plainFor_of_name own_pn0) hisR ?_
  intro p e s m args below meth c s₁ Bd hml0 hP hK
  obtain ⟨rfl, hZ, hh⟩ := hP
  have hx := Bd.exec
  have hby := Bd.bytes
  have hml : c.maxLocals = 2 := hml0
  have hown : s.vm.findClass "com/example/feuillet/feuillet/store/OpenTable" = some m.cls := findClass_of_methodNamed Bd.named
  have hnm := (name_of_methodNamed Bd.named Bd.method).1
  have X0 : Stand p l e ({ frames := 0, cells := 0, slots := 0, locals := 0 } : Room) s m #[(.int p0), (.int p1)] below meth c s₁ [] 0 0 := Stand.of_body Bd
  have e0 : s₁.heap = h0 := by rw [← hh, Bd.state]; rfl
  have N0 := Fr.nil n0
  refine Owe.step (T := s₁) (T' := s₁) (g' := (mkF m 0 #[.val (.int p0), .val (.int p1)] [])) (fun t k => castTop (own_ef7 m p0 p1) k) ?_
  rw [show own_f7_0 p0 p1 = ((p1 <<< ((26 : Int32) &&& 31)) ||| (p0 + (1 : Int32))) from rfl]
  refine Owe.ret X0 Bd.notSynchronized (v := (some (.int ((p1 <<< ((26 : Int32) &&& 31)) ||| (p0 + (1 : Int32)))))) (fun h => by rw [Bd.returns] at h; cases h) (fun fs hr => ?_) ⟨rfl, N0, e0⟩ (by decide) (by decide)
  show Steps p.tables e below (s₁.setTop (mkF m 0 #[.val (.int p0), .val (.int p1)] [])) _
  refine XS.iloadN X0.here hx rfl (hb hby own_d7_0) rfl ?_
  show Steps p.tables e below (s₁.setTop (mkF m 1 #[.val (.int p0), .val (.int p1)] [(.int p1)])) _
  refine XS.bipush X0.here hx rfl (hb hby own_d7_1) ?_
  show Steps p.tables e below (s₁.setTop (mkF m 3 #[.val (.int p0), .val (.int p1)] [(.int (26 : Int32)), (.int p1)])) _
  refine XS.ishl X0.here hx rfl (hb hby own_d7_3) rfl ?_
  show Steps p.tables e below (s₁.setTop (mkF m 4 #[.val (.int p0), .val (.int p1)] [(.int (p1 <<< ((26 : Int32) &&& 31)))])) _
  refine XS.iloadN X0.here hx rfl (hb hby own_d7_4) rfl ?_
  show Steps p.tables e below (s₁.setTop (mkF m 5 #[.val (.int p0), .val (.int p1)] [(.int p0), (.int (p1 <<< ((26 : Int32) &&& 31)))])) _
  refine XS.iconst X0.here hx rfl (hb hby own_d7_5) ?_
  show Steps p.tables e below (s₁.setTop (mkF m 6 #[.val (.int p0), .val (.int p1)] [(.int (1 : Int32)), (.int p0), (.int (p1 <<< ((26 : Int32) &&& 31)))])) _
  refine XS.iadd X0.here hx rfl (hb hby own_d7_6) rfl ?_
  show Steps p.tables e below (s₁.setTop (mkF m 7 #[.val (.int p0), .val (.int p1)] [(.int (p0 + (1 : Int32))), (.int (p1 <<< ((26 : Int32) &&& 31)))])) _
  refine XS.ior X0.here hx rfl (hb hby own_d7_7) rfl ?_
  show Steps p.tables e below (s₁.setTop (mkF m 8 #[.val (.int p0), .val (.int p1)] [(.int ((p1 <<< ((26 : Int32) &&& 31)) ||| (p0 + (1 : Int32))))])) _
  exact retI X0 hx Bd.returns (hb hby own_d7_8) hr
def own_ok16 (j : Int32) : Prop := ¬ j < 0 ∧ j.toNatClampNeg < 16
theorem own_room : ¬ (own_f6_0 ((0 : Int32) + (1 : Int32)) (16 : Int32)) = (0 : Int32) := by decide
theorem own_s16i (x : Int32) : 0 ≤ (own_f3_0 x).toInt ∧ (own_f3_0 x).toInt < 16 := by
  unfold own_f3_0 own_f4_0
  have e16 : ((16 : Int32).toInt64).toInt = 16 := by decide
  have a := c_maskL x.toInt64 4294967295 32 (by decide) (by decide)
  have b := c_lmul (x.toInt64 &&& 4294967295) ((16 : Int32).toInt64)
  have c := c_lushr ((x.toInt64 &&& 4294967295) * ((16 : Int32).toInt64)) 32 32 (by decide) (by decide)
  have d := c_l2i ((((x.toInt64 &&& 4294967295) * ((16 : Int32).toInt64)).toUInt64 >>> ((32 : Int32) &&& 0x3f).toInt64.toUInt64).toInt64)
  have r := rng32 ((((x.toInt64 &&& 4294967295) * ((16 : Int32).toInt64)).toUInt64 >>> ((32 : Int32) &&& 0x3f).toInt64.toUInt64).toInt64.toInt32)
  have r2 := rng64 ((x.toInt64 &&& 4294967295) * ((16 : Int32).toInt64))
  rw [e16] at b
  omega
theorem own_s16 (x : Int32) : own_ok16 (own_f3_0 x) := own_ix (own_s16i x).1 (own_s16i x).2
theorem own_m16 (x : Int32) : own_ok16 (x &&& (15 : Int32)) := by
  have h := c_mask x 15 4 (by decide) (by decide)
  refine own_ix ?_ ?_ <;> omega
theorem own_ei (x : Int32) : 0 ≤ ((x &&& (2147483647 : Int32)) - ((x &&& (2147483647 : Int32)) / (67108863 : Int32)) * (67108863 : Int32)).toInt ∧ ((x &&& (2147483647 : Int32)) - ((x &&& (2147483647 : Int32)) / (67108863 : Int32)) * (67108863 : Int32)).toInt ≤ 67108862 := by
  have h := c_mask x 2147483647 31 (by decide) (by decide)
  rw [own_irem]
  have r := c_irem (x &&& (2147483647 : Int32)) 67108863 67108863 (by decide)
  omega
theorem own_e0 (x : Int32) : ¬ ((x &&& (2147483647 : Int32)) - ((x &&& (2147483647 : Int32)) / (67108863 : Int32)) * (67108863 : Int32)) < (0 : Int32) ∧ ¬ (67108862 : Int32) < ((x &&& (2147483647 : Int32)) - ((x &&& (2147483647 : Int32)) / (67108863 : Int32)) * (67108863 : Int32)) := by
  have h := own_ei x
  have e0 : (0 : Int32).toInt = 0 := rfl
  have e1 : (67108862 : Int32).toInt = 67108862 := by decide
  rw [Int32.lt_iff_toInt_lt, Int32.lt_iff_toInt_lt, e0, e1]
  omega
theorem own_d5_0 : decode prog_50_method_7_code 0 = .ok (.iload_n 2, 1) := by decide +kernel
theorem own_d5_1 : decode prog_50_method_7_code 1 = .ok (.ifCond .lt 9, 3) := by decide +kernel
theorem own_d5_4 : decode prog_50_method_7_code 4 = .ok (.iload_n 2, 1) := by decide +kernel
theorem own_d5_5 : decode prog_50_method_7_code 5 = .ok (.ldc 21, 2) := by decide +kernel
theorem own_d5_7 : decode prog_50_method_7_code 7 = .ok (.if_icmp .le 17, 3) := by decide +kernel
theorem own_d5_24 : decode prog_50_method_7_code 24 = .ok (.iload_n 1, 1) := by decide +kernel
theorem own_d5_25 : decode prog_50_method_7_code 25 = .ok (.istore 5, 2) := by decide +kernel
theorem own_d5_27 : decode prog_50_method_7_code 27 = .ok (.aload_n 0, 1) := by decide +kernel
theorem own_d5_28 : decode prog_50_method_7_code 28 = .ok (.getfield 31, 3) := by decide +kernel
theorem own_d5_31 : decode prog_50_method_7_code 31 = .ok (.iconst 1, 1) := by decide +kernel
theorem own_d5_32 : decode prog_50_method_7_code 32 = .ok (.iadd, 1) := by decide +kernel
theorem own_d5_33 : decode prog_50_method_7_code 33 = .ok (.aload_n 0, 1) := by decide +kernel
theorem own_d5_34 : decode prog_50_method_7_code 34 = .ok (.getfield 9, 3) := by decide +kernel
theorem own_d5_37 : decode prog_50_method_7_code 37 = .ok (.arraylength, 1) := by decide +kernel
theorem own_d5_38 : decode prog_50_method_7_code 38 = .ok (.invokestatic 35, 3) := by decide +kernel
theorem own_d5_41 : decode prog_50_method_7_code 41 = .ok (.ifCond .ne 36, 3) := by decide +kernel
theorem own_d5_77 : decode prog_50_method_7_code 77 = .ok (.aload_n 0, 1) := by decide +kernel
theorem own_d5_78 : decode prog_50_method_7_code 78 = .ok (.getfield 9, 3) := by decide +kernel
theorem own_d5_81 : decode prog_50_method_7_code 81 = .ok (.iload 5, 2) := by decide +kernel
theorem own_d5_83 : decode prog_50_method_7_code 83 = .ok (.iload_n 2, 1) := by decide +kernel
theorem own_d5_84 : decode prog_50_method_7_code 84 = .ok (.iload_n 3, 1) := by decide +kernel
theorem own_d5_85 : decode prog_50_method_7_code 85 = .ok (.invokestatic 54, 3) := by decide +kernel
theorem own_d5_88 : decode prog_50_method_7_code 88 = .ok (.iastore, 1) := by decide +kernel
theorem own_d5_89 : decode prog_50_method_7_code 89 = .ok (.aload_n 0, 1) := by decide +kernel
theorem own_d5_90 : decode prog_50_method_7_code 90 = .ok (.dup, 1) := by decide +kernel
theorem own_d5_91 : decode prog_50_method_7_code 91 = .ok (.getfield 31, 3) := by decide +kernel
theorem own_d5_94 : decode prog_50_method_7_code 94 = .ok (.iconst 1, 1) := by decide +kernel
theorem own_d5_95 : decode prog_50_method_7_code 95 = .ok (.iadd, 1) := by decide +kernel
theorem own_d5_96 : decode prog_50_method_7_code 96 = .ok (.putfield 31, 3) := by decide +kernel
theorem own_d5_99 : decode prog_50_method_7_code 99 = .ok (.return_, 1) := by decide +kernel
theorem own_pd1 : parseMethodDescriptor "(II)Z" = some ⟨[.int, .int], some .boolean⟩ := by decide +kernel
theorem own_pd2 : parseMethodDescriptor "(II)I" = some ⟨[.int, .int], some .int⟩ := by decide +kernel
theorem own_ef5 (m : MethodId) (a0 : Addr) (p1 : Int32) (p2 : Int32) (p3 : Int32) : entryFrame m #[(.ref a0), (.int p1), (.int p2), (.int p3), .null] 6 = mkF m 0 #[.val (.ref a0), .val (.int p1), .val (.int p2), .val (.int p3), .val .null, .unset] [] := by first | (simp [entryFrame, mkF, argsToLocals, Value.category]; done) | rfl
def own_Q5 (Z : State) (a0 : Addr) (p1 : Int32) (p2 : Int32) (p3 : Int32) (tA : Addr) (fn : Nat → Int32) (h0 : Heap) (n0 : Nat) (v : Option Value) (h : Heap) (L : List Loc) : Prop := v = none ∧ Fr n0 L ∧ Keep h0 h [a0, tA] ∧ Exa Z h a0 "com/example/feuillet/feuillet/store/OpenTable" ∧ Fld Z h a0 "com/example/feuillet/feuillet/store/OpenTable" "slots" "[I" (.ref tA) ∧ Fld Z h a0 "com/example/feuillet/feuillet/store/OpenTable" "size" "I" (.int ((0 : Int32) + (1 : Int32))) ∧ AI Z h tA .int 16 (own_upd fn (p1).toNatClampNeg (own_f7_0 p2 p3))
set_option maxRecDepth 65536 in
set_option maxHeartbeats 40000000 in
theorem own_rm5 (l : Launch) (Z : State) (aA : Array Value) (hw : ∀ d ∈ tables_1, d.before aA Z = true) (ws : List Jvm.Cond) (a0 : Addr) (p1 : Int32) (p2 : Int32) (p3 : Int32) (tA : Addr) (fn : Nat → Int32) (h0 : Heap) (n0 : Nat) (Z0 : n0 ≤ h0.size) (E_a0 : Exa Z h0 a0 "com/example/feuillet/feuillet/store/OpenTable") (F_slots : Fld Z h0 a0 "com/example/feuillet/feuillet/store/OpenTable" "slots" "[I" (.ref tA)) (F_size : Fld Z h0 a0 "com/example/feuillet/feuillet/store/OpenTable" "size" "I" (.int (0 : Int32))) (A_t : AI Z h0 tA .int 16 fn) (ne_at : a0 ≠ tA) (g_a0 : n0 ≤ a0) (g_tA : n0 ≤ tA) (hp0 : ¬ p2 < (0 : Int32)) (hp1 : ¬ (67108862 : Int32) < p2) (hj : own_ok16 p1) :
    MetFree l (⟨"com/example/feuillet/feuillet/store/OpenTable", "put", "(IIILjava/util/function/IntUnaryOperator;)V"⟩ : MethodName) (head1 (Jvm.Cond.code (⟨"com/example/feuillet/feuillet/store/OpenTable", "put", "(IIILjava/util/function/IntUnaryOperator;)V"⟩ : MethodName) prog_50_method_7_code 6 none :: ws) ({ frames := 1, cells := 0, slots := 0, locals := 15 } : Room)) (fun a U => a = #[(.ref a0), (.int p1), (.int p2), (.int p3), .null] ∧ Z.Warmed39 U.vm ∧ U.heap = h0) (fun _ _ _ _ _ => True) (fun _ U o U' => ∃ v L, o = .returned v ∧ (own_Q5 Z a0 p1 p2 p3 tA fn h0 n0) v U'.heap L ∧ FrameEnd U o U' L ({ frames := 1, cells := 0, slots := 0, locals := 15 } : Room).cells ({ frames := 1, cells := 0, slots := 0, locals := 15 } : Room).slots) := by
  refine MetFree.of_bodySF (plainFor_of_name own_pn0) hisR ?_
  intro p e s m args below meth c s₁ Bd hml0 hP hK
  obtain ⟨rfl, hZ, hh⟩ := hP
  have hx := Bd.exec
  have hby := Bd.bytes
  have hml : c.maxLocals = 6 := hml0
  have hown : s.vm.findClass "com/example/feuillet/feuillet/store/OpenTable" = some m.cls := findClass_of_methodNamed Bd.named
  have hnm := (name_of_methodNamed Bd.named Bd.method).1
  have X0 : Stand p l e ({ frames := 1, cells := 0, slots := 0, locals := 15 } : Room) s m #[(.ref a0), (.int p1), (.int p2), (.int p3), .null] below meth c s₁ [] 0 0 := Stand.of_body Bd
  have e0 : s₁.heap = h0 := by rw [← hh, Bd.state]; rfl
  have N0 := Fr.nil n0
  refine Owe.step (T := s₁) (T' := s₁) (g' := (mkF m 0 #[.val (.ref a0), .val (.int p1), .val (.int p2), .val (.int p3), .val .null, .unset] [])) (fun t k => castTop (own_ef5 m a0 p1 p2 p3) k) ?_
  obtain ⟨T1, X1, e1, st1⟩ := getF X0 hx hZ hown (host := "") (Or.inl (hw _ (List.mem_of_getElem? (i := 30) rfl))) Via.refl e0 F_size (g := (mkF m 28 #[.val (.ref a0), .val (.int p1), .val (.int p2), .val (.int p3), .val .null, .val (.int p1)] [(.ref a0)])) rfl rfl (hb hby own_d5_28)
  obtain ⟨T2, X2, e2, st2⟩ := getF X1 hx hZ hown (host := "") (Or.inl (hw _ (List.mem_of_getElem? (i := 12) rfl))) Via.refl e1 F_slots (g := (mkF m 34 #[.val (.ref a0), .val (.int p1), .val (.int p2), .val (.int p3), .val .null, .val (.int p1)] [(.ref a0), (.int ((0 : Int32) + (1 : Int32)))])) rfl rfl (hb hby own_d5_34)
  obtain ⟨_, _, ⟨T3, L3, k3, n3⟩, -, X3, ⟨Lc3, hQ3, l3, y3, z3⟩, st3⟩ := Jvm.LawKit.callS X2 hx (y := (⟨"com/example/feuillet/feuillet/store/OpenTable", "holds", "(II)Z"⟩ : MethodName)) hown (mvT hZ (hw _ (List.mem_of_getElem? (i := 32) rfl))) (mvT hZ (hw _ (List.mem_of_getElem? (i := 33) rfl))) (mvT hZ (hw _ (List.mem_of_getElem? (i := 4) rfl))) (mvT hZ (hw _ (List.mem_of_getElem? (i := 34) rfl))) (by decide) (backOf (W := 0) (own_rm6 l Z aA hw [] ((0 : Int32) + (1 : Int32)) (16 : Int32) h0 n0 Z0 ) hZ (hw _ (List.mem_of_getElem? (i := 34) rfl)) (hw _ (List.mem_of_getElem? (i := 4) rfl)) (by decide) (by decide)) (g := (mkF m 38 #[.val (.ref a0), .val (.int p1), .val (.int p2), .val (.int p3), .val .null, .val (.int p1)] [(.int (16 : Int32)), (.int ((0 : Int32) + (1 : Int32)))])) rfl (by rw [hml]; rfl) (argsL := [(.int ((0 : Int32) + (1 : Int32))), (.int (16 : Int32))]) (rest := []) (lenOf own_pd1 rfl) rfl (by show 2 * 0 + _ ≤ _; exact Nat.le_of_eq rfl) (hb hby own_d5_38) (fun _ _ => ⟨rfl, e2, (by decide : 0 + 0 ≤ _), (by decide : 0 + 0 ≤ _)⟩)
  dsimp only [Pt.U, Pt.locs, Pt.cells, Pt.slots] at X3 l3 y3 z3 st3 hQ3
  subst y3 z3
  obtain ⟨rfl, N3q, e3⟩ := hQ3
  have N3 : Fr n0 L3 := by rw [l3]; exact Fr.app N0 N3q
  obtain ⟨T4, X4, e4, st4⟩ := getF X3 hx hZ hown (host := "") (Or.inl (hw _ (List.mem_of_getElem? (i := 12) rfl))) Via.refl e3 F_slots (g := (mkF m 78 #[.val (.ref a0), .val (.int p1), .val (.int p2), .val (.int p3), .val .null, .val (.int p1)] [(.ref a0)])) rfl rfl (hb hby own_d5_78)
  obtain ⟨_, _, ⟨T5, L5, k5, n5⟩, -, X5, ⟨Lc5, hQ5, l5, y5, z5⟩, st5⟩ := Jvm.LawKit.callS X4 hx (y := (⟨"com/example/feuillet/feuillet/store/OpenTable", "slot", "(II)I"⟩ : MethodName)) hown (mvT hZ (hw _ (List.mem_of_getElem? (i := 37) rfl))) (mvT hZ (hw _ (List.mem_of_getElem? (i := 38) rfl))) (mvT hZ (hw _ (List.mem_of_getElem? (i := 4) rfl))) (mvT hZ (hw _ (List.mem_of_getElem? (i := 39) rfl))) (by decide) (backOf (W := 2) (own_rm7 l Z aA hw [] p2 p3 h0 n0 Z0 ) hZ (hw _ (List.mem_of_getElem? (i := 39) rfl)) (hw _ (List.mem_of_getElem? (i := 4) rfl)) (by decide) (by decide)) (g := (mkF m 85 #[.val (.ref a0), .val (.int p1), .val (.int p2), .val (.int p3), .val .null, .val (.int p1)] [(.int p3), (.int p2), (.int p1), (.ref tA)])) rfl (by rw [hml]; rfl) (argsL := [(.int p2), (.int p3)]) (rest := [(.int p1), (.ref tA)]) (lenOf own_pd2 rfl) rfl (by show 2 * 0 + _ ≤ _; exact Nat.le_of_eq rfl) (hb hby own_d5_85) (fun _ _ => ⟨rfl, e4, (by decide : 0 + 0 ≤ _), (by decide : 0 + 0 ≤ _)⟩)
  dsimp only [Pt.U, Pt.locs, Pt.cells, Pt.slots] at X5 l5 y5 z5 st5 hQ5
  subst y5 z5
  obtain ⟨rfl, N5q, e5⟩ := hQ5
  have N5 : Fr n0 L5 := by rw [l5]; exact Fr.app N3 N5q
  obtain ⟨T6, h6, X6, e6, W6, V6, st6⟩ := stAI X5 hx hZ e5 A_t (j := p1) hj.1 hj.2 (g := (mkF m 88 #[.val (.ref a0), .val (.int p1), .val (.int p2), .val (.int p3), .val .null, .val (.int p1)] [(.int (own_f7_0 p2 p3)), (.int p1), (.ref tA)])) rfl rfl (hb hby own_d5_88)
  have E_a0_w6 := E_a0.wr W6
  have F_slots_w6 := F_slots.other W6 (Or.inl ne_at)
  have F_size_w6 := F_size.other W6 (Or.inl ne_at)
  have K6 := (Keep.refl h0 [a0, tA]).wr W6 (Or.inl (List.mem_of_getElem? (i := 1) rfl))
  have N6 := Fr.snoc X6 N5 g_tA
  have Zn6 : n0 ≤ h6.size := Nat.le_trans Z0 (Keep.of_wr W6).1
  obtain ⟨T7, X7, e7, st7⟩ := getF X6 hx hZ hown (host := "") (Or.inl (hw _ (List.mem_of_getElem? (i := 30) rfl))) Via.refl e6 F_size_w6 (g := (mkF m 91 #[.val (.ref a0), .val (.int p1), .val (.int p2), .val (.int p3), .val .null, .val (.int p1)] [(.ref a0), (.ref a0)])) rfl rfl (hb hby own_d5_91)
  obtain ⟨T8, h8, X8, e8, W8, st8⟩ := putF X7 hx hZ hown (host := "") (Or.inl (hw _ (List.mem_of_getElem? (i := 30) rfl))) Via.refl e7 F_size_w6 E_a0_w6 (Or.inl (hw _ (List.mem_of_getElem? (i := 31) rfl))) (hw _ (List.mem_of_getElem? (i := 3) rfl)) (ty := .int) (by decide) rfl rfl (g := (mkF m 96 #[.val (.ref a0), .val (.int p1), .val (.int p2), .val (.int p3), .val .null, .val (.int p1)] [(.int ((0 : Int32) + (1 : Int32))), (.ref a0)])) rfl rfl (hb hby own_d5_96)
  have Fn8 := F_size_w6.same W8
  have E_a0_w8 := E_a0_w6.wr W8
  have F_slots_w8 := F_slots_w6.other W8 (Or.inr (slot_ne (Or.inl (hw _ (List.mem_of_getElem? (i := 13) rfl))) (Or.inl (hw _ (List.mem_of_getElem? (i := 31) rfl))) (by decide) (t := (.array .int)) (t' := .int) (by decide) (by decide)))
  have V6_w8 := V6.other W8 (Ne.symm ne_at)
  have K8 := K6.wr W8 (Or.inl (List.mem_of_getElem? (i := 0) rfl))
  have N8 := Fr.snoc X8 N6 g_a0
  have Zn8 : n0 ≤ h8.size := Nat.le_trans Zn6 (Keep.of_wr W8).1
  refine Owe.step (T' := T8) (g' := (mkF m 99 #[.val (.ref a0), .val (.int p1), .val (.int p2), .val (.int p3), .val .null, .val (.int p1)] [])) (fun t k => ?_) ?_
  · show Steps p.tables e below (s₁.setTop (mkF m 0 #[.val (.ref a0), .val (.int p1), .val (.int p2), .val (.int p3), .val .null, .unset] [])) t
    refine XS.iloadN X0.here hx rfl (hb hby own_d5_0) rfl ?_
    show Steps p.tables e below (s₁.setTop (mkF m 1 #[.val (.ref a0), .val (.int p1), .val (.int p2), .val (.int p3), .val .null, .unset] [(.int p2)])) t
    refine XS.ifNo X0.here hx rfl (hb hby own_d5_1) rfl ((if0 _ _).trans (flt hp0).1) ?_
    show Steps p.tables e below (s₁.setTop (mkF m 4 #[.val (.ref a0), .val (.int p1), .val (.int p2), .val (.int p3), .val .null, .unset] [])) t
    refine XS.iloadN X0.here hx rfl (hb hby own_d5_4) rfl ?_
    show Steps p.tables e below (s₁.setTop (mkF m 5 #[.val (.ref a0), .val (.int p1), .val (.int p2), .val (.int p3), .val .null, .unset] [(.int p2)])) t
    refine X0.ldcInt hx hown (mvT hZ (hw _ (List.mem_of_getElem? (i := 29) rfl))) (g := (mkF m 5 #[.val (.ref a0), .val (.int p1), .val (.int p2), .val (.int p3), .val .null, .unset] [(.int p2)])) rfl (hb hby own_d5_5) _ ?_
    show Steps p.tables e below (s₁.setTop (mkF m 7 #[.val (.ref a0), .val (.int p1), .val (.int p2), .val (.int p3), .val .null, .unset] [(.int (67108862 : Int32)), (.int p2)])) t
    refine XS.icmpYes X0.here hx rfl (pc0 := 7) (pc' := 24) rfl (hb hby own_d5_7) rfl (flt hp1).2.2.2 (by decide) (by decide) ?_
    show Steps p.tables e below (s₁.setTop (mkF m 24 #[.val (.ref a0), .val (.int p1), .val (.int p2), .val (.int p3), .val .null, .unset] [])) t
    refine XS.iloadN X0.here hx rfl (hb hby own_d5_24) rfl ?_
    show Steps p.tables e below (s₁.setTop (mkF m 25 #[.val (.ref a0), .val (.int p1), .val (.int p2), .val (.int p3), .val .null, .unset] [(.int p1)])) t
    refine XS.istore X0.here hx rfl (hb hby own_d5_25) rfl (l' := #[.val (.ref a0), .val (.int p1), .val (.int p2), .val (.int p3), .val .null, .val (.int p1)]) rfl ?_
    show Steps p.tables e below (s₁.setTop (mkF m 27 #[.val (.ref a0), .val (.int p1), .val (.int p2), .val (.int p3), .val .null, .val (.int p1)] [])) t
    refine XS.aloadN X0.here hx rfl (hb hby own_d5_27) rfl rfl ?_
    show Steps p.tables e below (s₁.setTop (mkF m 28 #[.val (.ref a0), .val (.int p1), .val (.int p2), .val (.int p3), .val .null, .val (.int p1)] [(.ref a0)])) t
    refine st1 _ ?_
    show Steps p.tables e below (T1.setTop (mkF m 31 #[.val (.ref a0), .val (.int p1), .val (.int p2), .val (.int p3), .val .null, .val (.int p1)] [(.int (0 : Int32))])) t
    refine XS.iconst X1.here hx rfl (hb hby own_d5_31) ?_
    show Steps p.tables e below (T1.setTop (mkF m 32 #[.val (.ref a0), .val (.int p1), .val (.int p2), .val (.int p3), .val .null, .val (.int p1)] [(.int (1 : Int32)), (.int (0 : Int32))])) t
    refine XS.iadd X1.here hx rfl (hb hby own_d5_32) rfl ?_
    show Steps p.tables e below (T1.setTop (mkF m 33 #[.val (.ref a0), .val (.int p1), .val (.int p2), .val (.int p3), .val .null, .val (.int p1)] [(.int ((0 : Int32) + (1 : Int32)))])) t
    refine XS.aloadN X1.here hx rfl (hb hby own_d5_33) rfl rfl ?_
    show Steps p.tables e below (T1.setTop (mkF m 34 #[.val (.ref a0), .val (.int p1), .val (.int p2), .val (.int p3), .val .null, .val (.int p1)] [(.ref a0), (.int ((0 : Int32) + (1 : Int32)))])) t
    refine st2 _ ?_
    show Steps p.tables e below (T2.setTop (mkF m 37 #[.val (.ref a0), .val (.int p1), .val (.int p2), .val (.int p3), .val .null, .val (.int p1)] [(.ref tA), (.int ((0 : Int32) + (1 : Int32)))])) t
    refine lenA X2 hx hZ e2 A_t (z := (16 : Int32)) (by decide) (g := (mkF m 37 #[.val (.ref a0), .val (.int p1), .val (.int p2), .val (.int p3), .val .null, .val (.int p1)] [(.ref tA), (.int ((0 : Int32) + (1 : Int32)))])) rfl rfl (hb hby own_d5_37) _ ?_
    show Steps p.tables e below (T2.setTop (mkF m 38 #[.val (.ref a0), .val (.int p1), .val (.int p2), .val (.int p3), .val .null, .val (.int p1)] [(.int (16 : Int32)), (.int ((0 : Int32) + (1 : Int32)))])) t
    refine st3 _ ?_
    show Steps p.tables e below (T3.setTop (mkF m 41 #[.val (.ref a0), .val (.int p1), .val (.int p2), .val (.int p3), .val .null, .val (.int p1)] [(.int (own_f6_0 ((0 : Int32) + (1 : Int32)) (16 : Int32)))])) t
    refine XS.ifYes X3.here hx rfl (pc0 := 41) (pc' := 77) rfl (hb hby own_d5_41) rfl ((if0 _ _).trans (feq own_room).2) (by decide) (by decide) ?_
    show Steps p.tables e below (T3.setTop (mkF m 77 #[.val (.ref a0), .val (.int p1), .val (.int p2), .val (.int p3), .val .null, .val (.int p1)] [])) t
    refine XS.aloadN X3.here hx rfl (hb hby own_d5_77) rfl rfl ?_
    show Steps p.tables e below (T3.setTop (mkF m 78 #[.val (.ref a0), .val (.int p1), .val (.int p2), .val (.int p3), .val .null, .val (.int p1)] [(.ref a0)])) t
    refine st4 _ ?_
    show Steps p.tables e below (T4.setTop (mkF m 81 #[.val (.ref a0), .val (.int p1), .val (.int p2), .val (.int p3), .val .null, .val (.int p1)] [(.ref tA)])) t
    refine XS.iload X4.here hx rfl (hb hby own_d5_81) rfl ?_
    show Steps p.tables e below (T4.setTop (mkF m 83 #[.val (.ref a0), .val (.int p1), .val (.int p2), .val (.int p3), .val .null, .val (.int p1)] [(.int p1), (.ref tA)])) t
    refine XS.iloadN X4.here hx rfl (hb hby own_d5_83) rfl ?_
    show Steps p.tables e below (T4.setTop (mkF m 84 #[.val (.ref a0), .val (.int p1), .val (.int p2), .val (.int p3), .val .null, .val (.int p1)] [(.int p2), (.int p1), (.ref tA)])) t
    refine XS.iloadN X4.here hx rfl (hb hby own_d5_84) rfl ?_
    show Steps p.tables e below (T4.setTop (mkF m 85 #[.val (.ref a0), .val (.int p1), .val (.int p2), .val (.int p3), .val .null, .val (.int p1)] [(.int p3), (.int p2), (.int p1), (.ref tA)])) t
    refine st5 _ ?_
    show Steps p.tables e below (T5.setTop (mkF m 88 #[.val (.ref a0), .val (.int p1), .val (.int p2), .val (.int p3), .val .null, .val (.int p1)] [(.int (own_f7_0 p2 p3)), (.int p1), (.ref tA)])) t
    refine st6 _ ?_
    show Steps p.tables e below (T6.setTop (mkF m 89 #[.val (.ref a0), .val (.int p1), .val (.int p2), .val (.int p3), .val .null, .val (.int p1)] [])) t
    refine XS.aloadN X6.here hx rfl (hb hby own_d5_89) rfl rfl ?_
    show Steps p.tables e below (T6.setTop (mkF m 90 #[.val (.ref a0), .val (.int p1), .val (.int p2), .val (.int p3), .val .null, .val (.int p1)] [(.ref a0)])) t
    refine XS.dup X6.here hx rfl (hb hby own_d5_90) rfl rfl ?_
    show Steps p.tables e below (T6.setTop (mkF m 91 #[.val (.ref a0), .val (.int p1), .val (.int p2), .val (.int p3), .val .null, .val (.int p1)] [(.ref a0), (.ref a0)])) t
    refine st7 _ ?_
    show Steps p.tables e below (T7.setTop (mkF m 94 #[.val (.ref a0), .val (.int p1), .val (.int p2), .val (.int p3), .val .null, .val (.int p1)] [(.int (0 : Int32)), (.ref a0)])) t
    refine XS.iconst X7.here hx rfl (hb hby own_d5_94) ?_
    show Steps p.tables e below (T7.setTop (mkF m 95 #[.val (.ref a0), .val (.int p1), .val (.int p2), .val (.int p3), .val .null, .val (.int p1)] [(.int (1 : Int32)), (.int (0 : Int32)), (.ref a0)])) t
    refine XS.iadd X7.here hx rfl (hb hby own_d5_95) rfl ?_
    show Steps p.tables e below (T7.setTop (mkF m 96 #[.val (.ref a0), .val (.int p1), .val (.int p2), .val (.int p3), .val .null, .val (.int p1)] [(.int ((0 : Int32) + (1 : Int32))), (.ref a0)])) t
    refine st8 _ ?_
    show Steps p.tables e below (T8.setTop (mkF m 99 #[.val (.ref a0), .val (.int p1), .val (.int p2), .val (.int p3), .val .null, .val (.int p1)] [])) t
    exact k
  refine Owe.ret X8 Bd.notSynchronized (v := none) (fun _ => rfl) (fun fs hr => ?_) (by rw [e8]; exact ⟨rfl, N8, K8, E_a0_w8, F_slots_w8, Fn8, V6_w8⟩) (by decide) (by decide)
  show Steps p.tables e below (T8.setTop (mkF m 99 #[.val (.ref a0), .val (.int p1), .val (.int p2), .val (.int p3), .val .null, .val (.int p1)] [])) _
  exact X8.returnOut hx Bd.returns (hb hby own_d5_99) hr
theorem own_d8_0 : decode prog_50_method_6_code 0 = .ok (.aload_n 0, 1) := by decide +kernel
theorem own_d8_1 : decode prog_50_method_6_code 1 = .ok (.getfield 9, 3) := by decide +kernel
theorem own_d8_4 : decode prog_50_method_6_code 4 = .ok (.iload_n 1, 1) := by decide +kernel
theorem own_d8_5 : decode prog_50_method_6_code 5 = .ok (.iaload, 1) := by decide +kernel
theorem own_d8_6 : decode prog_50_method_6_code 6 = .ok (.istore_n 3, 1) := by decide +kernel
theorem own_d8_7 : decode prog_50_method_6_code 7 = .ok (.iload_n 3, 1) := by decide +kernel
theorem own_d8_8 : decode prog_50_method_6_code 8 = .ok (.iload_n 2, 1) := by decide +kernel
theorem own_d8_9 : decode prog_50_method_6_code 9 = .ok (.bipush 26, 2) := by decide +kernel
theorem own_d8_11 : decode prog_50_method_6_code 11 = .ok (.ishl, 1) := by decide +kernel
theorem own_d8_12 : decode prog_50_method_6_code 12 = .ok (.ixor, 1) := by decide +kernel
theorem own_d8_13 : decode prog_50_method_6_code 13 = .ok (.ldc 20, 2) := by decide +kernel
theorem own_d8_15 : decode prog_50_method_6_code 15 = .ok (.iand, 1) := by decide +kernel
theorem own_d8_16 : decode prog_50_method_6_code 16 = .ok (.ifCond .ne 12, 3) := by decide +kernel
theorem own_d8_19 : decode prog_50_method_6_code 19 = .ok (.iload_n 3, 1) := by decide +kernel
theorem own_d8_20 : decode prog_50_method_6_code 20 = .ok (.ldc 19, 2) := by decide +kernel
theorem own_d8_22 : decode prog_50_method_6_code 22 = .ok (.iand, 1) := by decide +kernel
theorem own_d8_23 : decode prog_50_method_6_code 23 = .ok (.iconst 1, 1) := by decide +kernel
theorem own_d8_24 : decode prog_50_method_6_code 24 = .ok (.isub, 1) := by decide +kernel
theorem own_d8_25 : decode prog_50_method_6_code 25 = .ok (.goto 4, 3) := by decide +kernel
theorem own_d8_28 : decode prog_50_method_6_code 28 = .ok (.iconst (-1), 1) := by decide +kernel
theorem own_d8_29 : decode prog_50_method_6_code 29 = .ok (.ireturn, 1) := by decide +kernel
theorem own_ef8 (m : MethodId) (a0 : Addr) (p1 : Int32) (p2 : Int32) : entryFrame m #[(.ref a0), (.int p1), (.int p2)] 4 = mkF m 0 #[.val (.ref a0), .val (.int p1), .val (.int p2), .unset] [] := by first | (simp [entryFrame, mkF, argsToLocals, Value.category]; done) | rfl
def own_f8_0 (p1 : Int32) (p2 : Int32) (fn : Nat → Int32) : Int32 := (if (((fn (p1).toNatClampNeg) ^^^ (p2 <<< ((26 : Int32) &&& 31))) &&& (-67108864 : Int32)) = (0 : Int32) then (((fn (p1).toNatClampNeg) &&& (67108863 : Int32)) - (1 : Int32)) else (-1 : Int32))
set_option maxRecDepth 65536 in
set_option maxHeartbeats 40000000 in
theorem own_rm8 (l : Launch) (Z : State) (aA : Array Value) (hw : ∀ d ∈ tables_1, d.before aA Z = true) (ws : List Jvm.Cond) (a0 : Addr) (p1 : Int32) (p2 : Int32) (tA : Addr) (fn : Nat → Int32) (h0 : Heap) (n0 : Nat) (Z0 : n0 ≤ h0.size) (F_slots : Fld Z h0 a0 "com/example/feuillet/feuillet/store/OpenTable" "slots" "[I" (.ref tA)) (A_t : AI Z h0 tA .int 16 fn) (hj : own_ok16 p1) :
    MetFree l (⟨"com/example/feuillet/feuillet/store/OpenTable", "entry", "(II)I"⟩ : MethodName) (head1 (Jvm.Cond.code (⟨"com/example/feuillet/feuillet/store/OpenTable", "entry", "(II)I"⟩ : MethodName) prog_50_method_6_code 4 (some .int) :: ws) ({ frames := 0, cells := 0, slots := 0, locals := 0 } : Room)) (fun a U => a = #[(.ref a0), (.int p1), (.int p2)] ∧ Z.Warmed39 U.vm ∧ U.heap = h0) (fun _ _ _ _ _ => True) (fun _ U o U' => ∃ v L, o = .returned v ∧ (QP (.int (own_f8_0 p1 p2 fn)) h0 n0) v U'.heap L ∧ FrameEnd U o U' L ({ frames := 0, cells := 0, slots := 0, locals := 0 } : Room).cells ({ frames := 0, cells := 0, slots := 0, locals := 0 } : Room).slots) := by
  refine MetFree.of_bodySF (plainFor_of_name own_pn0) hisR ?_
  intro p e s m args below meth c s₁ Bd hml0 hP hK
  obtain ⟨rfl, hZ, hh⟩ := hP
  have hx := Bd.exec
  have hby := Bd.bytes
  have hml : c.maxLocals = 4 := hml0
  have hown : s.vm.findClass "com/example/feuillet/feuillet/store/OpenTable" = some m.cls := findClass_of_methodNamed Bd.named
  have hnm := (name_of_methodNamed Bd.named Bd.method).1
  have X0 : Stand p l e ({ frames := 0, cells := 0, slots := 0, locals := 0 } : Room) s m #[(.ref a0), (.int p1), (.int p2)] below meth c s₁ [] 0 0 := Stand.of_body Bd
  have e0 : s₁.heap = h0 := by rw [← hh, Bd.state]; rfl
  have N0 := Fr.nil n0
  refine Owe.step (T := s₁) (T' := s₁) (g' := (mkF m 0 #[.val (.ref a0), .val (.int p1), .val (.int p2), .unset] [])) (fun t k => castTop (own_ef8 m a0 p1 p2) k) ?_
  obtain ⟨T1, X1, e1, st1⟩ := getF X0 hx hZ hown (host := "") (Or.inl (hw _ (List.mem_of_getElem? (i := 12) rfl))) Via.refl e0 F_slots (g := (mkF m 1 #[.val (.ref a0), .val (.int p1), .val (.int p2), .unset] [(.ref a0)])) rfl rfl (hb hby own_d8_1)
  refine Owe.step (T' := T1) (g' := (mkF m 16 #[.val (.ref a0), .val (.int p1), .val (.int p2), .val (.int (fn (p1).toNatClampNeg))] [(.int (((fn (p1).toNatClampNeg) ^^^ (p2 <<< ((26 : Int32) &&& 31))) &&& (-67108864 : Int32)))])) (fun t k => ?_) ?_
  · show Steps p.tables e below (s₁.setTop (mkF m 0 #[.val (.ref a0), .val (.int p1), .val (.int p2), .unset] [])) t
    refine XS.aloadN X0.here hx rfl (hb hby own_d8_0) rfl rfl ?_
    show Steps p.tables e below (s₁.setTop (mkF m 1 #[.val (.ref a0), .val (.int p1), .val (.int p2), .unset] [(.ref a0)])) t
    refine st1 _ ?_
    show Steps p.tables e below (T1.setTop (mkF m 4 #[.val (.ref a0), .val (.int p1), .val (.int p2), .unset] [(.ref tA)])) t
    refine XS.iloadN X1.here hx rfl (hb hby own_d8_4) rfl ?_
    show Steps p.tables e below (T1.setTop (mkF m 5 #[.val (.ref a0), .val (.int p1), .val (.int p2), .unset] [(.int p1), (.ref tA)])) t
    refine ldAI X1 hx hZ e1 A_t (j := p1) hj.1 hj.2 (g := (mkF m 5 #[.val (.ref a0), .val (.int p1), .val (.int p2), .unset] [(.int p1), (.ref tA)])) rfl rfl (hb hby own_d8_5) _ ?_
    show Steps p.tables e below (T1.setTop (mkF m 6 #[.val (.ref a0), .val (.int p1), .val (.int p2), .unset] [(.int (fn (p1).toNatClampNeg))])) t
    refine XS.istoreN X1.here hx rfl (hb hby own_d8_6) rfl (l' := #[.val (.ref a0), .val (.int p1), .val (.int p2), .val (.int (fn (p1).toNatClampNeg))]) rfl ?_
    show Steps p.tables e below (T1.setTop (mkF m 7 #[.val (.ref a0), .val (.int p1), .val (.int p2), .val (.int (fn (p1).toNatClampNeg))] [])) t
    refine XS.iloadN X1.here hx rfl (hb hby own_d8_7) rfl ?_
    show Steps p.tables e below (T1.setTop (mkF m 8 #[.val (.ref a0), .val (.int p1), .val (.int p2), .val (.int (fn (p1).toNatClampNeg))] [(.int (fn (p1).toNatClampNeg))])) t
    refine XS.iloadN X1.here hx rfl (hb hby own_d8_8) rfl ?_
    show Steps p.tables e below (T1.setTop (mkF m 9 #[.val (.ref a0), .val (.int p1), .val (.int p2), .val (.int (fn (p1).toNatClampNeg))] [(.int p2), (.int (fn (p1).toNatClampNeg))])) t
    refine XS.bipush X1.here hx rfl (hb hby own_d8_9) ?_
    show Steps p.tables e below (T1.setTop (mkF m 11 #[.val (.ref a0), .val (.int p1), .val (.int p2), .val (.int (fn (p1).toNatClampNeg))] [(.int (26 : Int32)), (.int p2), (.int (fn (p1).toNatClampNeg))])) t
    refine XS.ishl X1.here hx rfl (hb hby own_d8_11) rfl ?_
    show Steps p.tables e below (T1.setTop (mkF m 12 #[.val (.ref a0), .val (.int p1), .val (.int p2), .val (.int (fn (p1).toNatClampNeg))] [(.int (p2 <<< ((26 : Int32) &&& 31))), (.int (fn (p1).toNatClampNeg))])) t
    refine XS.ixor X1.here hx rfl (hb hby own_d8_12) rfl ?_
    show Steps p.tables e below (T1.setTop (mkF m 13 #[.val (.ref a0), .val (.int p1), .val (.int p2), .val (.int (fn (p1).toNatClampNeg))] [(.int ((fn (p1).toNatClampNeg) ^^^ (p2 <<< ((26 : Int32) &&& 31))))])) t
    refine X1.ldcInt hx hown (mvT hZ (hw _ (List.mem_of_getElem? (i := 45) rfl))) (g := (mkF m 13 #[.val (.ref a0), .val (.int p1), .val (.int p2), .val (.int (fn (p1).toNatClampNeg))] [(.int ((fn (p1).toNatClampNeg) ^^^ (p2 <<< ((26 : Int32) &&& 31))))])) rfl (hb hby own_d8_13) _ ?_
    show Steps p.tables e below (T1.setTop (mkF m 15 #[.val (.ref a0), .val (.int p1), .val (.int p2), .val (.int (fn (p1).toNatClampNeg))] [(.int (-67108864 : Int32)), (.int ((fn (p1).toNatClampNeg) ^^^ (p2 <<< ((26 : Int32) &&& 31))))])) t
    refine XS.iand X1.here hx rfl (hb hby own_d8_15) rfl ?_
    show Steps p.tables e below (T1.setTop (mkF m 16 #[.val (.ref a0), .val (.int p1), .val (.int p2), .val (.int (fn (p1).toNatClampNeg))] [(.int (((fn (p1).toNatClampNeg) ^^^ (p2 <<< ((26 : Int32) &&& 31))) &&& (-67108864 : Int32)))])) t
    exact k
  by_cases hc16 : (((fn (p1).toNatClampNeg) ^^^ (p2 <<< ((26 : Int32) &&& 31))) &&& (-67108864 : Int32)) = (0 : Int32)
  · refine Owe.step (T' := T1) (g' := (mkF m 19 #[.val (.ref a0), .val (.int p1), .val (.int p2), .val (.int (fn (p1).toNatClampNeg))] [])) (fun t k => ?_) ?_
    · show Steps p.tables e below (T1.setTop (mkF m 16 #[.val (.ref a0), .val (.int p1), .val (.int p2), .val (.int (fn (p1).toNatClampNeg))] [(.int (((fn (p1).toNatClampNeg) ^^^ (p2 <<< ((26 : Int32) &&& 31))) &&& (-67108864 : Int32)))])) t
      refine XS.ifNo X1.here hx rfl (hb hby own_d8_16) rfl ((if0 _ _).trans (teq hc16).2) ?_
      show Steps p.tables e below (T1.setTop (mkF m 19 #[.val (.ref a0), .val (.int p1), .val (.int p2), .val (.int (fn (p1).toNatClampNeg))] [])) t
      exact k
    rw [show own_f8_0 p1 p2 fn = (((fn (p1).toNatClampNeg) &&& (67108863 : Int32)) - (1 : Int32)) from (by rw [own_f8_0, if_pos hc16])]
    refine Owe.ret X1 Bd.notSynchronized (v := (some (.int (((fn (p1).toNatClampNeg) &&& (67108863 : Int32)) - (1 : Int32))))) (fun h => by rw [Bd.returns] at h; cases h) (fun fs hr => ?_) ⟨rfl, N0, e1⟩ (by decide) (by decide)
    show Steps p.tables e below (T1.setTop (mkF m 19 #[.val (.ref a0), .val (.int p1), .val (.int p2), .val (.int (fn (p1).toNatClampNeg))] [])) _
    refine XS.iloadN X1.here hx rfl (hb hby own_d8_19) rfl ?_
    show Steps p.tables e below (T1.setTop (mkF m 20 #[.val (.ref a0), .val (.int p1), .val (.int p2), .val (.int (fn (p1).toNatClampNeg))] [(.int (fn (p1).toNatClampNeg))])) _
    refine X1.ldcInt hx hown (mvT hZ (hw _ (List.mem_of_getElem? (i := 46) rfl))) (g := (mkF m 20 #[.val (.ref a0), .val (.int p1), .val (.int p2), .val (.int (fn (p1).toNatClampNeg))] [(.int (fn (p1).toNatClampNeg))])) rfl (hb hby own_d8_20) _ ?_
    show Steps p.tables e below (T1.setTop (mkF m 22 #[.val (.ref a0), .val (.int p1), .val (.int p2), .val (.int (fn (p1).toNatClampNeg))] [(.int (67108863 : Int32)), (.int (fn (p1).toNatClampNeg))])) _
    refine XS.iand X1.here hx rfl (hb hby own_d8_22) rfl ?_
    show Steps p.tables e below (T1.setTop (mkF m 23 #[.val (.ref a0), .val (.int p1), .val (.int p2), .val (.int (fn (p1).toNatClampNeg))] [(.int ((fn (p1).toNatClampNeg) &&& (67108863 : Int32)))])) _
    refine XS.iconst X1.here hx rfl (hb hby own_d8_23) ?_
    show Steps p.tables e below (T1.setTop (mkF m 24 #[.val (.ref a0), .val (.int p1), .val (.int p2), .val (.int (fn (p1).toNatClampNeg))] [(.int (1 : Int32)), (.int ((fn (p1).toNatClampNeg) &&& (67108863 : Int32)))])) _
    refine XS.isub X1.here hx rfl (hb hby own_d8_24) rfl ?_
    show Steps p.tables e below (T1.setTop (mkF m 25 #[.val (.ref a0), .val (.int p1), .val (.int p2), .val (.int (fn (p1).toNatClampNeg))] [(.int (((fn (p1).toNatClampNeg) &&& (67108863 : Int32)) - (1 : Int32)))])) _
    refine XS.goto X1.here hx rfl (pc0 := 25) (pc' := 29) rfl (hb hby own_d8_25) (by decide) (by decide) ?_
    show Steps p.tables e below (T1.setTop (mkF m 29 #[.val (.ref a0), .val (.int p1), .val (.int p2), .val (.int (fn (p1).toNatClampNeg))] [(.int (((fn (p1).toNatClampNeg) &&& (67108863 : Int32)) - (1 : Int32)))])) _
    exact retI X1 hx Bd.returns (hb hby own_d8_29) hr
  · refine Owe.step (T' := T1) (g' := (mkF m 28 #[.val (.ref a0), .val (.int p1), .val (.int p2), .val (.int (fn (p1).toNatClampNeg))] [])) (fun t k => ?_) ?_
    · show Steps p.tables e below (T1.setTop (mkF m 16 #[.val (.ref a0), .val (.int p1), .val (.int p2), .val (.int (fn (p1).toNatClampNeg))] [(.int (((fn (p1).toNatClampNeg) ^^^ (p2 <<< ((26 : Int32) &&& 31))) &&& (-67108864 : Int32)))])) t
      refine XS.ifYes X1.here hx rfl (pc0 := 16) (pc' := 28) rfl (hb hby own_d8_16) rfl ((if0 _ _).trans (feq hc16).2) (by decide) (by decide) ?_
      show Steps p.tables e below (T1.setTop (mkF m 28 #[.val (.ref a0), .val (.int p1), .val (.int p2), .val (.int (fn (p1).toNatClampNeg))] [])) t
      exact k
    rw [show own_f8_0 p1 p2 fn = (-1 : Int32) from (by rw [own_f8_0, if_neg hc16])]
    refine Owe.ret X1 Bd.notSynchronized (v := (some (.int (-1 : Int32)))) (fun h => by rw [Bd.returns] at h; cases h) (fun fs hr => ?_) ⟨rfl, N0, e1⟩ (by decide) (by decide)
    show Steps p.tables e below (T1.setTop (mkF m 28 #[.val (.ref a0), .val (.int p1), .val (.int p2), .val (.int (fn (p1).toNatClampNeg))] [])) _
    refine XS.iconst X1.here hx rfl (hb hby own_d8_28) ?_
    show Steps p.tables e below (T1.setTop (mkF m 29 #[.val (.ref a0), .val (.int p1), .val (.int p2), .val (.int (fn (p1).toNatClampNeg))] [(.int (-1 : Int32))])) _
    exact retI X1 hx Bd.returns (hb hby own_d8_29) hr
theorem own_pd3 : parseMethodDescriptor "()V" = some ⟨[], none⟩ := by decide +kernel
theorem own_pd4 : parseMethodDescriptor "(I)I" = some ⟨[.int], some .int⟩ := by decide +kernel
theorem own_pd5 : parseMethodDescriptor "(IIILjava/util/function/IntUnaryOperator;)V" = some ⟨[.int, .int, .int, (.object "java/util/function/IntUnaryOperator")], none⟩ := by decide +kernel
theorem own_pn2 : plainName "com/example/feuillet/feuillet/store/OpenTableEntryPinLaw" = true := by first | (simp [plainName, overriddenIn]; done) | decide +kernel
theorem own_ef0 (m : MethodId) (p0 : Int32) (p1 : Int32) (p2 : Int32) (p3 : Int32) : entryFrame m #[(.int p0), (.int p1), (.int p2), (.int p3)] maxLocals = mkF m 0 #[.val (.int p0), .val (.int p1), .val (.int p2), .val (.int p3), .unset, .unset, .unset, .unset, .unset, .unset] [] := by first | (simp [entryFrame, mkF, argsToLocals, Value.category, maxLocals]; done) | rfl
def own_f0_91 (p0 : Int32) (p1 : Int32) (p2 : Int32) (v91_9 : Int32) (t54_0 : Int32) : Int32 := (if (own_f8_0 t54_0 (p1 ^^^ p2) (own_upd (fun _ => (0 : Int32)) ((own_f3_0 p1)).toNatClampNeg (own_f7_0 ((p0 &&& (2147483647 : Int32)) - ((p0 &&& (2147483647 : Int32)) / (67108863 : Int32)) * (67108863 : Int32)) p1))) = v91_9 then (1 : Int32) else (0 : Int32))
def own_f0_54 (p0 : Int32) (p1 : Int32) (p2 : Int32) (t54_0 : Int32) : Int32 := (if t54_0 = (own_f3_0 p1) then (if (p2 &&& (63 : Int32)) = (0 : Int32) then (own_f0_91 p0 p1 p2 ((p0 &&& (2147483647 : Int32)) - ((p0 &&& (2147483647 : Int32)) / (67108863 : Int32)) * (67108863 : Int32)) t54_0) else (own_f0_91 p0 p1 p2 (-1 : Int32) t54_0)) else (own_f0_91 p0 p1 p2 (-1 : Int32) t54_0))
def own_f0_0 (p0 : Int32) (p1 : Int32) (p2 : Int32) (p3 : Int32) : Int32 := (if (p3 &&& (1 : Int32)) = (0 : Int32) then (own_f0_54 p0 p1 p2 (((p3.toUInt32 >>> ((1 : Int32) &&& 31).toUInt32).toInt32) &&& (15 : Int32))) else (own_f0_54 p0 p1 p2 (own_f3_0 p1)))
theorem own_bit {E : BitVec 32} (hE : E.toNat < 2 ^ 26) {i : Nat} (h : 26 ≤ i) : E.getLsbD i = false :=
  Nat.testBit_lt_two_pow (Nat.lt_of_lt_of_le hE (Nat.pow_le_pow_right (by decide) h))
theorem own_mhi : ∀ i : Fin 32, (0xFC000000#32).getLsbD i.val = decide (26 ≤ i.val) := by decide
theorem own_mlo : ∀ i : Fin 32, (0x3FFFFFF#32).getLsbD i.val = decide (i.val < 26) := by decide
theorem own_m63 : ∀ i : Fin 32, (63#32).getLsbD i.val = decide (i.val < 6) := by decide
theorem own_bv1 (H E D : BitVec 32) (hE : E.toNat < 2 ^ 26) : ((((H <<< 26) ||| E) ^^^ ((H ^^^ D) <<< 26)) &&& 0xFC000000#32) = D <<< 26 := by
  apply BitVec.eq_of_getLsbD_eq
  intro i hi
  have hm := own_mhi ⟨i, hi⟩
  simp only [BitVec.getLsbD_and, BitVec.getLsbD_xor, BitVec.getLsbD_or, BitVec.getLsbD_shiftLeft] at hm ⊢
  rw [hm]
  by_cases h : i < 26
  · have : ¬ 26 ≤ i := by omega
    simp [h, this]
  · have h' : 26 ≤ i := by omega
    rw [own_bit hE h']
    simp only [h, h', hi, decide_true, decide_false, Bool.not_false, Bool.true_and, Bool.and_true, Bool.or_false]
    cases H.getLsbD (i - 26) <;> cases D.getLsbD (i - 26) <;> rfl
theorem own_bv2 (H E : BitVec 32) (hE : E.toNat < 2 ^ 26) : (((H <<< 26) ||| E) &&& 0x3FFFFFF#32) = E := by
  apply BitVec.eq_of_getLsbD_eq
  intro i hi
  have hm := own_mlo ⟨i, hi⟩
  simp only [BitVec.getLsbD_and, BitVec.getLsbD_or, BitVec.getLsbD_shiftLeft] at hm ⊢
  rw [hm]
  by_cases h : i < 26
  · simp [h]
  · simp [h, own_bit hE (by omega : 26 ≤ i)]
theorem own_bv3 (D : BitVec 32) : D <<< 26 = 0#32 ↔ D &&& 63#32 = 0#32 := by
  constructor
  · intro q
    apply BitVec.eq_of_getLsbD_eq
    intro i hi
    have hm := own_m63 ⟨i, hi⟩
    simp only [BitVec.getLsbD_and] at hm ⊢
    rw [hm]
    by_cases h : i < 6
    · have := congrArg (fun z => BitVec.getLsbD z (i + 26)) q
      simp only [BitVec.getLsbD_shiftLeft] at this
      have e1 : i + 26 < 32 := by omega
      have e2 : ¬ (i + 26 < 26) := by omega
      have e3 : i + 26 - 26 = i := by omega
      simp [e1, e3] at this
      simp [h, this]
    · simp [h]
  · intro q
    apply BitVec.eq_of_getLsbD_eq
    intro i hi
    simp only [BitVec.getLsbD_shiftLeft]
    by_cases h : i < 26
    · simp [h]
    · have := congrArg (fun z => BitVec.getLsbD z (i - 26)) q
      have hm := own_m63 ⟨i - 26, by omega⟩
      simp only [BitVec.getLsbD_and] at this hm
      rw [hm] at this
      have e : i - 26 < 6 := by omega
      simp [e] at this
      simp [h, this]
theorem own_shl (x : Int32) : (x <<< ((26 : Int32) &&& 31)).toBitVec = x.toBitVec <<< 26 := by
  rw [Int32.toBitVec_shiftLeft]
  rfl
theorem own_hit (H D e : Int32) (he : 0 ≤ e.toInt ∧ e.toInt ≤ 67108862) :
    (((own_f7_0 e H) ^^^ ((H ^^^ D) <<< ((26 : Int32) &&& 31))) &&& (-67108864 : Int32) = 0 ↔ D &&& (63 : Int32) = 0) ∧ ((own_f7_0 e H) &&& (67108863 : Int32)) - (1 : Int32) = e := by
  have e1 : (e + 1).toInt = e.toInt + 1 := by
    have := c_iadd e 1
    have q : (1 : Int32).toInt = 1 := rfl
    have r := rng32 (e + 1)
    rw [q] at this
    omega
  have hE : (e + 1).toBitVec.toNat < 2 ^ 26 := by
    have h1 : (e + 1).toBitVec.toInt = e.toInt + 1 := e1
    rw [BitVec.toInt_eq_toNat_cond] at h1
    split at h1 <;> omega
  have b1 := own_bv1 H.toBitVec (e + 1).toBitVec D.toBitVec hE
  have b2 := own_bv2 H.toBitVec (e + 1).toBitVec hE
  have b3 := own_bv3 D.toBitVec
  unfold own_f7_0
  constructor
  · rw [← Int32.toBitVec_inj, ← Int32.toBitVec_inj]
    simp only [Int32.toBitVec_and, Int32.toBitVec_xor, Int32.toBitVec_or, own_shl]
    rw [show (-67108864 : Int32).toBitVec = 0xFC000000#32 from by decide, show (63 : Int32).toBitVec = 63#32 from rfl, show (0 : Int32).toBitVec = 0#32 from rfl, b1]
    exact b3
  · have q : ((H <<< ((26 : Int32) &&& 31)) ||| (e + 1)) &&& (67108863 : Int32) = e + 1 := by
      rw [← Int32.toBitVec_inj]
      simp only [Int32.toBitVec_and, Int32.toBitVec_or, own_shl]
      rw [show (67108863 : Int32).toBitVec = 0x3FFFFFF#32 from by decide]
      exact b2
    rw [q, Int32.add_sub_cancel]
theorem own_miss (h : Int32) : (if (((0 : Int32)) ^^^ h) &&& (-67108864 : Int32) = 0 then ((0 : Int32) &&& (67108863 : Int32)) - (1 : Int32) else (-1 : Int32)) = -1 := by
  split
  · decide
  · rfl
theorem own_54 (p0 p1 p2 q : Int32) (hq : own_ok16 q) : own_f0_54 p0 p1 p2 q = 1 := by
  have he := own_ei p0
  unfold own_f0_54 own_f0_91 own_f8_0
  generalize (p0 &&& (2147483647 : Int32)) - ((p0 &&& (2147483647 : Int32)) / (67108863 : Int32)) * (67108863 : Int32) = e at he
  by_cases a : q = own_f3_0 p1
  · rw [if_pos a, a, own_upd_same]
    obtain ⟨h1, h2⟩ := own_hit p1 p2 e he
    by_cases b : p2 &&& 63 = 0
    · rw [if_pos b, if_pos (h1.mpr b), if_pos h2]
    · rw [if_neg b, if_neg (fun z => b (h1.mp z)), if_pos rfl]
  · have n : q.toNatClampNeg ≠ (own_f3_0 p1).toNatClampNeg := fun z => a (by
      have s := own_s16i p1
      have e1 : q.toNatClampNeg = q.toInt.toNat := rfl
      have e2 : (own_f3_0 p1).toNatClampNeg = (own_f3_0 p1).toInt.toNat := rfl
      have g := hq.1
      have e0 : (0 : Int32).toInt = 0 := rfl
      rw [Int32.lt_iff_toInt_lt, e0] at g
      rw [e1, e2] at z
      exact Int32.toInt_inj.mp (by omega))
    rw [if_neg a, own_upd_other _ _ _ _ n, own_miss, if_pos rfl]
theorem own_law (p0 p1 p2 p3 : Int32) : own_f0_0 p0 p1 p2 p3 = 1 := by
  unfold own_f0_0
  split
  · exact own_54 _ _ _ _ (own_m16 _)
  · exact own_54 _ _ _ _ (own_s16 _)
set_option maxRecDepth 65536 in
set_option maxHeartbeats 40000000 in
theorem own_rm0 (l : Launch) (Z : State) (aA : Array Value) (hw : ∀ d ∈ tables_1, d.before aA Z = true) (ws : List Jvm.Cond) (p0 : Int32) (p1 : Int32) (p2 : Int32) (p3 : Int32)  (h0 : Heap) (n0 : Nat) (Z0 : n0 ≤ h0.size) :
    MetFree l x (head1 (Jvm.Cond.code x code maxLocals ret :: ws) room_1) (fun a U => a = #[(.int p0), (.int p1), (.int p2), (.int p3)] ∧ Z.Warmed39 U.vm ∧ U.heap = h0) (fun _ _ _ _ _ => True) (fun _ U o U' => ∃ v L, o = .returned v ∧ (QL (.int ((1 : Int32))) n0) v U'.heap L ∧ FrameEnd U o U' L 16 128) := by
  refine MetFree.of_bodySF (plainFor_of_name own_pn2) hisR ?_
  intro p e s m args below meth c s₁ Bd hml0 hP hK
  obtain ⟨rfl, hZ, hh⟩ := hP
  have hx := Bd.exec
  have hby := Bd.bytes
  have hml : c.maxLocals = 10 := hml0
  have hown : s.vm.findClass "com/example/feuillet/feuillet/store/OpenTableEntryPinLaw" = some m.cls := findClass_of_methodNamed Bd.named
  have hnm := (name_of_methodNamed Bd.named Bd.method).1
  have X0 : Stand p l e room_1 s m #[(.int p0), (.int p1), (.int p2), (.int p3)] below meth c s₁ [] 0 0 := Stand.of_body Bd
  have e0 : s₁.heap = h0 := by rw [← hh, Bd.state]; rfl
  have N0 := Fr.nil n0
  refine Owe.step (T := s₁) (T' := s₁) (g' := (mkF m 0 #[.val (.int p0), .val (.int p1), .val (.int p2), .val (.int p3), .unset, .unset, .unset, .unset, .unset, .unset] [])) (fun t k => castTop (own_ef0 m p0 p1 p2 p3) k) ?_
  obtain ⟨T1, h1, X1, e1, E1, A1, D1, -, st1⟩ := newO X0 hx hZ hown (hw _ (List.mem_of_getElem? (i := 2) rfl)) (hw _ (List.mem_of_getElem? (i := 3) rfl)) (hw _ (List.mem_of_getElem? (i := 4) rfl)) e0 (g := (mkF m 9 #[.val (.int p0), .val (.int p1), .val (.int p2), .val (.int p3), .val (.int ((p0 &&& (2147483647 : Int32)) - ((p0 &&& (2147483647 : Int32)) / (67108863 : Int32)) * (67108863 : Int32))), .unset, .unset, .unset, .unset, .unset] [])) rfl (hb hby at_9) (by decide) (by decide)
  obtain ⟨b1, g1⟩ : ∃ z, z = h0.size := ⟨_, rfl⟩
  rw [← g1] at A1 D1 st1
  have g_b1 : n0 ≤ b1 := Nat.le_trans Z0 (Nat.le_of_eq g1.symm)
  have Zn1 : n0 ≤ h1.size := Nat.le_trans Z0 E1.1
  have D1_13 : Fld Z h1 b1 "com/example/feuillet/feuillet/store/OpenTable" "slots" "[I" .null := D1 (Or.inl (hw _ (List.mem_of_getElem? (i := 13) rfl))) (ty := (.array .int)) (by decide)
  have D1_31 : Fld Z h1 b1 "com/example/feuillet/feuillet/store/OpenTable" "size" "I" (.int (0 : Int32)) := D1 (Or.inl (hw _ (List.mem_of_getElem? (i := 31) rfl))) (ty := .int) (by decide)
  obtain ⟨_, _, ⟨T2, L2, k2, n2⟩, -, X2, ⟨Lc2, hQ2, l2, y2, z2⟩, st2⟩ := X1.specialBack hx (y := (⟨"com/example/feuillet/feuillet/store/OpenTable", "<init>", "()V"⟩ : MethodName)) rfl hown (mvT hZ (hw _ (List.mem_of_getElem? (i := 5) rfl))) (mvT hZ (hw _ (List.mem_of_getElem? (i := 6) rfl))) (mvT hZ (hw _ (List.mem_of_getElem? (i := 7) rfl))) (by decide) (backOf (W := 1) (own_rm1 l Z aA hw [] b1 h1 n0 Zn1 A1 D1_13 D1_31 g_b1) hZ (hw _ (List.mem_of_getElem? (i := 7) rfl)) (hw _ (List.mem_of_getElem? (i := 4) rfl)) (by decide) (by decide)) (g := (mkF m 13 #[.val (.int p0), .val (.int p1), .val (.int p2), .val (.int p3), .val (.int ((p0 &&& (2147483647 : Int32)) - ((p0 &&& (2147483647 : Int32)) / (67108863 : Int32)) * (67108863 : Int32))), .unset, .unset, .unset, .unset, .unset] [(.ref b1), (.ref b1)])) rfl (by rw [hml]; rfl) (Steps.refl _) (a := b1) (argsL := []) (rest := [(.ref b1)]) (lenOf own_pd3 rfl) rfl (by show 2 * 0 + _ ≤ _; exact Nat.le_of_eq rfl) (hb hby at_13) (fun _ _ => ⟨rfl, e1, (by decide : 1 + 1 ≤ _), (by decide : 2 + 16 ≤ _)⟩)
  dsimp only [Pt.U, Pt.locs, Pt.cells, Pt.slots] at X2 l2 y2 z2 st2 hQ2
  subst y2 z2
  obtain ⟨h2, eh2⟩ : ∃ z, T2.heap = z := ⟨_, rfl⟩
  rw [eh2] at hQ2
  obtain ⟨b2_2, rfl, N2q, K2q, sz2_b2_2, G2_0, G2_1, G2_2, G2_3⟩ := hQ2
  have N2 : Fr n0 L2 := by rw [l2]; exact Fr.app N0 N2q
  have ne_b1_b2_2 : b1 ≠ b2_2 := Nat.ne_of_lt (Nat.lt_of_lt_of_le A1.lt sz2_b2_2)
  have g_b2_2 : n0 ≤ b2_2 := Nat.le_trans Zn1 sz2_b2_2
  have Zn2 : n0 ≤ h2.size := Nat.le_trans Zn1 K2q.1
  obtain ⟨cq3, kq3, q3a, q3b, q3c⟩ := isOf hZ eh2 G2_0
  obtain ⟨_, _, ⟨T3, L3, k3, n3⟩, -, X3, ⟨Lc3, hQ3, l3, y3, z3⟩, st3⟩ := X2.virtualBack hx (y := (⟨"com/example/feuillet/feuillet/store/OpenTable", "start", "(I)I"⟩ : MethodName)) (z := (⟨"com/example/feuillet/feuillet/store/OpenTable", "start", "(I)I"⟩ : MethodName)) hown (mvT hZ (hw _ (List.mem_of_getElem? (i := 14) rfl))) (mvT hZ (hw _ (List.mem_of_getElem? (i := 15) rfl))) (notFace_of_selects (args := #[]) (mvT hZ (hw _ (List.mem_of_getElem? (i := 17) rfl)))) (mvT hZ (hw _ (List.mem_of_getElem? (i := 17) rfl))) (mvT hZ (hw _ (List.mem_of_getElem? (i := 16) rfl))) (by decide) (backOf (W := 0) (own_rm3 l Z aA hw [] b1 p1 b2_2 (fun _ => (0 : Int32)) h2 n0 Zn2 G2_2 G2_3) hZ (hw _ (List.mem_of_getElem? (i := 18) rfl)) (hw _ (List.mem_of_getElem? (i := 4) rfl)) (by decide) (by decide)) q3a q3c (g := (mkF m 21 #[.val (.int p0), .val (.int p1), .val (.int p2), .val (.int p3), .val (.int ((p0 &&& (2147483647 : Int32)) - ((p0 &&& (2147483647 : Int32)) / (67108863 : Int32)) * (67108863 : Int32))), .val (.ref b1), .unset, .unset, .unset, .unset] [(.int p1), (.ref b1)])) rfl (by rw [hml]; rfl) (Steps.refl _) (argsL := [(.int p1)]) (rest := []) (lenOf own_pd4 rfl) rfl (by show 2 * 0 + _ ≤ _; exact Nat.le_of_eq rfl) (hb hby at_21) (fun _ _ => ⟨rfl, eh2, (by decide : 2 + 0 ≤ _), (by decide : 18 + 0 ≤ _)⟩)
  dsimp only [Pt.U, Pt.locs, Pt.cells, Pt.slots] at X3 l3 y3 z3 st3 hQ3
  subst y3 z3
  obtain ⟨rfl, N3q, e3⟩ := hQ3
  have N3 : Fr n0 L3 := by rw [l3]; exact Fr.app N2 N3q
  obtain ⟨cq4, kq4, q4a, q4b, q4c⟩ := isOf hZ e3 G2_0
  obtain ⟨_, _, ⟨T4, L4, k4, n4⟩, -, X4, ⟨Lc4, hQ4, l4, y4, z4⟩, st4⟩ := X3.virtualBack hx (y := (⟨"com/example/feuillet/feuillet/store/OpenTable", "put", "(IIILjava/util/function/IntUnaryOperator;)V"⟩ : MethodName)) (z := (⟨"com/example/feuillet/feuillet/store/OpenTable", "put", "(IIILjava/util/function/IntUnaryOperator;)V"⟩ : MethodName)) hown (mvT hZ (hw _ (List.mem_of_getElem? (i := 24) rfl))) (mvT hZ (hw _ (List.mem_of_getElem? (i := 25) rfl))) (notFace_of_selects (args := #[]) (mvT hZ (hw _ (List.mem_of_getElem? (i := 27) rfl)))) (mvT hZ (hw _ (List.mem_of_getElem? (i := 27) rfl))) (mvT hZ (hw _ (List.mem_of_getElem? (i := 26) rfl))) (by decide) (backOf (W := 0) (own_rm5 l Z aA hw [] b1 (own_f3_0 p1) ((p0 &&& (2147483647 : Int32)) - ((p0 &&& (2147483647 : Int32)) / (67108863 : Int32)) * (67108863 : Int32)) p1 b2_2 (fun _ => (0 : Int32)) h2 n0 Zn2 G2_0 G2_2 G2_1 G2_3 ne_b1_b2_2 g_b1 g_b2_2 (own_e0 p0).1 (own_e0 p0).2 (own_s16 p1)) hZ (hw _ (List.mem_of_getElem? (i := 28) rfl)) (hw _ (List.mem_of_getElem? (i := 4) rfl)) (by decide) (by decide)) q4a q4c (g := (mkF m 34 #[.val (.int p0), .val (.int p1), .val (.int p2), .val (.int p3), .val (.int ((p0 &&& (2147483647 : Int32)) - ((p0 &&& (2147483647 : Int32)) / (67108863 : Int32)) * (67108863 : Int32))), .val (.ref b1), .val (.int (own_f3_0 p1)), .unset, .unset, .unset] [.null, (.int p1), (.int ((p0 &&& (2147483647 : Int32)) - ((p0 &&& (2147483647 : Int32)) / (67108863 : Int32)) * (67108863 : Int32))), (.int (own_f3_0 p1)), (.ref b1)])) rfl (by rw [hml]; rfl) (Steps.refl _) (argsL := [(.int (own_f3_0 p1)), (.int ((p0 &&& (2147483647 : Int32)) - ((p0 &&& (2147483647 : Int32)) / (67108863 : Int32)) * (67108863 : Int32))), (.int p1), .null]) (rest := []) (lenOf own_pd5 rfl) rfl (by show 2 * 0 + _ ≤ _; exact Nat.le_of_eq rfl) (hb hby at_34) (fun _ _ => ⟨rfl, e3, (by decide : 2 + 0 ≤ _), (by decide : 18 + 0 ≤ _)⟩)
  dsimp only [Pt.U, Pt.locs, Pt.cells, Pt.slots] at X4 l4 y4 z4 st4 hQ4
  subst y4 z4
  obtain ⟨h4, eh4⟩ : ∃ z, T4.heap = z := ⟨_, rfl⟩
  rw [eh4] at hQ4
  obtain ⟨rfl, N4q, K4q, G4_0, G4_1, G4_2, G4_3⟩ := hQ4
  have N4 : Fr n0 L4 := by rw [l4]; exact Fr.app N3 N4q
  have Zn4 : n0 ≤ h4.size := Nat.le_trans Zn2 K4q.1
  refine Owe.step (T' := T4) (g' := (mkF m 40 #[.val (.int p0), .val (.int p1), .val (.int p2), .val (.int p3), .val (.int ((p0 &&& (2147483647 : Int32)) - ((p0 &&& (2147483647 : Int32)) / (67108863 : Int32)) * (67108863 : Int32))), .val (.ref b1), .val (.int (own_f3_0 p1)), .unset, .unset, .unset] [(.int (p3 &&& (1 : Int32)))])) (fun t k => ?_) ?_
  · show Steps p.tables e below (s₁.setTop (mkF m 0 #[.val (.int p0), .val (.int p1), .val (.int p2), .val (.int p3), .unset, .unset, .unset, .unset, .unset, .unset] [])) t
    refine XS.iloadN X0.here hx rfl (hb hby at_0) rfl ?_
    show Steps p.tables e below (s₁.setTop (mkF m 1 #[.val (.int p0), .val (.int p1), .val (.int p2), .val (.int p3), .unset, .unset, .unset, .unset, .unset, .unset] [(.int p0)])) t
    refine X0.ldcInt hx hown (mvT hZ (hw _ (List.mem_of_getElem? (i := 0) rfl))) (g := (mkF m 1 #[.val (.int p0), .val (.int p1), .val (.int p2), .val (.int p3), .unset, .unset, .unset, .unset, .unset, .unset] [(.int p0)])) rfl (hb hby at_1) _ ?_
    show Steps p.tables e below (s₁.setTop (mkF m 3 #[.val (.int p0), .val (.int p1), .val (.int p2), .val (.int p3), .unset, .unset, .unset, .unset, .unset, .unset] [(.int (2147483647 : Int32)), (.int p0)])) t
    refine XS.iand X0.here hx rfl (hb hby at_3) rfl ?_
    show Steps p.tables e below (s₁.setTop (mkF m 4 #[.val (.int p0), .val (.int p1), .val (.int p2), .val (.int p3), .unset, .unset, .unset, .unset, .unset, .unset] [(.int (p0 &&& (2147483647 : Int32)))])) t
    refine X0.ldcInt hx hown (mvT hZ (hw _ (List.mem_of_getElem? (i := 1) rfl))) (g := (mkF m 4 #[.val (.int p0), .val (.int p1), .val (.int p2), .val (.int p3), .unset, .unset, .unset, .unset, .unset, .unset] [(.int (p0 &&& (2147483647 : Int32)))])) rfl (hb hby at_4) _ ?_
    show Steps p.tables e below (s₁.setTop (mkF m 6 #[.val (.int p0), .val (.int p1), .val (.int p2), .val (.int p3), .unset, .unset, .unset, .unset, .unset, .unset] [(.int (67108863 : Int32)), (.int (p0 &&& (2147483647 : Int32)))])) t
    refine XS.irem X0.here hx rfl (hb hby at_6) rfl (by decide) ?_
    show Steps p.tables e below (s₁.setTop (mkF m 7 #[.val (.int p0), .val (.int p1), .val (.int p2), .val (.int p3), .unset, .unset, .unset, .unset, .unset, .unset] [(.int ((p0 &&& (2147483647 : Int32)) - ((p0 &&& (2147483647 : Int32)) / (67108863 : Int32)) * (67108863 : Int32)))])) t
    refine XS.istore X0.here hx rfl (hb hby at_7) rfl (l' := #[.val (.int p0), .val (.int p1), .val (.int p2), .val (.int p3), .val (.int ((p0 &&& (2147483647 : Int32)) - ((p0 &&& (2147483647 : Int32)) / (67108863 : Int32)) * (67108863 : Int32))), .unset, .unset, .unset, .unset, .unset]) rfl ?_
    show Steps p.tables e below (s₁.setTop (mkF m 9 #[.val (.int p0), .val (.int p1), .val (.int p2), .val (.int p3), .val (.int ((p0 &&& (2147483647 : Int32)) - ((p0 &&& (2147483647 : Int32)) / (67108863 : Int32)) * (67108863 : Int32))), .unset, .unset, .unset, .unset, .unset] [])) t
    refine st1 _ ?_
    show Steps p.tables e below (T1.setTop (mkF m 12 #[.val (.int p0), .val (.int p1), .val (.int p2), .val (.int p3), .val (.int ((p0 &&& (2147483647 : Int32)) - ((p0 &&& (2147483647 : Int32)) / (67108863 : Int32)) * (67108863 : Int32))), .unset, .unset, .unset, .unset, .unset] [(.ref b1)])) t
    refine XS.dup X1.here hx rfl (hb hby at_12) rfl rfl ?_
    show Steps p.tables e below (T1.setTop (mkF m 13 #[.val (.int p0), .val (.int p1), .val (.int p2), .val (.int p3), .val (.int ((p0 &&& (2147483647 : Int32)) - ((p0 &&& (2147483647 : Int32)) / (67108863 : Int32)) * (67108863 : Int32))), .unset, .unset, .unset, .unset, .unset] [(.ref b1), (.ref b1)])) t
    refine st2.trans ?_
    show Steps p.tables e below (T2.setTop (mkF m 16 #[.val (.int p0), .val (.int p1), .val (.int p2), .val (.int p3), .val (.int ((p0 &&& (2147483647 : Int32)) - ((p0 &&& (2147483647 : Int32)) / (67108863 : Int32)) * (67108863 : Int32))), .unset, .unset, .unset, .unset, .unset] [(.ref b1)])) t
    refine XS.astore X2.here hx rfl (hb hby at_16) rfl rfl (l' := #[.val (.int p0), .val (.int p1), .val (.int p2), .val (.int p3), .val (.int ((p0 &&& (2147483647 : Int32)) - ((p0 &&& (2147483647 : Int32)) / (67108863 : Int32)) * (67108863 : Int32))), .val (.ref b1), .unset, .unset, .unset, .unset]) rfl ?_
    show Steps p.tables e below (T2.setTop (mkF m 18 #[.val (.int p0), .val (.int p1), .val (.int p2), .val (.int p3), .val (.int ((p0 &&& (2147483647 : Int32)) - ((p0 &&& (2147483647 : Int32)) / (67108863 : Int32)) * (67108863 : Int32))), .val (.ref b1), .unset, .unset, .unset, .unset] [])) t
    refine XS.aload X2.here hx rfl (hb hby at_18) rfl rfl ?_
    show Steps p.tables e below (T2.setTop (mkF m 20 #[.val (.int p0), .val (.int p1), .val (.int p2), .val (.int p3), .val (.int ((p0 &&& (2147483647 : Int32)) - ((p0 &&& (2147483647 : Int32)) / (67108863 : Int32)) * (67108863 : Int32))), .val (.ref b1), .unset, .unset, .unset, .unset] [(.ref b1)])) t
    refine XS.iloadN X2.here hx rfl (hb hby at_20) rfl ?_
    show Steps p.tables e below (T2.setTop (mkF m 21 #[.val (.int p0), .val (.int p1), .val (.int p2), .val (.int p3), .val (.int ((p0 &&& (2147483647 : Int32)) - ((p0 &&& (2147483647 : Int32)) / (67108863 : Int32)) * (67108863 : Int32))), .val (.ref b1), .unset, .unset, .unset, .unset] [(.int p1), (.ref b1)])) t
    refine st3.trans ?_
    show Steps p.tables e below (T3.setTop (mkF m 24 #[.val (.int p0), .val (.int p1), .val (.int p2), .val (.int p3), .val (.int ((p0 &&& (2147483647 : Int32)) - ((p0 &&& (2147483647 : Int32)) / (67108863 : Int32)) * (67108863 : Int32))), .val (.ref b1), .unset, .unset, .unset, .unset] [(.int (own_f3_0 p1))])) t
    refine XS.istore X3.here hx rfl (hb hby at_24) rfl (l' := #[.val (.int p0), .val (.int p1), .val (.int p2), .val (.int p3), .val (.int ((p0 &&& (2147483647 : Int32)) - ((p0 &&& (2147483647 : Int32)) / (67108863 : Int32)) * (67108863 : Int32))), .val (.ref b1), .val (.int (own_f3_0 p1)), .unset, .unset, .unset]) rfl ?_
    show Steps p.tables e below (T3.setTop (mkF m 26 #[.val (.int p0), .val (.int p1), .val (.int p2), .val (.int p3), .val (.int ((p0 &&& (2147483647 : Int32)) - ((p0 &&& (2147483647 : Int32)) / (67108863 : Int32)) * (67108863 : Int32))), .val (.ref b1), .val (.int (own_f3_0 p1)), .unset, .unset, .unset] [])) t
    refine XS.aload X3.here hx rfl (hb hby at_26) rfl rfl ?_
    show Steps p.tables e below (T3.setTop (mkF m 28 #[.val (.int p0), .val (.int p1), .val (.int p2), .val (.int p3), .val (.int ((p0 &&& (2147483647 : Int32)) - ((p0 &&& (2147483647 : Int32)) / (67108863 : Int32)) * (67108863 : Int32))), .val (.ref b1), .val (.int (own_f3_0 p1)), .unset, .unset, .unset] [(.ref b1)])) t
    refine XS.iload X3.here hx rfl (hb hby at_28) rfl ?_
    show Steps p.tables e below (T3.setTop (mkF m 30 #[.val (.int p0), .val (.int p1), .val (.int p2), .val (.int p3), .val (.int ((p0 &&& (2147483647 : Int32)) - ((p0 &&& (2147483647 : Int32)) / (67108863 : Int32)) * (67108863 : Int32))), .val (.ref b1), .val (.int (own_f3_0 p1)), .unset, .unset, .unset] [(.int (own_f3_0 p1)), (.ref b1)])) t
    refine XS.iload X3.here hx rfl (hb hby at_30) rfl ?_
    show Steps p.tables e below (T3.setTop (mkF m 32 #[.val (.int p0), .val (.int p1), .val (.int p2), .val (.int p3), .val (.int ((p0 &&& (2147483647 : Int32)) - ((p0 &&& (2147483647 : Int32)) / (67108863 : Int32)) * (67108863 : Int32))), .val (.ref b1), .val (.int (own_f3_0 p1)), .unset, .unset, .unset] [(.int ((p0 &&& (2147483647 : Int32)) - ((p0 &&& (2147483647 : Int32)) / (67108863 : Int32)) * (67108863 : Int32))), (.int (own_f3_0 p1)), (.ref b1)])) t
    refine XS.iloadN X3.here hx rfl (hb hby at_32) rfl ?_
    show Steps p.tables e below (T3.setTop (mkF m 33 #[.val (.int p0), .val (.int p1), .val (.int p2), .val (.int p3), .val (.int ((p0 &&& (2147483647 : Int32)) - ((p0 &&& (2147483647 : Int32)) / (67108863 : Int32)) * (67108863 : Int32))), .val (.ref b1), .val (.int (own_f3_0 p1)), .unset, .unset, .unset] [(.int p1), (.int ((p0 &&& (2147483647 : Int32)) - ((p0 &&& (2147483647 : Int32)) / (67108863 : Int32)) * (67108863 : Int32))), (.int (own_f3_0 p1)), (.ref b1)])) t
    refine XS.aconstNull X3.here hx rfl (hb hby at_33) ?_
    show Steps p.tables e below (T3.setTop (mkF m 34 #[.val (.int p0), .val (.int p1), .val (.int p2), .val (.int p3), .val (.int ((p0 &&& (2147483647 : Int32)) - ((p0 &&& (2147483647 : Int32)) / (67108863 : Int32)) * (67108863 : Int32))), .val (.ref b1), .val (.int (own_f3_0 p1)), .unset, .unset, .unset] [.null, (.int p1), (.int ((p0 &&& (2147483647 : Int32)) - ((p0 &&& (2147483647 : Int32)) / (67108863 : Int32)) * (67108863 : Int32))), (.int (own_f3_0 p1)), (.ref b1)])) t
    refine st4.trans ?_
    show Steps p.tables e below (T4.setTop (mkF m 37 #[.val (.int p0), .val (.int p1), .val (.int p2), .val (.int p3), .val (.int ((p0 &&& (2147483647 : Int32)) - ((p0 &&& (2147483647 : Int32)) / (67108863 : Int32)) * (67108863 : Int32))), .val (.ref b1), .val (.int (own_f3_0 p1)), .unset, .unset, .unset] [])) t
    refine XS.iloadN X4.here hx rfl (hb hby at_37) rfl ?_
    show Steps p.tables e below (T4.setTop (mkF m 38 #[.val (.int p0), .val (.int p1), .val (.int p2), .val (.int p3), .val (.int ((p0 &&& (2147483647 : Int32)) - ((p0 &&& (2147483647 : Int32)) / (67108863 : Int32)) * (67108863 : Int32))), .val (.ref b1), .val (.int (own_f3_0 p1)), .unset, .unset, .unset] [(.int p3)])) t
    refine XS.iconst X4.here hx rfl (hb hby at_38) ?_
    show Steps p.tables e below (T4.setTop (mkF m 39 #[.val (.int p0), .val (.int p1), .val (.int p2), .val (.int p3), .val (.int ((p0 &&& (2147483647 : Int32)) - ((p0 &&& (2147483647 : Int32)) / (67108863 : Int32)) * (67108863 : Int32))), .val (.ref b1), .val (.int (own_f3_0 p1)), .unset, .unset, .unset] [(.int (1 : Int32)), (.int p3)])) t
    refine XS.iand X4.here hx rfl (hb hby at_39) rfl ?_
    show Steps p.tables e below (T4.setTop (mkF m 40 #[.val (.int p0), .val (.int p1), .val (.int p2), .val (.int p3), .val (.int ((p0 &&& (2147483647 : Int32)) - ((p0 &&& (2147483647 : Int32)) / (67108863 : Int32)) * (67108863 : Int32))), .val (.ref b1), .val (.int (own_f3_0 p1)), .unset, .unset, .unset] [(.int (p3 &&& (1 : Int32)))])) t
    exact k
  have j54 : ∀ (T : State) (Lc : List Loc) (X : Stand p l e room_1 s m #[(.int p0), (.int p1), (.int p2), (.int p3)] below meth c T Lc 2 18) (eT : T.heap = h4) (N : Fr n0 Lc) (t54_0 : Int32) (iv54 : own_ok16 t54_0), Owe p e below s 16 128 (QL (.int (own_f0_54 p0 p1 p2 t54_0)) n0) T (mkF m 54 #[.val (.int p0), .val (.int p1), .val (.int p2), .val (.int p3), .val (.int ((p0 &&& (2147483647 : Int32)) - ((p0 &&& (2147483647 : Int32)) / (67108863 : Int32)) * (67108863 : Int32))), .val (.ref b1), .val (.int (own_f3_0 p1)), .unset, .unset, .unset] [(.int t54_0)]) := by
    intro T54j Lc54j X54j e54j N54j t54_0 iv54
    refine Owe.step (T' := T54j) (g' := (mkF m 65 #[.val (.int p0), .val (.int p1), .val (.int p2), .val (.int p3), .val (.int ((p0 &&& (2147483647 : Int32)) - ((p0 &&& (2147483647 : Int32)) / (67108863 : Int32)) * (67108863 : Int32))), .val (.ref b1), .val (.int (own_f3_0 p1)), .val (.int t54_0), .val (.int (p1 ^^^ p2)), .unset] [(.int (own_f3_0 p1)), (.int t54_0)])) (fun t k => ?_) ?_
    · show Steps p.tables e below (T54j.setTop (mkF m 54 #[.val (.int p0), .val (.int p1), .val (.int p2), .val (.int p3), .val (.int ((p0 &&& (2147483647 : Int32)) - ((p0 &&& (2147483647 : Int32)) / (67108863 : Int32)) * (67108863 : Int32))), .val (.ref b1), .val (.int (own_f3_0 p1)), .unset, .unset, .unset] [(.int t54_0)])) t
      refine XS.istore X54j.here hx rfl (hb hby at_54) rfl (l' := #[.val (.int p0), .val (.int p1), .val (.int p2), .val (.int p3), .val (.int ((p0 &&& (2147483647 : Int32)) - ((p0 &&& (2147483647 : Int32)) / (67108863 : Int32)) * (67108863 : Int32))), .val (.ref b1), .val (.int (own_f3_0 p1)), .val (.int t54_0), .unset, .unset]) rfl ?_
      show Steps p.tables e below (T54j.setTop (mkF m 56 #[.val (.int p0), .val (.int p1), .val (.int p2), .val (.int p3), .val (.int ((p0 &&& (2147483647 : Int32)) - ((p0 &&& (2147483647 : Int32)) / (67108863 : Int32)) * (67108863 : Int32))), .val (.ref b1), .val (.int (own_f3_0 p1)), .val (.int t54_0), .unset, .unset] [])) t
      refine XS.iloadN X54j.here hx rfl (hb hby at_56) rfl ?_
      show Steps p.tables e below (T54j.setTop (mkF m 57 #[.val (.int p0), .val (.int p1), .val (.int p2), .val (.int p3), .val (.int ((p0 &&& (2147483647 : Int32)) - ((p0 &&& (2147483647 : Int32)) / (67108863 : Int32)) * (67108863 : Int32))), .val (.ref b1), .val (.int (own_f3_0 p1)), .val (.int t54_0), .unset, .unset] [(.int p1)])) t
      refine XS.iloadN X54j.here hx rfl (hb hby at_57) rfl ?_
      show Steps p.tables e below (T54j.setTop (mkF m 58 #[.val (.int p0), .val (.int p1), .val (.int p2), .val (.int p3), .val (.int ((p0 &&& (2147483647 : Int32)) - ((p0 &&& (2147483647 : Int32)) / (67108863 : Int32)) * (67108863 : Int32))), .val (.ref b1), .val (.int (own_f3_0 p1)), .val (.int t54_0), .unset, .unset] [(.int p2), (.int p1)])) t
      refine XS.ixor X54j.here hx rfl (hb hby at_58) rfl ?_
      show Steps p.tables e below (T54j.setTop (mkF m 59 #[.val (.int p0), .val (.int p1), .val (.int p2), .val (.int p3), .val (.int ((p0 &&& (2147483647 : Int32)) - ((p0 &&& (2147483647 : Int32)) / (67108863 : Int32)) * (67108863 : Int32))), .val (.ref b1), .val (.int (own_f3_0 p1)), .val (.int t54_0), .unset, .unset] [(.int (p1 ^^^ p2))])) t
      refine XS.istore X54j.here hx rfl (hb hby at_59) rfl (l' := #[.val (.int p0), .val (.int p1), .val (.int p2), .val (.int p3), .val (.int ((p0 &&& (2147483647 : Int32)) - ((p0 &&& (2147483647 : Int32)) / (67108863 : Int32)) * (67108863 : Int32))), .val (.ref b1), .val (.int (own_f3_0 p1)), .val (.int t54_0), .val (.int (p1 ^^^ p2)), .unset]) rfl ?_
      show Steps p.tables e below (T54j.setTop (mkF m 61 #[.val (.int p0), .val (.int p1), .val (.int p2), .val (.int p3), .val (.int ((p0 &&& (2147483647 : Int32)) - ((p0 &&& (2147483647 : Int32)) / (67108863 : Int32)) * (67108863 : Int32))), .val (.ref b1), .val (.int (own_f3_0 p1)), .val (.int t54_0), .val (.int (p1 ^^^ p2)), .unset] [])) t
      refine XS.iload X54j.here hx rfl (hb hby at_61) rfl ?_
      show Steps p.tables e below (T54j.setTop (mkF m 63 #[.val (.int p0), .val (.int p1), .val (.int p2), .val (.int p3), .val (.int ((p0 &&& (2147483647 : Int32)) - ((p0 &&& (2147483647 : Int32)) / (67108863 : Int32)) * (67108863 : Int32))), .val (.ref b1), .val (.int (own_f3_0 p1)), .val (.int t54_0), .val (.int (p1 ^^^ p2)), .unset] [(.int t54_0)])) t
      refine XS.iload X54j.here hx rfl (hb hby at_63) rfl ?_
      show Steps p.tables e below (T54j.setTop (mkF m 65 #[.val (.int p0), .val (.int p1), .val (.int p2), .val (.int p3), .val (.int ((p0 &&& (2147483647 : Int32)) - ((p0 &&& (2147483647 : Int32)) / (67108863 : Int32)) * (67108863 : Int32))), .val (.ref b1), .val (.int (own_f3_0 p1)), .val (.int t54_0), .val (.int (p1 ^^^ p2)), .unset] [(.int (own_f3_0 p1)), (.int t54_0)])) t
      exact k
    have j91 : ∀ (T : State) (Lc : List Loc) (X : Stand p l e room_1 s m #[(.int p0), (.int p1), (.int p2), (.int p3)] below meth c T Lc 2 18) (eT : T.heap = h4) (N : Fr n0 Lc) (v91_9 : Int32), Owe p e below s 16 128 (QL (.int (own_f0_91 p0 p1 p2 v91_9 t54_0)) n0) T (mkF m 91 #[.val (.int p0), .val (.int p1), .val (.int p2), .val (.int p3), .val (.int ((p0 &&& (2147483647 : Int32)) - ((p0 &&& (2147483647 : Int32)) / (67108863 : Int32)) * (67108863 : Int32))), .val (.ref b1), .val (.int (own_f3_0 p1)), .val (.int t54_0), .val (.int (p1 ^^^ p2)), .val (.int v91_9)] []) := by
      intro T91j Lc91j X91j e91j N91j v91_9
      obtain ⟨cq5, kq5, q5a, q5b, q5c⟩ := isOf hZ e91j G4_0
      obtain ⟨_, _, ⟨T5, L5, k5, n5⟩, -, X5, ⟨Lc5, hQ5, l5, y5, z5⟩, st5⟩ := X91j.virtualBack hx (y := (⟨"com/example/feuillet/feuillet/store/OpenTable", "entry", "(II)I"⟩ : MethodName)) (z := (⟨"com/example/feuillet/feuillet/store/OpenTable", "entry", "(II)I"⟩ : MethodName)) hown (mvT hZ (hw _ (List.mem_of_getElem? (i := 40) rfl))) (mvT hZ (hw _ (List.mem_of_getElem? (i := 41) rfl))) (notFace_of_selects (args := #[]) (mvT hZ (hw _ (List.mem_of_getElem? (i := 43) rfl)))) (mvT hZ (hw _ (List.mem_of_getElem? (i := 43) rfl))) (mvT hZ (hw _ (List.mem_of_getElem? (i := 42) rfl))) (by decide) (backOf (W := 0) (own_rm8 l Z aA hw [] b1 t54_0 (p1 ^^^ p2) b2_2 (own_upd (fun _ => (0 : Int32)) ((own_f3_0 p1)).toNatClampNeg (own_f7_0 ((p0 &&& (2147483647 : Int32)) - ((p0 &&& (2147483647 : Int32)) / (67108863 : Int32)) * (67108863 : Int32)) p1)) h4 n0 Zn4 G4_1 G4_3 iv54) hZ (hw _ (List.mem_of_getElem? (i := 44) rfl)) (hw _ (List.mem_of_getElem? (i := 4) rfl)) (by decide) (by decide)) q5a q5c (g := (mkF m 97 #[.val (.int p0), .val (.int p1), .val (.int p2), .val (.int p3), .val (.int ((p0 &&& (2147483647 : Int32)) - ((p0 &&& (2147483647 : Int32)) / (67108863 : Int32)) * (67108863 : Int32))), .val (.ref b1), .val (.int (own_f3_0 p1)), .val (.int t54_0), .val (.int (p1 ^^^ p2)), .val (.int v91_9)] [(.int (p1 ^^^ p2)), (.int t54_0), (.ref b1)])) rfl (by rw [hml]; rfl) (Steps.refl _) (argsL := [(.int t54_0), (.int (p1 ^^^ p2))]) (rest := []) (lenOf own_pd2 rfl) rfl (by show 2 * 0 + _ ≤ _; exact Nat.le_of_eq rfl) (hb hby at_97) (fun _ _ => ⟨rfl, e91j, (by decide : 2 + 0 ≤ _), (by decide : 18 + 0 ≤ _)⟩)
      dsimp only [Pt.U, Pt.locs, Pt.cells, Pt.slots] at X5 l5 y5 z5 st5 hQ5
      subst y5 z5
      obtain ⟨rfl, N5q, e5⟩ := hQ5
      have N5 : Fr n0 L5 := by rw [l5]; exact Fr.app N91j N5q
      refine Owe.step (T' := T5) (g' := (mkF m 102 #[.val (.int p0), .val (.int p1), .val (.int p2), .val (.int p3), .val (.int ((p0 &&& (2147483647 : Int32)) - ((p0 &&& (2147483647 : Int32)) / (67108863 : Int32)) * (67108863 : Int32))), .val (.ref b1), .val (.int (own_f3_0 p1)), .val (.int t54_0), .val (.int (p1 ^^^ p2)), .val (.int v91_9)] [(.int v91_9), (.int (own_f8_0 t54_0 (p1 ^^^ p2) (own_upd (fun _ => (0 : Int32)) ((own_f3_0 p1)).toNatClampNeg (own_f7_0 ((p0 &&& (2147483647 : Int32)) - ((p0 &&& (2147483647 : Int32)) / (67108863 : Int32)) * (67108863 : Int32)) p1))))])) (fun t k => ?_) ?_
      · show Steps p.tables e below (T91j.setTop (mkF m 91 #[.val (.int p0), .val (.int p1), .val (.int p2), .val (.int p3), .val (.int ((p0 &&& (2147483647 : Int32)) - ((p0 &&& (2147483647 : Int32)) / (67108863 : Int32)) * (67108863 : Int32))), .val (.ref b1), .val (.int (own_f3_0 p1)), .val (.int t54_0), .val (.int (p1 ^^^ p2)), .val (.int v91_9)] [])) t
        refine XS.aload X91j.here hx rfl (hb hby at_91) rfl rfl ?_
        show Steps p.tables e below (T91j.setTop (mkF m 93 #[.val (.int p0), .val (.int p1), .val (.int p2), .val (.int p3), .val (.int ((p0 &&& (2147483647 : Int32)) - ((p0 &&& (2147483647 : Int32)) / (67108863 : Int32)) * (67108863 : Int32))), .val (.ref b1), .val (.int (own_f3_0 p1)), .val (.int t54_0), .val (.int (p1 ^^^ p2)), .val (.int v91_9)] [(.ref b1)])) t
        refine XS.iload X91j.here hx rfl (hb hby at_93) rfl ?_
        show Steps p.tables e below (T91j.setTop (mkF m 95 #[.val (.int p0), .val (.int p1), .val (.int p2), .val (.int p3), .val (.int ((p0 &&& (2147483647 : Int32)) - ((p0 &&& (2147483647 : Int32)) / (67108863 : Int32)) * (67108863 : Int32))), .val (.ref b1), .val (.int (own_f3_0 p1)), .val (.int t54_0), .val (.int (p1 ^^^ p2)), .val (.int v91_9)] [(.int t54_0), (.ref b1)])) t
        refine XS.iload X91j.here hx rfl (hb hby at_95) rfl ?_
        show Steps p.tables e below (T91j.setTop (mkF m 97 #[.val (.int p0), .val (.int p1), .val (.int p2), .val (.int p3), .val (.int ((p0 &&& (2147483647 : Int32)) - ((p0 &&& (2147483647 : Int32)) / (67108863 : Int32)) * (67108863 : Int32))), .val (.ref b1), .val (.int (own_f3_0 p1)), .val (.int t54_0), .val (.int (p1 ^^^ p2)), .val (.int v91_9)] [(.int (p1 ^^^ p2)), (.int t54_0), (.ref b1)])) t
        refine st5.trans ?_
        show Steps p.tables e below (T5.setTop (mkF m 100 #[.val (.int p0), .val (.int p1), .val (.int p2), .val (.int p3), .val (.int ((p0 &&& (2147483647 : Int32)) - ((p0 &&& (2147483647 : Int32)) / (67108863 : Int32)) * (67108863 : Int32))), .val (.ref b1), .val (.int (own_f3_0 p1)), .val (.int t54_0), .val (.int (p1 ^^^ p2)), .val (.int v91_9)] [(.int (own_f8_0 t54_0 (p1 ^^^ p2) (own_upd (fun _ => (0 : Int32)) ((own_f3_0 p1)).toNatClampNeg (own_f7_0 ((p0 &&& (2147483647 : Int32)) - ((p0 &&& (2147483647 : Int32)) / (67108863 : Int32)) * (67108863 : Int32)) p1))))])) t
        refine XS.iload X5.here hx rfl (hb hby at_100) rfl ?_
        show Steps p.tables e below (T5.setTop (mkF m 102 #[.val (.int p0), .val (.int p1), .val (.int p2), .val (.int p3), .val (.int ((p0 &&& (2147483647 : Int32)) - ((p0 &&& (2147483647 : Int32)) / (67108863 : Int32)) * (67108863 : Int32))), .val (.ref b1), .val (.int (own_f3_0 p1)), .val (.int t54_0), .val (.int (p1 ^^^ p2)), .val (.int v91_9)] [(.int v91_9), (.int (own_f8_0 t54_0 (p1 ^^^ p2) (own_upd (fun _ => (0 : Int32)) ((own_f3_0 p1)).toNatClampNeg (own_f7_0 ((p0 &&& (2147483647 : Int32)) - ((p0 &&& (2147483647 : Int32)) / (67108863 : Int32)) * (67108863 : Int32)) p1))))])) t
        exact k
      by_cases hc102 : (own_f8_0 t54_0 (p1 ^^^ p2) (own_upd (fun _ => (0 : Int32)) ((own_f3_0 p1)).toNatClampNeg (own_f7_0 ((p0 &&& (2147483647 : Int32)) - ((p0 &&& (2147483647 : Int32)) / (67108863 : Int32)) * (67108863 : Int32)) p1))) = v91_9
      · refine Owe.step (T' := T5) (g' := (mkF m 105 #[.val (.int p0), .val (.int p1), .val (.int p2), .val (.int p3), .val (.int ((p0 &&& (2147483647 : Int32)) - ((p0 &&& (2147483647 : Int32)) / (67108863 : Int32)) * (67108863 : Int32))), .val (.ref b1), .val (.int (own_f3_0 p1)), .val (.int t54_0), .val (.int (p1 ^^^ p2)), .val (.int v91_9)] [])) (fun t k => ?_) ?_
        · show Steps p.tables e below (T5.setTop (mkF m 102 #[.val (.int p0), .val (.int p1), .val (.int p2), .val (.int p3), .val (.int ((p0 &&& (2147483647 : Int32)) - ((p0 &&& (2147483647 : Int32)) / (67108863 : Int32)) * (67108863 : Int32))), .val (.ref b1), .val (.int (own_f3_0 p1)), .val (.int t54_0), .val (.int (p1 ^^^ p2)), .val (.int v91_9)] [(.int v91_9), (.int (own_f8_0 t54_0 (p1 ^^^ p2) (own_upd (fun _ => (0 : Int32)) ((own_f3_0 p1)).toNatClampNeg (own_f7_0 ((p0 &&& (2147483647 : Int32)) - ((p0 &&& (2147483647 : Int32)) / (67108863 : Int32)) * (67108863 : Int32)) p1))))])) t
          refine XS.icmpNo X5.here hx rfl (hb hby at_102) rfl (teq hc102).2 ?_
          show Steps p.tables e below (T5.setTop (mkF m 105 #[.val (.int p0), .val (.int p1), .val (.int p2), .val (.int p3), .val (.int ((p0 &&& (2147483647 : Int32)) - ((p0 &&& (2147483647 : Int32)) / (67108863 : Int32)) * (67108863 : Int32))), .val (.ref b1), .val (.int (own_f3_0 p1)), .val (.int t54_0), .val (.int (p1 ^^^ p2)), .val (.int v91_9)] [])) t
          exact k
        rw [show own_f0_91 p0 p1 p2 v91_9 t54_0 = (1 : Int32) from (by rw [own_f0_91, if_pos hc102])]
        refine Owe.ret X5 Bd.notSynchronized (v := (some (.int (1 : Int32)))) (fun h => by rw [Bd.returns] at h; cases h) (fun fs hr => ?_) ⟨rfl, N5⟩ (by decide) (by decide)
        show Steps p.tables e below (T5.setTop (mkF m 105 #[.val (.int p0), .val (.int p1), .val (.int p2), .val (.int p3), .val (.int ((p0 &&& (2147483647 : Int32)) - ((p0 &&& (2147483647 : Int32)) / (67108863 : Int32)) * (67108863 : Int32))), .val (.ref b1), .val (.int (own_f3_0 p1)), .val (.int t54_0), .val (.int (p1 ^^^ p2)), .val (.int v91_9)] [])) _
        refine XS.iconst X5.here hx rfl (hb hby at_105) ?_
        show Steps p.tables e below (T5.setTop (mkF m 106 #[.val (.int p0), .val (.int p1), .val (.int p2), .val (.int p3), .val (.int ((p0 &&& (2147483647 : Int32)) - ((p0 &&& (2147483647 : Int32)) / (67108863 : Int32)) * (67108863 : Int32))), .val (.ref b1), .val (.int (own_f3_0 p1)), .val (.int t54_0), .val (.int (p1 ^^^ p2)), .val (.int v91_9)] [(.int (1 : Int32))])) _
        refine XS.goto X5.here hx rfl (pc0 := 106) (pc' := 110) rfl (hb hby at_106) (by decide) (by decide) ?_
        show Steps p.tables e below (T5.setTop (mkF m 110 #[.val (.int p0), .val (.int p1), .val (.int p2), .val (.int p3), .val (.int ((p0 &&& (2147483647 : Int32)) - ((p0 &&& (2147483647 : Int32)) / (67108863 : Int32)) * (67108863 : Int32))), .val (.ref b1), .val (.int (own_f3_0 p1)), .val (.int t54_0), .val (.int (p1 ^^^ p2)), .val (.int v91_9)] [(.int (1 : Int32))])) _
        exact retN X5 hx (t := .boolean) Bd.returns (by simp) (hb hby at_110) hr
      · refine Owe.step (T' := T5) (g' := (mkF m 109 #[.val (.int p0), .val (.int p1), .val (.int p2), .val (.int p3), .val (.int ((p0 &&& (2147483647 : Int32)) - ((p0 &&& (2147483647 : Int32)) / (67108863 : Int32)) * (67108863 : Int32))), .val (.ref b1), .val (.int (own_f3_0 p1)), .val (.int t54_0), .val (.int (p1 ^^^ p2)), .val (.int v91_9)] [])) (fun t k => ?_) ?_
        · show Steps p.tables e below (T5.setTop (mkF m 102 #[.val (.int p0), .val (.int p1), .val (.int p2), .val (.int p3), .val (.int ((p0 &&& (2147483647 : Int32)) - ((p0 &&& (2147483647 : Int32)) / (67108863 : Int32)) * (67108863 : Int32))), .val (.ref b1), .val (.int (own_f3_0 p1)), .val (.int t54_0), .val (.int (p1 ^^^ p2)), .val (.int v91_9)] [(.int v91_9), (.int (own_f8_0 t54_0 (p1 ^^^ p2) (own_upd (fun _ => (0 : Int32)) ((own_f3_0 p1)).toNatClampNeg (own_f7_0 ((p0 &&& (2147483647 : Int32)) - ((p0 &&& (2147483647 : Int32)) / (67108863 : Int32)) * (67108863 : Int32)) p1))))])) t
          refine XS.icmpYes X5.here hx rfl (pc0 := 102) (pc' := 109) rfl (hb hby at_102) rfl (feq hc102).2 (by decide) (by decide) ?_
          show Steps p.tables e below (T5.setTop (mkF m 109 #[.val (.int p0), .val (.int p1), .val (.int p2), .val (.int p3), .val (.int ((p0 &&& (2147483647 : Int32)) - ((p0 &&& (2147483647 : Int32)) / (67108863 : Int32)) * (67108863 : Int32))), .val (.ref b1), .val (.int (own_f3_0 p1)), .val (.int t54_0), .val (.int (p1 ^^^ p2)), .val (.int v91_9)] [])) t
          exact k
        rw [show own_f0_91 p0 p1 p2 v91_9 t54_0 = (0 : Int32) from (by rw [own_f0_91, if_neg hc102])]
        refine Owe.ret X5 Bd.notSynchronized (v := (some (.int (0 : Int32)))) (fun h => by rw [Bd.returns] at h; cases h) (fun fs hr => ?_) ⟨rfl, N5⟩ (by decide) (by decide)
        show Steps p.tables e below (T5.setTop (mkF m 109 #[.val (.int p0), .val (.int p1), .val (.int p2), .val (.int p3), .val (.int ((p0 &&& (2147483647 : Int32)) - ((p0 &&& (2147483647 : Int32)) / (67108863 : Int32)) * (67108863 : Int32))), .val (.ref b1), .val (.int (own_f3_0 p1)), .val (.int t54_0), .val (.int (p1 ^^^ p2)), .val (.int v91_9)] [])) _
        refine XS.iconst X5.here hx rfl (hb hby at_109) ?_
        show Steps p.tables e below (T5.setTop (mkF m 110 #[.val (.int p0), .val (.int p1), .val (.int p2), .val (.int p3), .val (.int ((p0 &&& (2147483647 : Int32)) - ((p0 &&& (2147483647 : Int32)) / (67108863 : Int32)) * (67108863 : Int32))), .val (.ref b1), .val (.int (own_f3_0 p1)), .val (.int t54_0), .val (.int (p1 ^^^ p2)), .val (.int v91_9)] [(.int (0 : Int32))])) _
        exact retN X5 hx (t := .boolean) Bd.returns (by simp) (hb hby at_110) hr
    by_cases hc65 : t54_0 = (own_f3_0 p1)
    · refine Owe.step (T' := T54j) (g' := (mkF m 74 #[.val (.int p0), .val (.int p1), .val (.int p2), .val (.int p3), .val (.int ((p0 &&& (2147483647 : Int32)) - ((p0 &&& (2147483647 : Int32)) / (67108863 : Int32)) * (67108863 : Int32))), .val (.ref b1), .val (.int (own_f3_0 p1)), .val (.int t54_0), .val (.int (p1 ^^^ p2)), .unset] [])) (fun t k => ?_) ?_
      · show Steps p.tables e below (T54j.setTop (mkF m 65 #[.val (.int p0), .val (.int p1), .val (.int p2), .val (.int p3), .val (.int ((p0 &&& (2147483647 : Int32)) - ((p0 &&& (2147483647 : Int32)) / (67108863 : Int32)) * (67108863 : Int32))), .val (.ref b1), .val (.int (own_f3_0 p1)), .val (.int t54_0), .val (.int (p1 ^^^ p2)), .unset] [(.int (own_f3_0 p1)), (.int t54_0)])) t
        refine XS.icmpYes X54j.here hx rfl (pc0 := 65) (pc' := 74) rfl (hb hby at_65) rfl (teq hc65).1 (by decide) (by decide) ?_
        show Steps p.tables e below (T54j.setTop (mkF m 74 #[.val (.int p0), .val (.int p1), .val (.int p2), .val (.int p3), .val (.int ((p0 &&& (2147483647 : Int32)) - ((p0 &&& (2147483647 : Int32)) / (67108863 : Int32)) * (67108863 : Int32))), .val (.ref b1), .val (.int (own_f3_0 p1)), .val (.int t54_0), .val (.int (p1 ^^^ p2)), .unset] [])) t
        exact k
      refine Owe.step (T' := T54j) (g' := (mkF m 78 #[.val (.int p0), .val (.int p1), .val (.int p2), .val (.int p3), .val (.int ((p0 &&& (2147483647 : Int32)) - ((p0 &&& (2147483647 : Int32)) / (67108863 : Int32)) * (67108863 : Int32))), .val (.ref b1), .val (.int (own_f3_0 p1)), .val (.int t54_0), .val (.int (p1 ^^^ p2)), .unset] [(.int (p2 &&& (63 : Int32)))])) (fun t k => ?_) ?_
      · show Steps p.tables e below (T54j.setTop (mkF m 74 #[.val (.int p0), .val (.int p1), .val (.int p2), .val (.int p3), .val (.int ((p0 &&& (2147483647 : Int32)) - ((p0 &&& (2147483647 : Int32)) / (67108863 : Int32)) * (67108863 : Int32))), .val (.ref b1), .val (.int (own_f3_0 p1)), .val (.int t54_0), .val (.int (p1 ^^^ p2)), .unset] [])) t
        refine XS.iloadN X54j.here hx rfl (hb hby at_74) rfl ?_
        show Steps p.tables e below (T54j.setTop (mkF m 75 #[.val (.int p0), .val (.int p1), .val (.int p2), .val (.int p3), .val (.int ((p0 &&& (2147483647 : Int32)) - ((p0 &&& (2147483647 : Int32)) / (67108863 : Int32)) * (67108863 : Int32))), .val (.ref b1), .val (.int (own_f3_0 p1)), .val (.int t54_0), .val (.int (p1 ^^^ p2)), .unset] [(.int p2)])) t
        refine XS.bipush X54j.here hx rfl (hb hby at_75) ?_
        show Steps p.tables e below (T54j.setTop (mkF m 77 #[.val (.int p0), .val (.int p1), .val (.int p2), .val (.int p3), .val (.int ((p0 &&& (2147483647 : Int32)) - ((p0 &&& (2147483647 : Int32)) / (67108863 : Int32)) * (67108863 : Int32))), .val (.ref b1), .val (.int (own_f3_0 p1)), .val (.int t54_0), .val (.int (p1 ^^^ p2)), .unset] [(.int (63 : Int32)), (.int p2)])) t
        refine XS.iand X54j.here hx rfl (hb hby at_77) rfl ?_
        show Steps p.tables e below (T54j.setTop (mkF m 78 #[.val (.int p0), .val (.int p1), .val (.int p2), .val (.int p3), .val (.int ((p0 &&& (2147483647 : Int32)) - ((p0 &&& (2147483647 : Int32)) / (67108863 : Int32)) * (67108863 : Int32))), .val (.ref b1), .val (.int (own_f3_0 p1)), .val (.int t54_0), .val (.int (p1 ^^^ p2)), .unset] [(.int (p2 &&& (63 : Int32)))])) t
        exact k
      by_cases hc78 : (p2 &&& (63 : Int32)) = (0 : Int32)
      · refine Owe.step (T' := T54j) (g' := (mkF m 81 #[.val (.int p0), .val (.int p1), .val (.int p2), .val (.int p3), .val (.int ((p0 &&& (2147483647 : Int32)) - ((p0 &&& (2147483647 : Int32)) / (67108863 : Int32)) * (67108863 : Int32))), .val (.ref b1), .val (.int (own_f3_0 p1)), .val (.int t54_0), .val (.int (p1 ^^^ p2)), .unset] [])) (fun t k => ?_) ?_
        · show Steps p.tables e below (T54j.setTop (mkF m 78 #[.val (.int p0), .val (.int p1), .val (.int p2), .val (.int p3), .val (.int ((p0 &&& (2147483647 : Int32)) - ((p0 &&& (2147483647 : Int32)) / (67108863 : Int32)) * (67108863 : Int32))), .val (.ref b1), .val (.int (own_f3_0 p1)), .val (.int t54_0), .val (.int (p1 ^^^ p2)), .unset] [(.int (p2 &&& (63 : Int32)))])) t
          refine XS.ifNo X54j.here hx rfl (hb hby at_78) rfl ((if0 _ _).trans (teq hc78).2) ?_
          show Steps p.tables e below (T54j.setTop (mkF m 81 #[.val (.int p0), .val (.int p1), .val (.int p2), .val (.int p3), .val (.int ((p0 &&& (2147483647 : Int32)) - ((p0 &&& (2147483647 : Int32)) / (67108863 : Int32)) * (67108863 : Int32))), .val (.ref b1), .val (.int (own_f3_0 p1)), .val (.int t54_0), .val (.int (p1 ^^^ p2)), .unset] [])) t
          exact k
        refine Owe.step (T' := T54j) (g' := (mkF m 91 #[.val (.int p0), .val (.int p1), .val (.int p2), .val (.int p3), .val (.int ((p0 &&& (2147483647 : Int32)) - ((p0 &&& (2147483647 : Int32)) / (67108863 : Int32)) * (67108863 : Int32))), .val (.ref b1), .val (.int (own_f3_0 p1)), .val (.int t54_0), .val (.int (p1 ^^^ p2)), .val (.int ((p0 &&& (2147483647 : Int32)) - ((p0 &&& (2147483647 : Int32)) / (67108863 : Int32)) * (67108863 : Int32)))] [])) (fun t k => ?_) ?_
        · show Steps p.tables e below (T54j.setTop (mkF m 81 #[.val (.int p0), .val (.int p1), .val (.int p2), .val (.int p3), .val (.int ((p0 &&& (2147483647 : Int32)) - ((p0 &&& (2147483647 : Int32)) / (67108863 : Int32)) * (67108863 : Int32))), .val (.ref b1), .val (.int (own_f3_0 p1)), .val (.int t54_0), .val (.int (p1 ^^^ p2)), .unset] [])) t
          refine XS.iload X54j.here hx rfl (hb hby at_81) rfl ?_
          show Steps p.tables e below (T54j.setTop (mkF m 83 #[.val (.int p0), .val (.int p1), .val (.int p2), .val (.int p3), .val (.int ((p0 &&& (2147483647 : Int32)) - ((p0 &&& (2147483647 : Int32)) / (67108863 : Int32)) * (67108863 : Int32))), .val (.ref b1), .val (.int (own_f3_0 p1)), .val (.int t54_0), .val (.int (p1 ^^^ p2)), .unset] [(.int ((p0 &&& (2147483647 : Int32)) - ((p0 &&& (2147483647 : Int32)) / (67108863 : Int32)) * (67108863 : Int32)))])) t
          refine XS.istore X54j.here hx rfl (hb hby at_83) rfl (l' := #[.val (.int p0), .val (.int p1), .val (.int p2), .val (.int p3), .val (.int ((p0 &&& (2147483647 : Int32)) - ((p0 &&& (2147483647 : Int32)) / (67108863 : Int32)) * (67108863 : Int32))), .val (.ref b1), .val (.int (own_f3_0 p1)), .val (.int t54_0), .val (.int (p1 ^^^ p2)), .val (.int ((p0 &&& (2147483647 : Int32)) - ((p0 &&& (2147483647 : Int32)) / (67108863 : Int32)) * (67108863 : Int32)))]) rfl ?_
          show Steps p.tables e below (T54j.setTop (mkF m 85 #[.val (.int p0), .val (.int p1), .val (.int p2), .val (.int p3), .val (.int ((p0 &&& (2147483647 : Int32)) - ((p0 &&& (2147483647 : Int32)) / (67108863 : Int32)) * (67108863 : Int32))), .val (.ref b1), .val (.int (own_f3_0 p1)), .val (.int t54_0), .val (.int (p1 ^^^ p2)), .val (.int ((p0 &&& (2147483647 : Int32)) - ((p0 &&& (2147483647 : Int32)) / (67108863 : Int32)) * (67108863 : Int32)))] [])) t
          refine XS.goto X54j.here hx rfl (pc0 := 85) (pc' := 91) rfl (hb hby at_85) (by decide) (by decide) ?_
          show Steps p.tables e below (T54j.setTop (mkF m 91 #[.val (.int p0), .val (.int p1), .val (.int p2), .val (.int p3), .val (.int ((p0 &&& (2147483647 : Int32)) - ((p0 &&& (2147483647 : Int32)) / (67108863 : Int32)) * (67108863 : Int32))), .val (.ref b1), .val (.int (own_f3_0 p1)), .val (.int t54_0), .val (.int (p1 ^^^ p2)), .val (.int ((p0 &&& (2147483647 : Int32)) - ((p0 &&& (2147483647 : Int32)) / (67108863 : Int32)) * (67108863 : Int32)))] [])) t
          exact k
        rw [show own_f0_54 p0 p1 p2 t54_0 = (own_f0_91 p0 p1 p2 ((p0 &&& (2147483647 : Int32)) - ((p0 &&& (2147483647 : Int32)) / (67108863 : Int32)) * (67108863 : Int32)) t54_0) from (by rw [own_f0_54, if_pos hc65, if_pos hc78])]
        exact j91 T54j _ X54j e54j N54j ((p0 &&& (2147483647 : Int32)) - ((p0 &&& (2147483647 : Int32)) / (67108863 : Int32)) * (67108863 : Int32))
      · refine Owe.step (T' := T54j) (g' := (mkF m 88 #[.val (.int p0), .val (.int p1), .val (.int p2), .val (.int p3), .val (.int ((p0 &&& (2147483647 : Int32)) - ((p0 &&& (2147483647 : Int32)) / (67108863 : Int32)) * (67108863 : Int32))), .val (.ref b1), .val (.int (own_f3_0 p1)), .val (.int t54_0), .val (.int (p1 ^^^ p2)), .unset] [])) (fun t k => ?_) ?_
        · show Steps p.tables e below (T54j.setTop (mkF m 78 #[.val (.int p0), .val (.int p1), .val (.int p2), .val (.int p3), .val (.int ((p0 &&& (2147483647 : Int32)) - ((p0 &&& (2147483647 : Int32)) / (67108863 : Int32)) * (67108863 : Int32))), .val (.ref b1), .val (.int (own_f3_0 p1)), .val (.int t54_0), .val (.int (p1 ^^^ p2)), .unset] [(.int (p2 &&& (63 : Int32)))])) t
          refine XS.ifYes X54j.here hx rfl (pc0 := 78) (pc' := 88) rfl (hb hby at_78) rfl ((if0 _ _).trans (feq hc78).2) (by decide) (by decide) ?_
          show Steps p.tables e below (T54j.setTop (mkF m 88 #[.val (.int p0), .val (.int p1), .val (.int p2), .val (.int p3), .val (.int ((p0 &&& (2147483647 : Int32)) - ((p0 &&& (2147483647 : Int32)) / (67108863 : Int32)) * (67108863 : Int32))), .val (.ref b1), .val (.int (own_f3_0 p1)), .val (.int t54_0), .val (.int (p1 ^^^ p2)), .unset] [])) t
          exact k
        refine Owe.step (T' := T54j) (g' := (mkF m 91 #[.val (.int p0), .val (.int p1), .val (.int p2), .val (.int p3), .val (.int ((p0 &&& (2147483647 : Int32)) - ((p0 &&& (2147483647 : Int32)) / (67108863 : Int32)) * (67108863 : Int32))), .val (.ref b1), .val (.int (own_f3_0 p1)), .val (.int t54_0), .val (.int (p1 ^^^ p2)), .val (.int (-1 : Int32))] [])) (fun t k => ?_) ?_
        · show Steps p.tables e below (T54j.setTop (mkF m 88 #[.val (.int p0), .val (.int p1), .val (.int p2), .val (.int p3), .val (.int ((p0 &&& (2147483647 : Int32)) - ((p0 &&& (2147483647 : Int32)) / (67108863 : Int32)) * (67108863 : Int32))), .val (.ref b1), .val (.int (own_f3_0 p1)), .val (.int t54_0), .val (.int (p1 ^^^ p2)), .unset] [])) t
          refine XS.iconst X54j.here hx rfl (hb hby at_88) ?_
          show Steps p.tables e below (T54j.setTop (mkF m 89 #[.val (.int p0), .val (.int p1), .val (.int p2), .val (.int p3), .val (.int ((p0 &&& (2147483647 : Int32)) - ((p0 &&& (2147483647 : Int32)) / (67108863 : Int32)) * (67108863 : Int32))), .val (.ref b1), .val (.int (own_f3_0 p1)), .val (.int t54_0), .val (.int (p1 ^^^ p2)), .unset] [(.int (-1 : Int32))])) t
          refine XS.istore X54j.here hx rfl (hb hby at_89) rfl (l' := #[.val (.int p0), .val (.int p1), .val (.int p2), .val (.int p3), .val (.int ((p0 &&& (2147483647 : Int32)) - ((p0 &&& (2147483647 : Int32)) / (67108863 : Int32)) * (67108863 : Int32))), .val (.ref b1), .val (.int (own_f3_0 p1)), .val (.int t54_0), .val (.int (p1 ^^^ p2)), .val (.int (-1 : Int32))]) rfl ?_
          show Steps p.tables e below (T54j.setTop (mkF m 91 #[.val (.int p0), .val (.int p1), .val (.int p2), .val (.int p3), .val (.int ((p0 &&& (2147483647 : Int32)) - ((p0 &&& (2147483647 : Int32)) / (67108863 : Int32)) * (67108863 : Int32))), .val (.ref b1), .val (.int (own_f3_0 p1)), .val (.int t54_0), .val (.int (p1 ^^^ p2)), .val (.int (-1 : Int32))] [])) t
          exact k
        rw [show own_f0_54 p0 p1 p2 t54_0 = (own_f0_91 p0 p1 p2 (-1 : Int32) t54_0) from (by rw [own_f0_54, if_pos hc65, if_neg hc78])]
        exact j91 T54j _ X54j e54j N54j (-1 : Int32)
    · refine Owe.step (T' := T54j) (g' := (mkF m 68 #[.val (.int p0), .val (.int p1), .val (.int p2), .val (.int p3), .val (.int ((p0 &&& (2147483647 : Int32)) - ((p0 &&& (2147483647 : Int32)) / (67108863 : Int32)) * (67108863 : Int32))), .val (.ref b1), .val (.int (own_f3_0 p1)), .val (.int t54_0), .val (.int (p1 ^^^ p2)), .unset] [])) (fun t k => ?_) ?_
      · show Steps p.tables e below (T54j.setTop (mkF m 65 #[.val (.int p0), .val (.int p1), .val (.int p2), .val (.int p3), .val (.int ((p0 &&& (2147483647 : Int32)) - ((p0 &&& (2147483647 : Int32)) / (67108863 : Int32)) * (67108863 : Int32))), .val (.ref b1), .val (.int (own_f3_0 p1)), .val (.int t54_0), .val (.int (p1 ^^^ p2)), .unset] [(.int (own_f3_0 p1)), (.int t54_0)])) t
        refine XS.icmpNo X54j.here hx rfl (hb hby at_65) rfl (feq hc65).1 ?_
        show Steps p.tables e below (T54j.setTop (mkF m 68 #[.val (.int p0), .val (.int p1), .val (.int p2), .val (.int p3), .val (.int ((p0 &&& (2147483647 : Int32)) - ((p0 &&& (2147483647 : Int32)) / (67108863 : Int32)) * (67108863 : Int32))), .val (.ref b1), .val (.int (own_f3_0 p1)), .val (.int t54_0), .val (.int (p1 ^^^ p2)), .unset] [])) t
        exact k
      refine Owe.step (T' := T54j) (g' := (mkF m 91 #[.val (.int p0), .val (.int p1), .val (.int p2), .val (.int p3), .val (.int ((p0 &&& (2147483647 : Int32)) - ((p0 &&& (2147483647 : Int32)) / (67108863 : Int32)) * (67108863 : Int32))), .val (.ref b1), .val (.int (own_f3_0 p1)), .val (.int t54_0), .val (.int (p1 ^^^ p2)), .val (.int (-1 : Int32))] [])) (fun t k => ?_) ?_
      · show Steps p.tables e below (T54j.setTop (mkF m 68 #[.val (.int p0), .val (.int p1), .val (.int p2), .val (.int p3), .val (.int ((p0 &&& (2147483647 : Int32)) - ((p0 &&& (2147483647 : Int32)) / (67108863 : Int32)) * (67108863 : Int32))), .val (.ref b1), .val (.int (own_f3_0 p1)), .val (.int t54_0), .val (.int (p1 ^^^ p2)), .unset] [])) t
        refine XS.iconst X54j.here hx rfl (hb hby at_68) ?_
        show Steps p.tables e below (T54j.setTop (mkF m 69 #[.val (.int p0), .val (.int p1), .val (.int p2), .val (.int p3), .val (.int ((p0 &&& (2147483647 : Int32)) - ((p0 &&& (2147483647 : Int32)) / (67108863 : Int32)) * (67108863 : Int32))), .val (.ref b1), .val (.int (own_f3_0 p1)), .val (.int t54_0), .val (.int (p1 ^^^ p2)), .unset] [(.int (-1 : Int32))])) t
        refine XS.istore X54j.here hx rfl (hb hby at_69) rfl (l' := #[.val (.int p0), .val (.int p1), .val (.int p2), .val (.int p3), .val (.int ((p0 &&& (2147483647 : Int32)) - ((p0 &&& (2147483647 : Int32)) / (67108863 : Int32)) * (67108863 : Int32))), .val (.ref b1), .val (.int (own_f3_0 p1)), .val (.int t54_0), .val (.int (p1 ^^^ p2)), .val (.int (-1 : Int32))]) rfl ?_
        show Steps p.tables e below (T54j.setTop (mkF m 71 #[.val (.int p0), .val (.int p1), .val (.int p2), .val (.int p3), .val (.int ((p0 &&& (2147483647 : Int32)) - ((p0 &&& (2147483647 : Int32)) / (67108863 : Int32)) * (67108863 : Int32))), .val (.ref b1), .val (.int (own_f3_0 p1)), .val (.int t54_0), .val (.int (p1 ^^^ p2)), .val (.int (-1 : Int32))] [])) t
        refine XS.goto X54j.here hx rfl (pc0 := 71) (pc' := 91) rfl (hb hby at_71) (by decide) (by decide) ?_
        show Steps p.tables e below (T54j.setTop (mkF m 91 #[.val (.int p0), .val (.int p1), .val (.int p2), .val (.int p3), .val (.int ((p0 &&& (2147483647 : Int32)) - ((p0 &&& (2147483647 : Int32)) / (67108863 : Int32)) * (67108863 : Int32))), .val (.ref b1), .val (.int (own_f3_0 p1)), .val (.int t54_0), .val (.int (p1 ^^^ p2)), .val (.int (-1 : Int32))] [])) t
        exact k
      rw [show own_f0_54 p0 p1 p2 t54_0 = (own_f0_91 p0 p1 p2 (-1 : Int32) t54_0) from (by rw [own_f0_54, if_neg hc65])]
      exact j91 T54j _ X54j e54j N54j (-1 : Int32)
  by_cases hc40 : (p3 &&& (1 : Int32)) = (0 : Int32)
  · refine Owe.step (T' := T4) (g' := (mkF m 48 #[.val (.int p0), .val (.int p1), .val (.int p2), .val (.int p3), .val (.int ((p0 &&& (2147483647 : Int32)) - ((p0 &&& (2147483647 : Int32)) / (67108863 : Int32)) * (67108863 : Int32))), .val (.ref b1), .val (.int (own_f3_0 p1)), .unset, .unset, .unset] [])) (fun t k => ?_) ?_
    · show Steps p.tables e below (T4.setTop (mkF m 40 #[.val (.int p0), .val (.int p1), .val (.int p2), .val (.int p3), .val (.int ((p0 &&& (2147483647 : Int32)) - ((p0 &&& (2147483647 : Int32)) / (67108863 : Int32)) * (67108863 : Int32))), .val (.ref b1), .val (.int (own_f3_0 p1)), .unset, .unset, .unset] [(.int (p3 &&& (1 : Int32)))])) t
      refine XS.ifYes X4.here hx rfl (pc0 := 40) (pc' := 48) rfl (hb hby at_40) rfl ((if0 _ _).trans (teq hc40).1) (by decide) (by decide) ?_
      show Steps p.tables e below (T4.setTop (mkF m 48 #[.val (.int p0), .val (.int p1), .val (.int p2), .val (.int p3), .val (.int ((p0 &&& (2147483647 : Int32)) - ((p0 &&& (2147483647 : Int32)) / (67108863 : Int32)) * (67108863 : Int32))), .val (.ref b1), .val (.int (own_f3_0 p1)), .unset, .unset, .unset] [])) t
      exact k
    refine Owe.step (T' := T4) (g' := (mkF m 54 #[.val (.int p0), .val (.int p1), .val (.int p2), .val (.int p3), .val (.int ((p0 &&& (2147483647 : Int32)) - ((p0 &&& (2147483647 : Int32)) / (67108863 : Int32)) * (67108863 : Int32))), .val (.ref b1), .val (.int (own_f3_0 p1)), .unset, .unset, .unset] [(.int (((p3.toUInt32 >>> ((1 : Int32) &&& 31).toUInt32).toInt32) &&& (15 : Int32)))])) (fun t k => ?_) ?_
    · show Steps p.tables e below (T4.setTop (mkF m 48 #[.val (.int p0), .val (.int p1), .val (.int p2), .val (.int p3), .val (.int ((p0 &&& (2147483647 : Int32)) - ((p0 &&& (2147483647 : Int32)) / (67108863 : Int32)) * (67108863 : Int32))), .val (.ref b1), .val (.int (own_f3_0 p1)), .unset, .unset, .unset] [])) t
      refine XS.iloadN X4.here hx rfl (hb hby at_48) rfl ?_
      show Steps p.tables e below (T4.setTop (mkF m 49 #[.val (.int p0), .val (.int p1), .val (.int p2), .val (.int p3), .val (.int ((p0 &&& (2147483647 : Int32)) - ((p0 &&& (2147483647 : Int32)) / (67108863 : Int32)) * (67108863 : Int32))), .val (.ref b1), .val (.int (own_f3_0 p1)), .unset, .unset, .unset] [(.int p3)])) t
      refine XS.iconst X4.here hx rfl (hb hby at_49) ?_
      show Steps p.tables e below (T4.setTop (mkF m 50 #[.val (.int p0), .val (.int p1), .val (.int p2), .val (.int p3), .val (.int ((p0 &&& (2147483647 : Int32)) - ((p0 &&& (2147483647 : Int32)) / (67108863 : Int32)) * (67108863 : Int32))), .val (.ref b1), .val (.int (own_f3_0 p1)), .unset, .unset, .unset] [(.int (1 : Int32)), (.int p3)])) t
      refine XS.iushr X4.here hx rfl (hb hby at_50) rfl ?_
      show Steps p.tables e below (T4.setTop (mkF m 51 #[.val (.int p0), .val (.int p1), .val (.int p2), .val (.int p3), .val (.int ((p0 &&& (2147483647 : Int32)) - ((p0 &&& (2147483647 : Int32)) / (67108863 : Int32)) * (67108863 : Int32))), .val (.ref b1), .val (.int (own_f3_0 p1)), .unset, .unset, .unset] [(.int ((p3.toUInt32 >>> ((1 : Int32) &&& 31).toUInt32).toInt32))])) t
      refine XS.bipush X4.here hx rfl (hb hby at_51) ?_
      show Steps p.tables e below (T4.setTop (mkF m 53 #[.val (.int p0), .val (.int p1), .val (.int p2), .val (.int p3), .val (.int ((p0 &&& (2147483647 : Int32)) - ((p0 &&& (2147483647 : Int32)) / (67108863 : Int32)) * (67108863 : Int32))), .val (.ref b1), .val (.int (own_f3_0 p1)), .unset, .unset, .unset] [(.int (15 : Int32)), (.int ((p3.toUInt32 >>> ((1 : Int32) &&& 31).toUInt32).toInt32))])) t
      refine XS.iand X4.here hx rfl (hb hby at_53) rfl ?_
      show Steps p.tables e below (T4.setTop (mkF m 54 #[.val (.int p0), .val (.int p1), .val (.int p2), .val (.int p3), .val (.int ((p0 &&& (2147483647 : Int32)) - ((p0 &&& (2147483647 : Int32)) / (67108863 : Int32)) * (67108863 : Int32))), .val (.ref b1), .val (.int (own_f3_0 p1)), .unset, .unset, .unset] [(.int (((p3.toUInt32 >>> ((1 : Int32) &&& 31).toUInt32).toInt32) &&& (15 : Int32)))])) t
      exact k
    refine Owe.cast (show (own_f0_54 p0 p1 p2 (((p3.toUInt32 >>> ((1 : Int32) &&& 31).toUInt32).toInt32) &&& (15 : Int32))) = (1 : Int32) from (show own_f0_0 p0 p1 p2 p3 = (own_f0_54 p0 p1 p2 (((p3.toUInt32 >>> ((1 : Int32) &&& 31).toUInt32).toInt32) &&& (15 : Int32))) from (by rw [own_f0_0, if_pos hc40])).symm.trans (own_law p0 p1 p2 p3 )) ?_
    exact j54 T4 _ X4 eh4 N4 (((p3.toUInt32 >>> ((1 : Int32) &&& 31).toUInt32).toInt32) &&& (15 : Int32)) (by first | with_reducible exact own_s16 _ | with_reducible exact own_m16 _)
  · refine Owe.step (T' := T4) (g' := (mkF m 43 #[.val (.int p0), .val (.int p1), .val (.int p2), .val (.int p3), .val (.int ((p0 &&& (2147483647 : Int32)) - ((p0 &&& (2147483647 : Int32)) / (67108863 : Int32)) * (67108863 : Int32))), .val (.ref b1), .val (.int (own_f3_0 p1)), .unset, .unset, .unset] [])) (fun t k => ?_) ?_
    · show Steps p.tables e below (T4.setTop (mkF m 40 #[.val (.int p0), .val (.int p1), .val (.int p2), .val (.int p3), .val (.int ((p0 &&& (2147483647 : Int32)) - ((p0 &&& (2147483647 : Int32)) / (67108863 : Int32)) * (67108863 : Int32))), .val (.ref b1), .val (.int (own_f3_0 p1)), .unset, .unset, .unset] [(.int (p3 &&& (1 : Int32)))])) t
      refine XS.ifNo X4.here hx rfl (hb hby at_40) rfl ((if0 _ _).trans (feq hc40).1) ?_
      show Steps p.tables e below (T4.setTop (mkF m 43 #[.val (.int p0), .val (.int p1), .val (.int p2), .val (.int p3), .val (.int ((p0 &&& (2147483647 : Int32)) - ((p0 &&& (2147483647 : Int32)) / (67108863 : Int32)) * (67108863 : Int32))), .val (.ref b1), .val (.int (own_f3_0 p1)), .unset, .unset, .unset] [])) t
      exact k
    refine Owe.step (T' := T4) (g' := (mkF m 54 #[.val (.int p0), .val (.int p1), .val (.int p2), .val (.int p3), .val (.int ((p0 &&& (2147483647 : Int32)) - ((p0 &&& (2147483647 : Int32)) / (67108863 : Int32)) * (67108863 : Int32))), .val (.ref b1), .val (.int (own_f3_0 p1)), .unset, .unset, .unset] [(.int (own_f3_0 p1))])) (fun t k => ?_) ?_
    · show Steps p.tables e below (T4.setTop (mkF m 43 #[.val (.int p0), .val (.int p1), .val (.int p2), .val (.int p3), .val (.int ((p0 &&& (2147483647 : Int32)) - ((p0 &&& (2147483647 : Int32)) / (67108863 : Int32)) * (67108863 : Int32))), .val (.ref b1), .val (.int (own_f3_0 p1)), .unset, .unset, .unset] [])) t
      refine XS.iload X4.here hx rfl (hb hby at_43) rfl ?_
      show Steps p.tables e below (T4.setTop (mkF m 45 #[.val (.int p0), .val (.int p1), .val (.int p2), .val (.int p3), .val (.int ((p0 &&& (2147483647 : Int32)) - ((p0 &&& (2147483647 : Int32)) / (67108863 : Int32)) * (67108863 : Int32))), .val (.ref b1), .val (.int (own_f3_0 p1)), .unset, .unset, .unset] [(.int (own_f3_0 p1))])) t
      refine XS.goto X4.here hx rfl (pc0 := 45) (pc' := 54) rfl (hb hby at_45) (by decide) (by decide) ?_
      show Steps p.tables e below (T4.setTop (mkF m 54 #[.val (.int p0), .val (.int p1), .val (.int p2), .val (.int p3), .val (.int ((p0 &&& (2147483647 : Int32)) - ((p0 &&& (2147483647 : Int32)) / (67108863 : Int32)) * (67108863 : Int32))), .val (.ref b1), .val (.int (own_f3_0 p1)), .unset, .unset, .unset] [(.int (own_f3_0 p1))])) t
      exact k
    refine Owe.cast (show (own_f0_54 p0 p1 p2 (own_f3_0 p1)) = (1 : Int32) from (show own_f0_0 p0 p1 p2 p3 = (own_f0_54 p0 p1 p2 (own_f3_0 p1)) from (by rw [own_f0_0, if_neg hc40])).symm.trans (own_law p0 p1 p2 p3 )) ?_
    exact j54 T4 _ X4 eh4 N4 (own_f3_0 p1) (by first | with_reducible exact own_s16 _ | with_reducible exact own_m16 _)
set_option maxRecDepth 65536 in
set_option maxHeartbeats 40000000 in
theorem comes_1 {Post : Tables → Env → Array Value → State → Outcome → State → Prop} (hpost : ∀ tb e args s v u, (limb_1_1.after args s (.returned v) u = true ∧ limb_1_2.after args s (.returned v) u = true ∧ True) → FrameEnd s (.returned v) u (Jvm.fieldLocs frame_1_writes args s ++ Jvm.arrayLocs frame_1_arrays args s ++ Jvm.staticLocs frame_1_statics s) 16 128 → Post tb e args s (.returned v) u) :
    ArmFor flags0 classFile x code maxLocals ret World_1 tables_1 room_1 Calls_1 rest_1 Pre_1 Post := by
  intro l hfl _ _ p e ha hc hk s m args below hf hA hF happ hP
  obtain ⟨hcalls, hrest, hpre⟩ := hP
  obtain ⟨-, -, -, hnamed, -, -, -, hat⟩ := (Spec.applies_iff hf).mp happ
  obtain ⟨hg, hn⟩ := and_e (Cond.before_iff.mp (show (Jvm.Cond.and given_1 narrow_1).before args s = true from hpre))
  obtain ⟨ga1, gb1⟩ := and_e hg
  obtain ⟨ga2, gb2⟩ := and_e gb1
  obtain ⟨ga3, gb3⟩ := and_e gb2
  obtain ⟨ga4, gb4⟩ := and_e gb3
  obtain ⟨w0, w1, w2, w3, rfl⟩ : ∃ w0 w1 w2 w3 : Value, args = #[w0, w1, w2, w3] := by
    have hs : args.size = 4 := by simpa [Cond.value, given_1] using ga1
    obtain ⟨L⟩ := args
    match L, hs with
    | [w0, w1, w2, w3], _ => exact ⟨w0, w1, w2, w3, rfl⟩
  have hw := fun d (hd : d ∈ tables_1) => atoms_spec (ws := Jvm.Cond.code x code maxLocals ret :: tables_1) hat d (List.mem_cons_of_mem _ hd)
  obtain ⟨i0, ei0⟩ := is_v ga2
  obtain rfl : w0 = (.int i0) := Option.some.inj ei0
  obtain ⟨i1, ei1⟩ := is_v ga3
  obtain rfl : w1 = (.int i1) := Option.some.inj ei1
  obtain ⟨i2, ei2⟩ := is_v ga4
  obtain rfl : w2 = (.int i2) := Option.some.inj ei2
  obtain ⟨i3, ei3⟩ := is_v gb4
  obtain rfl : w3 = (.int i3) := Option.some.inj ei3
  obtain ⟨n, o, h1, h2, h3, _, L, rfl, ⟨rfl, N⟩, hq⟩ := own_rm0 l s _ hw tables_1 i0 i1 i2 i3 s.heap s.heap.size (Nat.le_refl _) p e ha hc hk s m _ below hf ((Spec.applies_iff_loose hf).mp happ).1 ⟨rfl, State.Warmed39.refl s, rfl⟩ trivial
  refine ⟨n, _, h1, h2, h3, hpost _ _ _ _ _ _ ⟨Cond.after_iff.mpr rfl, Cond.after_iff.mpr (eq_i res_at (Term.int_eval (1)) rfl), trivial⟩ ⟨hq.1, hq.2.1, (hq.2.2.sift fun y hy => Or.inr (N y hy)).mono (by decide) (by decide)⟩⟩
theorem main_1_1 : Claimed_1_1 := comes_1 fun _ _ _ _ _ _ h hF => ⟨h.1, hF⟩
theorem main_1_2 : Claimed_1_2 := comes_1 fun _ _ _ _ _ _ h hF => ⟨h.2.1, hF⟩
end Jvm.Pilot.@@N@@
namespace Jvm.Pilot.@@N@@
open Jvm Jvm.ClassFile Sem Op Lib Jvm.Free Jvm.Stand Jvm.Pilot.@@N@@.Jvm.D
/-! MADE BY PROGRAM (witnessworld.py) out of the Statement's table words and the real class files: 14 classes; the members and pool entries that the words name. The judged class is class 1, her method 1. -/
namespace start1
open Jvm.ClassFile
def u (s : String) : CpInfo := .utf8 (stringToUtf16 s)
/-- a pool by its gaps: so many unusable entries, then the entry; so many at the end -/
def gap : Nat → List CpInfo → List CpInfo
  | 0, r => r
  | n + 1, r => .unusable :: gap n r
def poolList (es : List (Nat × CpInfo)) (last : Nat) : List CpInfo := es.foldr (fun e r => gap e.1 (e.2 :: r)) (gap last [])
def pool (es : List (Nat × CpInfo)) (last : Nat) : Array CpInfo := ⟨poolList es last⟩
def fileOf (pool : Array CpInfo) (this : Nat) (attrs : Array Attribute := #[]) (ms : Array MethodInfo := #[]) (fl : Nat := 33) (sup : Nat := 0) (ifs : Array Nat := #[]) (fds : Array FieldInfo := #[]) : ClassFile where
  minorVersion := 0
  majorVersion := 65
  constantPool := pool
  accessFlags := fl
  thisClass := this
  superClass := sup
  interfaces := ifs
  fields := fds
  methods := ms
  attributes := attrs
def plain (name : String) (sup : Option ClassId) : Class where
  name := name
  kind := .ordinary
  loader := none
  accessFlags := 33
  super := sup
  interfaces := #[]
  cf := none
  fields := #[]
  methods := #[]
  instanceTypes := #[]
  staticTypes := #[]
  resolved := #[]
  callSites := []
  init := .initialized
  statics := none
  mirror := none

def pool0 : Array CpInfo := pool [(5, u "<init>"), (0, u "()V"), (1, .class_ 10), (1, u "java/lang/Object")] 113

def k0c0 : Code := { maxStack := 0, maxLocals := 1, code := object_method_1_code, exceptionTable := #[], attributes := #[] }
def k0m0 : Method := { name := "<init>", desc := "()V", sig := { parameters := [], returnType := none }, accessFlags := 1, code := some k0c0 }
/-- java/lang/Object -/
def k0 : Class := { plain "java/lang/Object" none with
  accessFlags := 33
  interfaces := #[]
  cf := some (fileOf pool0 8 #[] #[{ accessFlags := 1, nameIndex := 5, descriptorIndex := 6, attributes := #[] }] 33 0 #[] #[])
  fields := #[]
  methods := #[k0m0]
  instanceTypes := #[]
  staticTypes := #[]
  resolved := Array.replicate 124 none
  statics := none }

def pool1 : Array CpInfo := pool [(2, .class_ 4), (0, .nameAndType 5 6), (0, u "java/lang/Object"), (0, u "<init>"), (0, u "()V"), (0, .integer 2147483647), (0, .class_ 9), (0, u "com/example/feuillet/feuillet/store/OpenTable"), (0, .integer 67108863), (0, .methodref 8 3), (0, .methodref 8 13), (0, .nameAndType 14 15), (0, u "start"), (0, u "(I)I"), (0, .methodref 8 17), (0, .nameAndType 18 19), (0, u "put"), (0, u "(IIILjava/util/function/IntUnaryOperator;)V"), (0, .methodref 8 21), (0, .nameAndType 22 23), (0, u "entry"), (0, u "(II)I"), (0, .class_ 25), (0, u "com/example/feuillet/feuillet/store/OpenTableEntryPinLaw"), (2, u "law"), (0, u "(IIII)Z")] 3

def k1m0 : Method := { name := "<init>", desc := "()V", sig := { parameters := [], returnType := none }, accessFlags := 1, code := none }
def k1c1 : Code := { maxStack := 5, maxLocals := 10, code := code, exceptionTable := #[], attributes := #[] }
def k1m1 : Method := { name := "law", desc := "(IIII)Z", sig := { parameters := [.int, .int, .int, .int], returnType := some .boolean }, accessFlags := 9, code := some k1c1 }
/-- com/example/feuillet/feuillet/store/OpenTableEntryPinLaw -/
def k1 : Class := { plain "com/example/feuillet/feuillet/store/OpenTableEntryPinLaw" (some 0) with
  accessFlags := 49
  interfaces := #[]
  cf := some (fileOf pool1 24 #[] #[{ accessFlags := 1, nameIndex := 5, descriptorIndex := 6, attributes := #[] }, { accessFlags := 9, nameIndex := 28, descriptorIndex := 29, attributes := #[] }] 49 2 #[] #[])
  fields := #[]
  methods := #[k1m0, k1m1]
  instanceTypes := #[]
  staticTypes := #[]
  resolved := Array.replicate 33 none
  statics := none }

def pool2 : Array CpInfo := pool [(1, .class_ 2), (0, u "com/example/feuillet/feuillet/store/OpenTable"), (0, .methodref 4 5), (0, .class_ 6), (0, .nameAndType 7 8), (0, u "java/lang/Object"), (0, u "<init>"), (0, u "()V"), (0, .fieldref 1 10), (0, .nameAndType 11 12), (0, u "slots"), (0, u "[I"), (0, .methodref 14 15), (0, .class_ 16), (0, .nameAndType 17 18), (0, u "java/lang/Integer"), (0, u "toUnsignedLong"), (0, u "(I)J"), (0, .integer 67108863), (0, .integer 4227858432), (0, .integer 67108862), (9, .fieldref 1 32), (0, .nameAndType 33 34), (0, u "size"), (0, u "I"), (0, .methodref 1 36), (0, .nameAndType 37 38), (0, u "holds"), (0, u "(II)Z"), (4, .methodref 1 44), (0, .nameAndType 45 46), (0, u "start"), (0, u "(I)I"), (7, .methodref 1 55), (0, .nameAndType 56 57), (0, u "slot"), (0, u "(II)I"), (12, .long 4), (1, .long 3), (11, u "MAX_ENTRY"), (1, u "FIRST_SLOTS"), (1, u "ENTRY_BITS"), (1, u "ENTRY_MASK"), (3, u "entry"), (0, u "put"), (0, u "(IIILjava/util/function/IntUnaryOperator;)V")] 27

def k2c0 : Code := { maxStack := 2, maxLocals := 1, code := prog_50_method_1_code, exceptionTable := #[], attributes := #[] }
def k2m0 : Method := { name := "<init>", desc := "()V", sig := { parameters := [], returnType := none }, accessFlags := 1, code := some k2c0 }
def k2c1 : Code := { maxStack := 4, maxLocals := 2, code := prog_50_method_2_code, exceptionTable := #[], attributes := #[] }
def k2m1 : Method := { name := "start", desc := "(I)I", sig := { parameters := [.int], returnType := some .int }, accessFlags := 1, code := some k2c1 }
def k2c2 : Code := { maxStack := 3, maxLocals := 4, code := prog_50_method_6_code, exceptionTable := #[], attributes := #[] }
def k2m2 : Method := { name := "entry", desc := "(II)I", sig := { parameters := [.int, .int], returnType := some .int }, accessFlags := 1, code := some k2c2 }
def k2c3 : Code := { maxStack := 4, maxLocals := 6, code := prog_50_method_7_code, exceptionTable := #[], attributes := #[] }
def k2m3 : Method := { name := "put", desc := "(IIILjava/util/function/IntUnaryOperator;)V", sig := { parameters := [.int, .int, .int, (.object "java/util/function/IntUnaryOperator")], returnType := none }, accessFlags := 1, code := some k2c3 }
def k2c4 : Code := { maxStack := 3, maxLocals := 2, code := prog_50_method_11_code, exceptionTable := #[], attributes := #[] }
def k2m4 : Method := { name := "slot", desc := "(II)I", sig := { parameters := [.int, .int], returnType := some .int }, accessFlags := 10, code := some k2c4 }
def k2c5 : Code := { maxStack := 6, maxLocals := 2, code := prog_50_method_12_code, exceptionTable := #[], attributes := #[] }
def k2m5 : Method := { name := "holds", desc := "(II)Z", sig := { parameters := [.int, .int], returnType := some .boolean }, accessFlags := 10, code := some k2c5 }
/-- com/example/feuillet/feuillet/store/OpenTable -/
def k2 : Class := { plain "com/example/feuillet/feuillet/store/OpenTable" (some 0) with
  accessFlags := 49
  interfaces := #[]
  cf := some (fileOf pool2 1 #[] #[{ accessFlags := 1, nameIndex := 7, descriptorIndex := 8, attributes := #[] }, { accessFlags := 1, nameIndex := 45, descriptorIndex := 46, attributes := #[] }, { accessFlags := 1, nameIndex := 94, descriptorIndex := 57, attributes := #[] }, { accessFlags := 1, nameIndex := 95, descriptorIndex := 96, attributes := #[] }, { accessFlags := 10, nameIndex := 56, descriptorIndex := 57, attributes := #[] }, { accessFlags := 10, nameIndex := 37, descriptorIndex := 38, attributes := #[] }] 49 4 #[] #[{ accessFlags := 25, nameIndex := 84, descriptorIndex := 34, attributes := #[] }, { accessFlags := 26, nameIndex := 86, descriptorIndex := 34, attributes := #[] }, { accessFlags := 26, nameIndex := 88, descriptorIndex := 34, attributes := #[] }, { accessFlags := 26, nameIndex := 90, descriptorIndex := 34, attributes := #[] }, { accessFlags := 2, nameIndex := 11, descriptorIndex := 12, attributes := #[] }, { accessFlags := 2, nameIndex := 33, descriptorIndex := 34, attributes := #[] }])
  fields := #[{ name := "MAX_ENTRY", type := .int, accessFlags := 25, slot := 0, constantValue := 0 }, { name := "FIRST_SLOTS", type := .int, accessFlags := 26, slot := 1, constantValue := 0 }, { name := "ENTRY_BITS", type := .int, accessFlags := 26, slot := 2, constantValue := 0 }, { name := "ENTRY_MASK", type := .int, accessFlags := 26, slot := 3, constantValue := 0 }, { name := "slots", type := (.array .int), accessFlags := 2, slot := 0, constantValue := 0 }, { name := "size", type := .int, accessFlags := 2, slot := 1, constantValue := 0 }]
  methods := #[k2m0, k2m1, k2m2, k2m3, k2m4, k2m5]
  instanceTypes := #[(.array .int), .int]
  staticTypes := #[.int, .int, .int, .int]
  resolved := Array.replicate 124 none
  statics := none }

def pool3 : Array CpInfo := pool [(1, .class_ 2), (0, u "java/io/Serializable"), (0, .class_ 4), (0, u "java/lang/Object")] 2

/-- java/io/Serializable -/
def k3 : Class := { plain "java/io/Serializable" (some 0) with
  accessFlags := 1537
  interfaces := #[]
  cf := some (fileOf pool3 1 #[] #[] 1537 3 #[] #[])
  fields := #[]
  methods := #[]
  instanceTypes := #[]
  staticTypes := #[]
  resolved := Array.replicate 7 none
  statics := none }

def pool4 : Array CpInfo := pool [(2, .class_ 4), (1, u "java/lang/Object"), (0, u "<init>"), (0, u "()V"), (1, .class_ 10), (1, u "java/lang/Number"), (2, .class_ 14), (0, u "java/io/Serializable"), (0, u "serialVersionUID"), (0, u "J")] 20

def k4m0 : Method := { name := "<init>", desc := "()V", sig := { parameters := [], returnType := none }, accessFlags := 1, code := none }
/-- java/lang/Number -/
def k4 : Class := { plain "java/lang/Number" (some 0) with
  accessFlags := 1057
  interfaces := #[3]
  cf := some (fileOf pool4 8 #[] #[{ accessFlags := 1, nameIndex := 5, descriptorIndex := 6, attributes := #[] }] 1057 2 #[13] #[{ accessFlags := 26, nameIndex := 15, descriptorIndex := 16, attributes := #[] }])
  fields := #[{ name := "serialVersionUID", type := .long, accessFlags := 26, slot := 0, constantValue := 0 }]
  methods := #[k4m0]
  instanceTypes := #[]
  staticTypes := #[.long]
  resolved := Array.replicate 37 none
  statics := none }

def pool5 : Array CpInfo := pool [(1, .class_ 2), (0, u "java/lang/Comparable"), (0, .class_ 4), (0, u "java/lang/Object")] 7

/-- java/lang/Comparable -/
def k5 : Class := { plain "java/lang/Comparable" (some 0) with
  accessFlags := 1537
  interfaces := #[]
  cf := some (fileOf pool5 1 #[] #[] 1537 3 #[] #[])
  fields := #[]
  methods := #[]
  instanceTypes := #[]
  staticTypes := #[]
  resolved := Array.replicate 12 none
  statics := none }

def pool6 : Array CpInfo := pool [(1, .class_ 2), (0, u "java/lang/constant/Constable"), (0, .class_ 4), (0, u "java/lang/Object")] 6

/-- java/lang/constant/Constable -/
def k6 : Class := { plain "java/lang/constant/Constable" (some 0) with
  accessFlags := 1537
  interfaces := #[]
  cf := some (fileOf pool6 1 #[] #[] 1537 3 #[] #[])
  fields := #[]
  methods := #[]
  instanceTypes := #[]
  staticTypes := #[]
  resolved := Array.replicate 11 none
  statics := none }

def pool7 : Array CpInfo := pool [(1, .class_ 2), (0, u "java/lang/constant/ConstantDesc"), (0, .class_ 4), (0, u "java/lang/Object")] 32

/-- java/lang/constant/ConstantDesc -/
def k7 : Class := { plain "java/lang/constant/ConstantDesc" (some 0) with
  accessFlags := 1537
  interfaces := #[]
  cf := some (fileOf pool7 1 #[] #[] 1537 3 #[] #[])
  fields := #[]
  methods := #[]
  instanceTypes := #[]
  staticTypes := #[]
  resolved := Array.replicate 37 none
  statics := none }

def pool8 : Array CpInfo := pool [(1, .class_ 2), (0, u "java/lang/Integer"), (16, u "digits"), (0, u "[C"), (19, u "toUnsignedLong"), (0, u "(I)J"), (43, u "DigitOnes"), (0, u "[B"), (2, u "DigitTens"), (99, .class_ 190), (0, u "java/lang/Integer$IntegerCache"), (3, u "I"), (8, .class_ 204), (0, u "java/lang/Number"), (2, u "value"), (54, .long 4294967295), (39, u "TYPE"), (0, u "Ljava/lang/Class;"), (0, .class_ 305), (0, u "java/lang/Comparable"), (0, .class_ 307), (0, u "java/lang/constant/Constable"), (0, .class_ 309), (0, u "java/lang/constant/ConstantDesc"), (0, u "MIN_VALUE"), (1, u "MAX_VALUE"), (3, u "SIZE"), (1, u "BYTES"), (1, u "serialVersionUID"), (0, u "J")] 131

def k8c0 : Code := { maxStack := 4, maxLocals := 1, code := jdk_33_method_42_code, exceptionTable := #[], attributes := #[] }
def k8m0 : Method := { name := "toUnsignedLong", desc := "(I)J", sig := { parameters := [.int], returnType := some .long }, accessFlags := 9, code := some k8c0 }
/-- java/lang/Integer -/
def k8 : Class := { plain "java/lang/Integer" (some 4) with
  accessFlags := 49
  interfaces := #[5, 6, 7]
  cf := some (fileOf pool8 1 #[.nestMembers #[189]] #[{ accessFlags := 9, nameIndex := 40, descriptorIndex := 41, attributes := #[] }] 49 203 #[304, 306, 308] #[{ accessFlags := 25, nameIndex := 310, descriptorIndex := 194, attributes := #[] }, { accessFlags := 25, nameIndex := 312, descriptorIndex := 194, attributes := #[] }, { accessFlags := 25, nameIndex := 302, descriptorIndex := 303, attributes := #[] }, { accessFlags := 24, nameIndex := 19, descriptorIndex := 20, attributes := #[] }, { accessFlags := 24, nameIndex := 89, descriptorIndex := 86, attributes := #[] }, { accessFlags := 24, nameIndex := 85, descriptorIndex := 86, attributes := #[] }, { accessFlags := 18, nameIndex := 207, descriptorIndex := 194, attributes := #[] }, { accessFlags := 25, nameIndex := 316, descriptorIndex := 194, attributes := #[] }, { accessFlags := 25, nameIndex := 318, descriptorIndex := 194, attributes := #[] }, { accessFlags := 26, nameIndex := 320, descriptorIndex := 321, attributes := #[] }])
  fields := #[{ name := "MIN_VALUE", type := .int, accessFlags := 25, slot := 0, constantValue := 0 }, { name := "MAX_VALUE", type := .int, accessFlags := 25, slot := 1, constantValue := 0 }, { name := "TYPE", type := (.object "java/lang/Class"), accessFlags := 25, slot := 2, constantValue := 0 }, { name := "digits", type := (.array .char), accessFlags := 24, slot := 3, constantValue := 0 }, { name := "DigitTens", type := (.array .byte), accessFlags := 24, slot := 4, constantValue := 0 }, { name := "DigitOnes", type := (.array .byte), accessFlags := 24, slot := 5, constantValue := 0 }, { name := "value", type := .int, accessFlags := 18, slot := 0, constantValue := 0 }, { name := "SIZE", type := .int, accessFlags := 25, slot := 6, constantValue := 0 }, { name := "BYTES", type := .int, accessFlags := 25, slot := 7, constantValue := 0 }, { name := "serialVersionUID", type := .long, accessFlags := 26, slot := 8, constantValue := 0 }]
  methods := #[k8m0]
  instanceTypes := #[.int]
  staticTypes := #[.int, .int, (.object "java/lang/Class"), (.array .char), (.array .byte), (.array .byte), .int, .int, .long]
  resolved := Array.replicate 453 none
  statics := none }

def pool9 : Array CpInfo := pool [(1, u "java/lang/Cloneable"), (0, .class_ 1), (0, u "java/lang/Object"), (0, .class_ 3)] 3

/-- java/lang/Cloneable -/
def k9 : Class := { plain "java/lang/Cloneable" (some 0) with
  accessFlags := 1537
  interfaces := #[]
  cf := some (fileOf pool9 2 #[] #[] 1537 4 #[] #[])
  fields := #[]
  methods := #[]
  instanceTypes := #[]
  staticTypes := #[]
  resolved := Array.replicate 8 none
  statics := none }

/-- the primitive byte -/
def k10 : Class := { plain "byte" none with kind := .primitive 'B', accessFlags := 0x411 }
/-- [B -/
def k11 : Class := { plain "[B" (some 0) with kind := .array 10 .byte, interfaces := #[9, 3], accessFlags := 1041 }

/-- the primitive int -/
def k12 : Class := { plain "int" none with kind := .primitive 'I', accessFlags := 0x411 }
/-- [I -/
def k13 : Class := { plain "[I" (some 0) with kind := .array 12 .int, interfaces := #[9, 3], accessFlags := 1041 }

def heap : Heap := #[]
def classes : Array Class := #[k0, k1, k2, k3, k4, k5, k6, k7, k8, k9, k10, k11, k12, k13]
def interned : List (Array UInt16 × Addr) := []
def slotsUsed : Nat := 0
def theMethod : MethodId := ⟨1, 1⟩
def args0 : Array Value := #[.int 5, .int 7, .int 9, .int 11]
def aboutOver (below : List Frame) : State where
  vm := { classes := classes, interned := interned.toArray }
  heap := heap
  slotsUsed := slotsUsed
  threads := #[{ frames := .invoking theMethod args0 :: below }]
def below0 : List Frame := [.native { method := ⟨0, 0⟩, args := #[] }]
def about1 : State := aboutOver below0
def p0 : Program := .bare "" "" ""
def e0 : Env := launch0.env 0 0 0
theorem w_frames : about1.frames = Frame.invoking theMethod args0 :: below0 := rfl
set_option maxRecDepth 65536 in
theorem w_args : argsFit about1.vm theMethod args0 = true := by decide +kernel
set_option maxRecDepth 65536 in
theorem w_heap : heapFits about1 = true := by decide +kernel
set_option maxRecDepth 65536 in
theorem w_runnable : about1.curStatus? = some .runnable := by decide +kernel
set_option maxRecDepth 65536 in
theorem w_alone : about1.alone = true := by decide +kernel
set_option maxRecDepth 65536 in
theorem w_named : about1.methodNamed? x = some theMethod := by decide +kernel
set_option maxRecDepth 65536 in
theorem w_hears : about1.hears theMethod below0 = true := by decide +kernel
set_option maxRecDepth 65536 in
theorem w_ripe : about1.ripe theMethod args0 below0 = true := by decide +kernel
theorem w_running : about1.status = .running := rfl
set_option maxRecDepth 65536 in
theorem w_room : about1.hasRoom e0.platform room_1 = true :=
  launch0.hasRoom_least _ room_1 (by decide +kernel) (by decide +kernel) (by decide +kernel) (by decide +kernel) (by decide +kernel) (by decide +kernel)
theorem allAtoms_all (ts : List Jvm.Cond) (a : Array Jvm.Value) (st : Jvm.State) : (allAtoms ts).before a st = ts.all (fun c => c.before a st) := by
  induction ts with
  | nil => rfl
  | cons c t ih =>
    show (Jvm.Cond.and c (allAtoms t)).before a st = _
    rw [Jvm.Cond.before_and, ih, List.all_cons]
def words1 : List Jvm.Cond := Jvm.Cond.code x code maxLocals ret :: tables_1
/-- a 'code' word, met by the world's own term for the bytes: nothing is compared byte by byte -/
theorem code_word {y : MethodName} {bytes : ByteArray} {mx : Nat} {rt : Option FieldType} {a : Array Value} {s : State} {m : MethodId} {meth : Method} {c : Code} (h1 : s.methodNamed? y = some m) (h2 : s.vm.method? m = some meth) (h3 : meth.code = some c) (h4 : c.code = bytes)
    (h5 : (c.maxLocals == mx && c.exceptionTable.isEmpty && decide (c.maxStack ≤ mostOperands) && decide (meth.sig.returnType = rt) && !meth.locks && decide (parseMethodDescriptor y.desc = some meth.sig)) = true) : (Jvm.Cond.code y bytes mx rt).before a s = true := by
  simp only [Bool.and_eq_true, beq_iff_eq, Bool.not_eq_true', decide_eq_true_eq] at h5
  obtain ⟨⟨⟨⟨⟨g1, g2⟩, g3⟩, g4⟩, g5⟩, g6⟩ := h5
  simp [Cond.before, Cond.holds, Cond.value, h1, h2, h3, h4, g1, g2, g3, g4, g5, g6]
def isCode : Jvm.Cond → Bool
  | .code _ _ _ _ => true
  | _ => false
theorem all_split {L : List Jvm.Cond} {P : Jvm.Cond → Bool} (h1 : L.all (fun c => isCode c || P c) = true) (h2 : ∀ c ∈ L.filter isCode, P c = true) : L.all P = true := by
  refine List.all_eq_true.mpr fun c hc => ?_
  have h := List.all_eq_true.mp h1 c hc
  rcases Bool.eq_false_or_eq_true (isCode c) with hi | hi
  · exact h2 c (List.mem_filter.mpr ⟨hc, hi⟩)
  · simpa [hi] using h
set_option maxRecDepth 65536 in
theorem w_c0 : (Jvm.Cond.code x code maxLocals ret).before args0 about1 = true := code_word (m := ⟨1, 1⟩) (meth := k1m1) (c := k1c1) (by decide +kernel) rfl rfl rfl (by decide +kernel)
set_option maxRecDepth 65536 in
theorem w_c1 : (Jvm.Cond.code ({ cls := "com/example/feuillet/feuillet/store/OpenTable", name := "<init>", desc := "()V" } : Jvm.MethodName) prog_50_method_1_code (1 : Nat) (Option.none : Option Jvm.ClassFile.FieldType)).before args0 about1 = true := code_word (m := ⟨2, 0⟩) (meth := k2m0) (c := k2c0) (by decide +kernel) rfl rfl rfl (by decide +kernel)
set_option maxRecDepth 65536 in
theorem w_c2 : (Jvm.Cond.code ({ cls := "java/lang/Object", name := "<init>", desc := "()V" } : Jvm.MethodName) object_method_1_code (1 : Nat) (Option.none : Option Jvm.ClassFile.FieldType)).before args0 about1 = true := code_word (m := ⟨0, 0⟩) (meth := k0m0) (c := k0c0) (by decide +kernel) rfl rfl rfl (by decide +kernel)
set_option maxRecDepth 65536 in
theorem w_c3 : (Jvm.Cond.code ({ cls := "com/example/feuillet/feuillet/store/OpenTable", name := "start", desc := "(I)I" } : Jvm.MethodName) prog_50_method_2_code (2 : Nat) (Option.some Jvm.ClassFile.FieldType.int)).before args0 about1 = true := code_word (m := ⟨2, 1⟩) (meth := k2m1) (c := k2c1) (by decide +kernel) rfl rfl rfl (by decide +kernel)
set_option maxRecDepth 65536 in
theorem w_c4 : (Jvm.Cond.code ({ cls := "java/lang/Integer", name := "toUnsignedLong", desc := "(I)J" } : Jvm.MethodName) jdk_33_method_42_code (1 : Nat) (Option.some Jvm.ClassFile.FieldType.long)).before args0 about1 = true := code_word (m := ⟨8, 0⟩) (meth := k8m0) (c := k8c0) (by decide +kernel) rfl rfl rfl (by decide +kernel)
set_option maxRecDepth 65536 in
theorem w_c5 : (Jvm.Cond.code ({ cls := "com/example/feuillet/feuillet/store/OpenTable", name := "put", desc := "(IIILjava/util/function/IntUnaryOperator;)V" } : Jvm.MethodName) prog_50_method_7_code (6 : Nat) (Option.none : Option Jvm.ClassFile.FieldType)).before args0 about1 = true := code_word (m := ⟨2, 3⟩) (meth := k2m3) (c := k2c3) (by decide +kernel) rfl rfl rfl (by decide +kernel)
set_option maxRecDepth 65536 in
theorem w_c6 : (Jvm.Cond.code ({ cls := "com/example/feuillet/feuillet/store/OpenTable", name := "holds", desc := "(II)Z" } : Jvm.MethodName) prog_50_method_12_code (2 : Nat) (Option.some Jvm.ClassFile.FieldType.boolean)).before args0 about1 = true := code_word (m := ⟨2, 5⟩) (meth := k2m5) (c := k2c5) (by decide +kernel) rfl rfl rfl (by decide +kernel)
set_option maxRecDepth 65536 in
theorem w_c7 : (Jvm.Cond.code ({ cls := "com/example/feuillet/feuillet/store/OpenTable", name := "slot", desc := "(II)I" } : Jvm.MethodName) prog_50_method_11_code (2 : Nat) (Option.some Jvm.ClassFile.FieldType.int)).before args0 about1 = true := code_word (m := ⟨2, 4⟩) (meth := k2m4) (c := k2c4) (by decide +kernel) rfl rfl rfl (by decide +kernel)
set_option maxRecDepth 65536 in
theorem w_c8 : (Jvm.Cond.code ({ cls := "com/example/feuillet/feuillet/store/OpenTable", name := "entry", desc := "(II)I" } : Jvm.MethodName) prog_50_method_6_code (4 : Nat) (Option.some Jvm.ClassFile.FieldType.int)).before args0 about1 = true := code_word (m := ⟨2, 2⟩) (meth := k2m2) (c := k2c2) (by decide +kernel) rfl rfl rfl (by decide +kernel)
def codes1 : List Jvm.Cond := [Jvm.Cond.code x code maxLocals ret, Jvm.Cond.code ({ cls := "com/example/feuillet/feuillet/store/OpenTable", name := "<init>", desc := "()V" } : Jvm.MethodName) prog_50_method_1_code (1 : Nat) (Option.none : Option Jvm.ClassFile.FieldType), Jvm.Cond.code ({ cls := "java/lang/Object", name := "<init>", desc := "()V" } : Jvm.MethodName) object_method_1_code (1 : Nat) (Option.none : Option Jvm.ClassFile.FieldType), Jvm.Cond.code ({ cls := "com/example/feuillet/feuillet/store/OpenTable", name := "start", desc := "(I)I" } : Jvm.MethodName) prog_50_method_2_code (2 : Nat) (Option.some Jvm.ClassFile.FieldType.int), Jvm.Cond.code ({ cls := "java/lang/Integer", name := "toUnsignedLong", desc := "(I)J" } : Jvm.MethodName) jdk_33_method_42_code (1 : Nat) (Option.some Jvm.ClassFile.FieldType.long), Jvm.Cond.code ({ cls := "com/example/feuillet/feuillet/store/OpenTable", name := "put", desc := "(IIILjava/util/function/IntUnaryOperator;)V" } : Jvm.MethodName) prog_50_method_7_code (6 : Nat) (Option.none : Option Jvm.ClassFile.FieldType), Jvm.Cond.code ({ cls := "com/example/feuillet/feuillet/store/OpenTable", name := "holds", desc := "(II)Z" } : Jvm.MethodName) prog_50_method_12_code (2 : Nat) (Option.some Jvm.ClassFile.FieldType.boolean), Jvm.Cond.code ({ cls := "com/example/feuillet/feuillet/store/OpenTable", name := "slot", desc := "(II)I" } : Jvm.MethodName) prog_50_method_11_code (2 : Nat) (Option.some Jvm.ClassFile.FieldType.int), Jvm.Cond.code ({ cls := "com/example/feuillet/feuillet/store/OpenTable", name := "entry", desc := "(II)I" } : Jvm.MethodName) prog_50_method_6_code (4 : Nat) (Option.some Jvm.ClassFile.FieldType.int)]
set_option maxRecDepth 65536 in
theorem codes_eq : words1.filter isCode = codes1 := rfl
theorem w_codes : ∀ c ∈ words1.filter isCode, c.before args0 about1 = true := by
  rw [codes_eq]
  intro c hc
  simp only [codes1, List.mem_cons, List.not_mem_nil, or_false] at hc
  rcases hc with rfl | rfl | rfl | rfl | rfl | rfl | rfl | rfl | rfl
  · exact w_c0
  · exact w_c1
  · exact w_c2
  · exact w_c3
  · exact w_c4
  · exact w_c5
  · exact w_c6
  · exact w_c7
  · exact w_c8
set_option maxRecDepth 65536 in
theorem w_t1 : (words1.take 24).all (fun c => isCode c || c.before args0 about1) = true := by decide +kernel
set_option maxRecDepth 65536 in
theorem w_t2 : ((words1.drop 24).take 24).all (fun c => isCode c || c.before args0 about1) = true := by decide +kernel
set_option maxRecDepth 65536 in
theorem w_t3 : ((words1.drop 24).drop 24).all (fun c => isCode c || c.before args0 about1) = true := by decide +kernel
theorem w_tables : (allAtoms (Jvm.Cond.code x code maxLocals ret :: tables_1)).before args0 about1 = true := by
  rw [allAtoms_all]
  show words1.all (fun c => c.before args0 about1) = true
  refine all_split ?_ w_codes
  rw [← List.take_append_drop 24 words1, List.all_append, w_t1, ← List.take_append_drop 24 (words1.drop 24), List.all_append, w_t2, w_t3]
  rfl
set_option maxRecDepth 65536 in
theorem w_case : (Jvm.Cond.and given_1 narrow_1).before args0 about1 = true := by decide +kernel
theorem w_applies : (headSpec (Jvm.Cond.code x code maxLocals ret :: tables_1) room_1).applies x e0.platform about1 = true :=
  (Spec.applies_iff w_frames).mpr ⟨w_running, w_runnable, w_alone, w_named, w_hears, w_ripe, w_room, w_tables⟩
theorem atStart : AtStart classFile x code maxLocals ret World_1 tables_1 room_1 Calls_1 rest_1 Pre_1 launch0 p0 e0 about1 theMethod args0 below0 :=
  ⟨lists_1, trivial, launch0.admits_env _ _ _, launch0.least_env, fairChoices_fair.cas, fairChoices_fair.clock, w_frames, w_args, w_heap, w_applies, trivial, trivial, w_case⟩
end start1
theorem witness_1 : WitnessClaimed_1 := ⟨start1.p0, start1.e0, start1.about1, start1.theMethod, start1.args0, start1.below0, start1.atStart⟩
end Jvm.Pilot.@@N@@
