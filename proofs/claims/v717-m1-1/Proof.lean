import JvmDerived
import JvmDerived.Pilot.@@N@@Statement
import JvmDerived.Pilot.@@N@@Code
set_option linter.unusedVariables false
set_option linter.unusedSimpArgs false
namespace Jvm.RoadKit
open Sem ClassFile Op Lib Jvm.Stand Jvm.Free Jvm.LawKit
section New
variable {p : Program} {l : Launch} {e : Env} {R : Room} {s : State} {m : MethodId} {args : Array Value} {below : List Frame} {meth : Method} {c : Code} {T : State} {locs : List Loc} {cells slots : Nat}
theorem retI (X : Stand p l e R s m args below meth c T locs cells slots) (hx : p.tables.exec = Jvm.exec) {pc : Nat} {Ls : Array Slot} {z : Int32} {rest : List Value} (hret : meth.sig.returnType = some .int) (hd : decode c.code pc = .ok (.ireturn, 1)) {fs : List Frame}
    (hl : ∀ (f : JFrame) (acts : List Action), f.method = m → f.locked = none → f.entered = [] → (doReturn e (T.setTop f) acts (some (.int z))).1 = T.setFrames fs) : Steps p.tables e below (T.setTop (mkF m pc Ls (.int z :: rest))) (T.setFrames fs) := by
  have hm' : T.vm.method? m = some meth := X.method'
  have hn : narrow .int (.int z) = .int z := rfl
  show Steps p.tables e below (T.setTop { method := m, pc := pc, locals := Ls, stack := _ :: rest, locked := none }) _
  jvm_step X.here [X.here.top, hx, hd, hm', hret, hn]
  first | (intro acts; rw [hl _ acts rfl rfl rfl]) | rw [hl _ _ rfl rfl rfl]
  exact Steps.refl _
/-- the return of a reference, null or not -/
theorem own_retR (X : Stand p l e R s m args below meth c T locs cells slots) (hx : p.tables.exec = Jvm.exec) {pc : Nat} {Ls : Array Slot} {w : Value} {ty : FieldType} {rest : List Value} (hret : meth.sig.returnType = some ty) (ht : ty.isReference = true) (hw : w.isRef = true) (hd : decode c.code pc = .ok (.areturn, 1)) {fs : List Frame}
    (hl : ∀ (f : JFrame) (acts : List Action), f.method = m → f.locked = none → f.entered = [] → (doReturn e (T.setTop f) acts (some w)).1 = T.setFrames fs) : Steps p.tables e below (T.setTop (mkF m pc Ls (w :: rest))) (T.setFrames fs) := by
  have hm' : T.vm.method? m = some meth := X.method'
  show Steps p.tables e below (T.setTop { method := m, pc := pc, locals := Ls, stack := _ :: rest, locked := none }) _
  rcases ref_cases hw with rfl | ⟨z, rfl⟩
  all_goals
    jvm_step X.here [X.here.top, hx, hd, hm', hret, ht, Value.isRef]
    first | (intro acts; rw [hl _ acts rfl rfl rfl]) | rw [hl _ _ rfl rfl rfl]
    exact Steps.refl _
/-- what a walk owes from a state and a frame on -/
def own_G (p : Program) (e : Env) (below : List Frame) (s : State) (C N : Nat) (Q : Option Value → Heap → List Loc → Prop) (T : State) (g : JFrame) : Prop :=
  ∃ s₂ o, Steps p.tables e below (T.setTop g) s₂ ∧ s₂.status = .running ∧ Ended s₂ below o ∧ ∃ v L, o = .returned v ∧ Q v s₂.heap L ∧ FrameEnd s o s₂ L C N
variable {C N : Nat} {Q : Option Value → Heap → List Loc → Prop} {T' : State} {g g' : JFrame} {h : Heap}
theorem own_G.step (k : ∀ t, Steps p.tables e below (T'.setTop g') t → Steps p.tables e below (T.setTop g) t) (H : own_G p e below s C N Q T' g') : own_G p e below s C N Q T g := by
  obtain ⟨s₂, o, h1, r⟩ := H
  exact ⟨s₂, o, k _ h1, r⟩
theorem own_G.sp (pc : Nat) (Ls : Array Slot) (S : List Value) (k : ∀ t, Steps p.tables e below (T.setTop (mkF m pc Ls S)) t → Steps p.tables e below (T.setTop g) t) (H : own_G p e below s C N Q T (mkF m pc Ls S)) : own_G p e below s C N Q T g := own_G.step k H
theorem own_G.sk {pc0 : Nat} {Ls : Array Slot} {S0 : List Value} (pc : Nat) (S : List Value) (k : ∀ t, Steps p.tables e below (T.setTop (mkF m pc Ls S)) t → Steps p.tables e below (T.setTop (mkF m pc0 Ls S0)) t) (H : own_G p e below s C N Q T (mkF m pc Ls S)) : own_G p e below s C N Q T (mkF m pc0 Ls S0) := own_G.step k H
theorem own_G.si {Ls : Array Slot} (pc : Nat) (S : List Value) (k : ∀ t, Steps p.tables e below (T.setTop (mkF m pc Ls S)) t → Steps p.tables e below (T.setTop g) t) (H : own_G p e below s C N Q T (mkF m pc Ls S)) : own_G p e below s C N Q T g := own_G.step k H
theorem own_G.st {pc0 : Nat} {Ls : Array Slot} {S0 : List Value} (pc : Nat) (S : List Value) (k : ∀ t, Steps p.tables e below (T'.setTop (mkF m pc Ls S)) t → Steps p.tables e below (T.setTop (mkF m pc0 Ls S0)) t) (H : own_G p e below s C N Q T' (mkF m pc Ls S)) : own_G p e below s C N Q T (mkF m pc0 Ls S0) := own_G.step k H
theorem own_G.cast (q : g = g') (H : own_G p e below s C N Q T g') : own_G p e below s C N Q T g := by
  subst q
  exact H
theorem own_G.start (q : g = g') (H : own_G p e below s C N Q T g') : ∃ s₂ o, Steps p.tables e below (T.setTop g) s₂ ∧ s₂.status = .running ∧ Ended s₂ below o ∧ ∃ v L, o = .returned v ∧ Q v s₂.heap L ∧ FrameEnd s o s₂ L C N := by
  subst q
  exact H
theorem own_ret (X : Stand p l e R s m args below meth c T locs cells slots) (eT : T.heap = h) {v : Option Value} (hv : meth.sig.returnType = none → v = none) (hlk : meth.locks = false) (hq : Q v h locs) (hc : cells ≤ C) (hn : slots ≤ N)
    (st : ∀ fs, (∀ (f : JFrame) (acts : List Action), f.method = m → f.locked = none → f.entered = [] → (doReturn e (T.setTop f) acts v).1 = T.setFrames fs) → Steps p.tables e below (T.setTop g) (T.setFrames fs)) : own_G p e below s C N Q T g := by
  obtain ⟨fs, hr, hrun, hended, hW, hsame⟩ := X.leave (v := v) hv hlk
  subst eT
  exact ⟨_, _, st fs hr, hrun, hended, _, _, rfl, hq, ⟨_, rfl⟩, hW, hsame.mono hc hn⟩
/-- the same where String constants may be made on the way -/
def own_GW (p : Program) (e : Env) (below : List Frame) (s : State) (C N : Nat) (Q : Option Value → Heap → List Loc → Prop) (T : State) (g : JFrame) : Prop :=
  ∃ s₂ o, Steps p.tables e below (T.setTop g) s₂ ∧ s₂.status = .running ∧ Ended s₂ below o ∧ ∃ v L, o = .returned v ∧ Q v s₂.heap L ∧ ReturnedEndW s o s₂ L C N
theorem own_GW.step (k : ∀ t, Steps p.tables e below (T'.setTop g') t → Steps p.tables e below (T.setTop g) t) (H : own_GW p e below s C N Q T' g') : own_GW p e below s C N Q T g := by
  obtain ⟨s₂, o, h1, r⟩ := H
  exact ⟨s₂, o, k _ h1, r⟩
theorem own_GW.sp (pc : Nat) (Ls : Array Slot) (S : List Value) (k : ∀ t, Steps p.tables e below (T.setTop (mkF m pc Ls S)) t → Steps p.tables e below (T.setTop g) t) (H : own_GW p e below s C N Q T (mkF m pc Ls S)) : own_GW p e below s C N Q T g := own_GW.step k H
theorem own_GW.sk {pc0 : Nat} {Ls : Array Slot} {S0 : List Value} (pc : Nat) (S : List Value) (k : ∀ t, Steps p.tables e below (T.setTop (mkF m pc Ls S)) t → Steps p.tables e below (T.setTop (mkF m pc0 Ls S0)) t) (H : own_GW p e below s C N Q T (mkF m pc Ls S)) : own_GW p e below s C N Q T (mkF m pc0 Ls S0) := own_GW.step k H
theorem own_GW.si {Ls : Array Slot} (pc : Nat) (S : List Value) (k : ∀ t, Steps p.tables e below (T.setTop (mkF m pc Ls S)) t → Steps p.tables e below (T.setTop g) t) (H : own_GW p e below s C N Q T (mkF m pc Ls S)) : own_GW p e below s C N Q T g := own_GW.step k H
theorem own_GW.st {pc0 : Nat} {Ls : Array Slot} {S0 : List Value} (pc : Nat) (S : List Value) (k : ∀ t, Steps p.tables e below (T'.setTop (mkF m pc Ls S)) t → Steps p.tables e below (T.setTop (mkF m pc0 Ls S0)) t) (H : own_GW p e below s C N Q T' (mkF m pc Ls S)) : own_GW p e below s C N Q T (mkF m pc0 Ls S0) := own_GW.step k H
theorem own_GW.cast (q : g = g') (H : own_GW p e below s C N Q T g') : own_GW p e below s C N Q T g := by
  subst q
  exact H
theorem own_GW.start (q : g = g') (H : own_GW p e below s C N Q T g') : ∃ s₂ o, Steps p.tables e below (T.setTop g) s₂ ∧ s₂.status = .running ∧ Ended s₂ below o ∧ ∃ v L, o = .returned v ∧ Q v s₂.heap L ∧ ReturnedEndW s o s₂ L C N := by
  subst q
  exact H
theorem own_retW {vm₁ : Vm} {k : Nat} (X : Stand p l e R (s.setVm vm₁) m args below meth c T locs cells slots) (hS : s.Since vm₁ k) (eT : T.heap = h) (hk : k ≤ h.size) {v : Option Value} (hv : meth.sig.returnType = none → v = none) (hlk : meth.locks = false) (hq : Q v h locs) (hc : cells ≤ C) (hn : slots ≤ N)
    (st : ∀ fs, (∀ (f : JFrame) (acts : List Action), f.method = m → f.locked = none → f.entered = [] → (doReturn e (T.setTop f) acts v).1 = T.setFrames fs) → Steps p.tables e below (T.setTop g) (T.setFrames fs)) : own_GW p e below s C N Q T g := by
  obtain ⟨fs, hr, hrun, hended, hW, hsame⟩ := X.leave (v := v) hv hlk
  subst eT
  obtain ⟨a, b, d⟩ := hS.ended (U := T.setFrames fs) hW hk hsame
  exact ⟨_, _, st fs hr, hrun, hended, _, _, rfl, hq, ⟨_, rfl⟩, a, b, d.mono hc hn⟩
/-- the same where the held String constants are kept too -/
def own_GH (Z : State) (EL : List (String × Nat)) (p : Program) (e : Env) (below : List Frame) (s : State) (C N : Nat) (Q : Option Value → Heap → List Loc → Prop) (T : State) (g : JFrame) : Prop :=
  ∃ s₂ o, Steps p.tables e below (T.setTop g) s₂ ∧ s₂.status = .running ∧ Ended s₂ below o ∧ ∃ v L, o = .returned v ∧ Q v s₂.heap L ∧ CHr Z EL s.vm s.heap s₂.vm s₂.heap ∧ ReturnedEndW s o s₂ L C N
section HeldEnd
variable {Z : State} {EL : List (String × Nat)}
theorem own_GH.step (k : ∀ t, Steps p.tables e below (T'.setTop g') t → Steps p.tables e below (T.setTop g) t) (H : own_GH Z EL p e below s C N Q T' g') : own_GH Z EL p e below s C N Q T g := by
  obtain ⟨s₂, o, h1, r⟩ := H
  exact ⟨s₂, o, k _ h1, r⟩
theorem own_GH.sp (pc : Nat) (Ls : Array Slot) (S : List Value) (k : ∀ t, Steps p.tables e below (T.setTop (mkF m pc Ls S)) t → Steps p.tables e below (T.setTop g) t) (H : own_GH Z EL p e below s C N Q T (mkF m pc Ls S)) : own_GH Z EL p e below s C N Q T g := own_GH.step k H
theorem own_GH.sk {pc0 : Nat} {Ls : Array Slot} {S0 : List Value} (pc : Nat) (S : List Value) (k : ∀ t, Steps p.tables e below (T.setTop (mkF m pc Ls S)) t → Steps p.tables e below (T.setTop (mkF m pc0 Ls S0)) t) (H : own_GH Z EL p e below s C N Q T (mkF m pc Ls S)) : own_GH Z EL p e below s C N Q T (mkF m pc0 Ls S0) := own_GH.step k H
theorem own_GH.si {Ls : Array Slot} (pc : Nat) (S : List Value) (k : ∀ t, Steps p.tables e below (T.setTop (mkF m pc Ls S)) t → Steps p.tables e below (T.setTop g) t) (H : own_GH Z EL p e below s C N Q T (mkF m pc Ls S)) : own_GH Z EL p e below s C N Q T g := own_GH.step k H
theorem own_GH.st {pc0 : Nat} {Ls : Array Slot} {S0 : List Value} (pc : Nat) (S : List Value) (k : ∀ t, Steps p.tables e below (T'.setTop (mkF m pc Ls S)) t → Steps p.tables e below (T.setTop (mkF m pc0 Ls S0)) t) (H : own_GH Z EL p e below s C N Q T' (mkF m pc Ls S)) : own_GH Z EL p e below s C N Q T (mkF m pc0 Ls S0) := own_GH.step k H
theorem own_GH.cast (q : g = g') (H : own_GH Z EL p e below s C N Q T g') : own_GH Z EL p e below s C N Q T g := by
  subst q
  exact H
theorem own_GH.start (q : g = g') (H : own_GH Z EL p e below s C N Q T g') : ∃ s₂ o, Steps p.tables e below (T.setTop g) s₂ ∧ s₂.status = .running ∧ Ended s₂ below o ∧ ∃ v L, o = .returned v ∧ Q v s₂.heap L ∧ CHr Z EL s.vm s.heap s₂.vm s₂.heap ∧ ReturnedEndW s o s₂ L C N := by
  subst q
  exact H
theorem own_retH {vm₁ : Vm} {k : Nat} {h0 : Heap} {a0 : Array Value} (X : Stand p l e R (s.setVm vm₁) m args below meth c T locs cells slots) (hS : s.Since vm₁ k) (eT : T.heap = h) (hk : k ≤ h.size) (hZ : Z.Warmed39 vm₁) (ew : EW Z a0 EL) (hH : CHv Z EL vm₁ h) (hh : s.heap = h0) (hR : CHr Z EL s.vm h0 vm₁ h) {v : Option Value} (hv : meth.sig.returnType = none → v = none) (hlk : meth.locks = false) (hq : Q v h locs) (hc : cells ≤ C) (hn : slots ≤ N)
    (st : ∀ fs, (∀ (f : JFrame) (acts : List Action), f.method = m → f.locked = none → f.entered = [] → (doReturn e (T.setTop f) acts v).1 = T.setFrames fs) → Steps p.tables e below (T.setTop g) (T.setFrames fs)) : own_GH Z EL p e below s C N Q T g := by
  obtain ⟨fs, hr, hrun, hended, hW, hsame⟩ := X.leave (v := v) hv hlk
  subst eT
  subst hh
  have q := CHv.at X hZ ew hH
  obtain ⟨a, b, d⟩ := hS.ended (U := T.setFrames fs) hW hk hsame
  exact ⟨_, _, st fs hr, hrun, hended, _, _, rfl, hq, (show CHr Z EL s.vm s.heap (T.setFrames fs).vm (T.setFrames fs).heap from hR.trans q), ⟨_, rfl⟩, a, b, d.mono hc hn⟩
end HeldEnd
/-- an array of that length -/
def own_Len (Z : State) (h : Heap) (a : Addr) (n : Int32) : Prop := ∃ (c : Cell) (ty : FieldType), Arr Z h a c ty ∧ c.slots.size = n.toNatClampNeg ∧ ¬ n < 0
theorem own_Len.lt {Z : State} {a : Addr} {n : Int32} (F : own_Len Z h a n) : a < h.size := by
  obtain ⟨c, ty, A, -⟩ := F
  exact A.lt
theorem own_Len.ext {Z : State} {h' : Heap} {a : Addr} {n : Int32} (F : own_Len Z h a n) (E : Ext h h') : own_Len Z h' a n := by
  obtain ⟨c, ty, A, r⟩ := F
  exact ⟨c, ty, A.ext E, r⟩
theorem own_Len.other {Z : State} {h' : Heap} {a b : Addr} {n : Int32} {sl : Nat} {v : Value} (F : own_Len Z h b n) (W : Wr h h' a sl v) (q : b ≠ a) : own_Len Z h' b n := by
  obtain ⟨c, ty, A, r⟩ := F
  exact ⟨c, ty, A.other W q, r⟩
theorem own_Len.keep {Z : State} {h' : Heap} {a : Addr} {n : Int32} {ws : List Addr} (F : own_Len Z h a n) (K : Keep h h' ws) (q : a ∉ ws) : own_Len Z h' a n := by
  obtain ⟨c, ty, A, r⟩ := F
  exact ⟨c, ty, ⟨K.2.1 _ _ A.1 q, A.2⟩, r⟩
theorem own_Len.arv {Z : State} {a : Addr} {k : ClassId} {ty : FieldType} {n : Int32} {vs : List Value} {d : Value} (F : Arv Z h a k ty n vs d) : own_Len Z h a n := by
  obtain ⟨c, A, -, S, N, -⟩ := F
  exact ⟨c, ty, A, S, N⟩
theorem own_Len.start {Z : State} {a : Addr} {c : Cell} {ty : FieldType} {z : Int32} (A : Arr Z h a c ty) (q : c.slots.size < 2 ^ 31) (e : c.slots.size.toInt32 = z) (hz : ¬ z < 0) : own_Len Z h a z :=
  ⟨c, ty, A, by rw [← e]; simp only [Int32.toNatClampNeg, len_toInt q]; rfl, hz⟩
theorem own_join {α : Sort _} {P : α → Prop} {G : JFrame → Prop} {g : JFrame} (F : α → JFrame) (h1 : ∀ t, P t → G (F t)) (h2 : (∀ t, P t → G (F t)) → G g) : G g := h2 h1
/-- a byte of a byte[] -/
def own_At (Z : State) (h : Heap) (a : Addr) (i b : Int32) : Prop := ∃ c : Cell, Arr Z h a c .byte ∧ ¬ (i < 0 ∨ c.slots.size ≤ i.toNatClampNeg) ∧ c.slots[i.toNatClampNeg]? = some (.int b)
theorem own_At.arv {Z : State} {a : Addr} {k : ClassId} {n i b : Int32} {vs : List Value} {d : Value} (F : Arv Z h a k .byte n vs d) (h1 : ¬ i < 0 ∧ i < n) (h2 : vs.getD i.toNatClampNeg d = .int b) : own_At Z h a i b := by
  obtain ⟨c, A, -, S, N, H, -⟩ := F
  exact ⟨c, A, inb_of S h1, H.at (inb_of S h1) h2⟩
theorem own_cat {v : Value} (hv : v.isRef = true) : v.category = 1 := by rcases ref_cases hv with rfl | ⟨z, rfl⟩ <;> rfl
theorem own_fits {v : Value} {ty : FieldType} (hv : v.isRef = true) (ht : ty.isReference = true) : fits ty v = true := by
  rcases ref_cases hv with rfl | ⟨z, rfl⟩ <;> cases ty <;> first | rfl | (cases ht; done) | simp [fits]
theorem own_narrow {v : Value} {ty : FieldType} (hv : v.isRef = true) (ht : ty.isReference = true) : narrow ty v = v := by
  rcases ref_cases hv with rfl | ⟨z, rfl⟩ <;> cases ty <;> first | rfl | (cases ht; done)
theorem Old.le {Z : State} {n0 : Nat} (X : Old Z n0 h) : n0 ≤ h.size := X.1 ▸ X.2.1
end New
end Jvm.RoadKit
/- laws to paste: Road.backV (cut by pick.py; bodies as the Statement names them) -/
namespace Jvm.Pilot.@@N@@
namespace StrChars
open Jvm Sem ClassFile Op Lib Jvm.Stand Jvm.Free.XT Jvm.Free.ALB Jvm.Free.JM Jvm.Free
open Jvm.Lib.Cold (StaticIs)
/-- a char array whose places are chars -/
def Ch (a : Addr) (A : Cell) (U : State) : Prop := Arr .char a A U ∧ Typed .char A
theorem Ch.mv {a : Addr} {A : Cell} {U U' : State} (h : Ch a A U) (hal : U.vm.Alike U'.vm) (hh : U'.heap = U.heap) : Ch a A U' := ⟨h.1.mv hal hh, h.2⟩
theorem Ch.keep {a : Addr} {A : Cell} {U U' : State} (h : Ch a A U) (hal : U.vm.Alike U'.vm) (hk : U'.heap[a]? = some A) : Ch a A U' := ⟨h.1.keep hal hk, h.2⟩
/-- what place i of a char[]'s cell holds -/
def cv (A : Cell) (i : Nat) : Int32 := match A.slots[i]? with | some (.int x) => x | _ => 0
theorem Ch.get {a : Addr} {A : Cell} {U : State} (h : Ch a A U) {i : Nat} (hi : i < A.slots.size) : A.slots[i]? = some (.int (cv A i)) := by
  have e := Array.getElem?_eq_getElem hi
  have f := h.2 i _ e
  unfold cv; rw [e]
  generalize A.slots[i] = v at f
  cases v <;> simp [fits] at f ⊢
/-- the byte that i2b leaves of a char -/
def lo8 (x : Int32) : Int32 := x.toInt8.toInt32
theorem fits_lo8 (y : Int32) : fits .byte (.int (lo8 y)) = true := by
  have h1 := y.toInt8.le_toInt
  have h2 := y.toInt8.toInt_lt
  simp only [lo8, fits, Bool.and_eq_true, decide_eq_true_eq, Int32.le_iff_toInt_le, Int8.toInt_toInt32, show (-128 : Int32).toInt = -128 from by decide, show (127 : Int32).toInt = 127 from by decide]
  omega
/-- A' is A but that each place j of lo .. hi - 1 holds f j -/
def Laid (A A' : Cell) (lo hi : Nat) (f : Nat → Value) : Prop := A'.cls = A.cls ∧ A'.vm = A.vm ∧ A'.slots.size = A.slots.size ∧ ∀ i, A'.slots[i]? = if lo ≤ i ∧ i < hi then some (f i) else A.slots[i]?
theorem Laid.zero (A : Cell) (lo : Nat) (f : Nat → Value) : Laid A A lo (lo + 0) f := ⟨rfl, rfl, rfl, fun i => by rw [if_neg (by omega)]⟩
theorem Laid.step {A Ak : Cell} {lo k : Nat} {f : Nat → Value} {v : Value} (h : Laid A Ak lo k f) (hlo : lo ≤ k) (hk : k < Ak.slots.size) (hv : v = f k) : Laid A (Ak.setSlot k v) lo (k + 1) f := by
  refine ⟨h.1, h.2.1, by simpa [Cell.setSlot] using h.2.2.1, fun i => ?_⟩
  by_cases e : k = i
  · subst e; rw [Cell.slots_setSlot_self v hk, if_pos (by omega), hv]
  · rw [Cell.slots_setSlot_ne v e, h.2.2.2 i]
    by_cases q : lo ≤ i ∧ i < k
    · rw [if_pos q, if_pos (by omega)]
    · rw [if_neg q, if_neg (by omega)]
def U16 : String := "java/lang/StringUTF16"
namespace Cmp5
def yN : MethodName := ⟨"java/lang/StringUTF16", "compress", "([CI[BII)I"⟩
abbrev yB : ByteArray := jdk_52_method_21_code
theorem d0 : decode yB 0 = .ok (.iconst 0, 1) := by decide +kernel
theorem d1 : decode yB 1 = .ok (.istore 5, 2) := by decide +kernel
theorem d3 : decode yB 3 = .ok (.iload 5, 2) := by decide +kernel
theorem d5 : decode yB 5 = .ok (.iload 4, 2) := by decide +kernel
theorem d7 : decode yB 7 = .ok (.if_icmp (.ge) 37, 3) := by decide +kernel
theorem d10 : decode yB 10 = .ok (.aload_n 0, 1) := by decide +kernel
theorem d11 : decode yB 11 = .ok (.iload_n 1, 1) := by decide +kernel
theorem d12 : decode yB 12 = .ok (.caload, 1) := by decide +kernel
theorem d13 : decode yB 13 = .ok (.istore 6, 2) := by decide +kernel
theorem d15 : decode yB 15 = .ok (.iload 6, 2) := by decide +kernel
theorem d17 : decode yB 17 = .ok (.sipush 255, 3) := by decide +kernel
theorem d20 : decode yB 20 = .ok (.if_icmp (.le) 6, 3) := by decide +kernel
theorem d26 : decode yB 26 = .ok (.aload_n 2, 1) := by decide +kernel
theorem d27 : decode yB 27 = .ok (.iload_n 3, 1) := by decide +kernel
theorem d28 : decode yB 28 = .ok (.iload 6, 2) := by decide +kernel
theorem d30 : decode yB 30 = .ok (.i2b, 1) := by decide +kernel
theorem d31 : decode yB 31 = .ok (.bastore, 1) := by decide +kernel
theorem d32 : decode yB 32 = .ok (.iinc 1 1, 3) := by decide +kernel
theorem d35 : decode yB 35 = .ok (.iinc 3 1, 3) := by decide +kernel
theorem d38 : decode yB 38 = .ok (.iinc 5 1, 3) := by decide +kernel
theorem d41 : decode yB 41 = .ok (.goto (-38), 3) := by decide +kernel
theorem d44 : decode yB 44 = .ok (.iload 4, 2) := by decide +kernel
theorem d46 : decode yB 46 = .ok (.ireturn, 1) := by decide +kernel
def site : List Cond := []
def tab : Cond := tabOf yN yB 7 (some .int) site
def P (b : Addr) (A : Cell) (d : Addr) (B : Cell) (o q len : Nat) (args : Array Value) (s : State) : Prop := args = #[.ref b, .int (Int32.ofNat o), .ref d, .int (Int32.ofNat q), .int (Int32.ofNat len)] ∧ Ch b A s ∧ Arr .byte d B s ∧ b ≠ d ∧ o + len ≤ A.slots.size ∧ q + len ≤ B.slots.size ∧ ∀ i, i < len → ¬ 255 < cv A (o + i)
def E (b : Addr) (A : Cell) (d : Addr) (B : Cell) (o q len : Nat) (r : Option Value) (s u : State) : Prop := r = some (.int (Int32.ofNat len)) ∧ ∃ B', Put d B' s u ∧ Laid B B' q (q + len) (fun j => Value.int (lo8 (cv A (o + (j - q)))))
/-- no char of the range above 255: len; the places written hold each char's low byte -/
theorem law (l : Launch) (b : Addr) (A : Cell) (d : Addr) (B : Cell) (o q len : Nat) : Law l yN 5 5 0 0 yB 7 (some .int) site (P b A d B o q len) (E b A d B o q len) (copyLocs d q len) 0 0 := by
  refine Law.of_walk (plainFor_of_name (by decide +kernel)) (by decide +kernel) (by decide +kernel) (by decide) (fun _ _ h => by rw [h.1]; rfl) (fun _ U U' hal hh h => ⟨h.1, h.2.1.mv hal hh, h.2.2.1.mv hal hh, h.2.2.2⟩) (fun r U U' V V' h1 hal h2 h => ⟨h.1, h.2.elim fun B' q => ⟨B', q.1.mv h1 h2, q.2⟩⟩) ?_
  intro p e s m args below meth c s₁ X0 hexec hbytes hml hret hlk hnm hown hh0 W hP
  obtain ⟨rfl, hA, hB, hne, l1, l2, hp⟩ := hP
  have c1 : Steps p.tables e below (s₁.setTop (entryFrame m #[.ref b, .int (Int32.ofNat o), .ref d, .int (Int32.ofNat q), .int (Int32.ofNat len)] 7)) (s₁.setTop (mkF m 0 #[.val (.ref b), .val (.int (Int32.ofNat o)), .val (.ref d), .val (.int (Int32.ofNat q)), .val (.int (Int32.ofNat len)), .unset, .unset] [])) := entry rfl
  have hA0 := hA.1.mv X0.warmed.alike hh0
  have hB0 := hB.mv X0.warmed.alike hh0
  have a31 := hA.1.2.2.2
  have c2 : Steps p.tables e below (s₁.setTop (entryFrame m #[.ref b, .int (Int32.ofNat o), .ref d, .int (Int32.ofNat q), .int (Int32.ofNat len)] 7)) (s₁.setTop (mkF m 3 #[.val (.ref b), .val (.int (Int32.ofNat o)), .val (.ref d), .val (.int (Int32.ofNat q)), .val (.int (Int32.ofNat len)), .val (.int 0), .unset] [])) := c1.trans (by
    refine iconstV X0.here hexec rfl 0 (hb hbytes d0) (by decide) ?_
    refine XS.istore X0.here hexec rfl (hb hbytes d1) rfl rfl ?_
    exact Steps.refl _)
  have loop : ∀ (r i : Nat), i + r = len → ∀ (z : Slot), (z = .unset ∨ ∃ w, z = .val w ∧ w.category = 1) → ∀ (Tl : State) (Bk : Cell), Stand p l e { frames := 0, locals := 0, cells := 0, slots := 0 } s m #[.ref b, .int (Int32.ofNat o), .ref d, .int (Int32.ofNat q), .int (Int32.ofNat len)] below meth c Tl ([] ++ copyLocs d q i) 0 0 → Put d Bk s₁ Tl → Laid B Bk q (q + i) (fun j => Value.int (lo8 (cv A (o + (j - q))))) →
      Steps p.tables e below (s₁.setTop (entryFrame m #[.ref b, .int (Int32.ofNat o), .ref d, .int (Int32.ofNat q), .int (Int32.ofNat len)] 7)) (Tl.setTop (mkF m 3 #[.val (.ref b), .val (.int (Int32.ofNat (o + i))), .val (.ref d), .val (.int (Int32.ofNat (q + i))), .val (.int (Int32.ofNat len)), .val (.int (Int32.ofNat i)), z] [])) → ∃ (T' : State) (B' : Cell) (z' : Slot), Stand p l e { frames := 0, locals := 0, cells := 0, slots := 0 } s m #[.ref b, .int (Int32.ofNat o), .ref d, .int (Int32.ofNat q), .int (Int32.ofNat len)] below meth c T' ([] ++ copyLocs d q len) 0 0 ∧ Put d B' s₁ T' ∧ Laid B B' q (q + len) (fun j => Value.int (lo8 (cv A (o + (j - q))))) ∧
      Steps p.tables e below (s₁.setTop (entryFrame m #[.ref b, .int (Int32.ofNat o), .ref d, .int (Int32.ofNat q), .int (Int32.ofNat len)] 7)) (T'.setTop (mkF m 3 #[.val (.ref b), .val (.int (Int32.ofNat (o + len))), .val (.ref d), .val (.int (Int32.ofNat (q + len))), .val (.int (Int32.ofNat len)), .val (.int (Int32.ofNat len)), z'] [])) := by
    intro r
    induction r with
    | zero =>
      intro i hi z hz Tl Bk Xl pl fl cl
      have hil : i = len := by omega
      rw [hil] at Xl fl cl
      exact ⟨Tl, Bk, z, Xl, pl, fl, cl⟩
    | succ r ih =>
      intro i hi z hz Tl Bk Xl pl fl cl
      have all := X0.warmed.alike.symm.trans Xl.warmed.alike
      have hAl := hA0.keep all (pl.other hne hA0.1)
      have hBk := hB0.like all pl.1 fl.1 fl.2.1 fl.2.2.1
      have hlt : q + i < Bk.slots.size := by rw [fl.2.2.1]; omega
      have c3 : Steps p.tables e below (s₁.setTop (entryFrame m #[.ref b, .int (Int32.ofNat o), .ref d, .int (Int32.ofNat q), .int (Int32.ofNat len)] 7)) (Tl.setTop (mkF m 12 #[.val (.ref b), .val (.int (Int32.ofNat (o + i))), .val (.ref d), .val (.int (Int32.ofNat (q + i))), .val (.int (Int32.ofNat len)), .val (.int (Int32.ofNat i)), z] [.int (Int32.ofNat (o + i)), .ref b])) := cl.trans (by
        refine XS.iload Xl.here hexec rfl (hb hbytes d3) rfl ?_
        refine XS.iload Xl.here hexec rfl (hb hbytes d5) rfl ?_
        refine XS.icmpNo Xl.here hexec rfl (hb hbytes d7) rfl (ii_ge_f (lt32 (by omega) (by omega))) ?_
        refine XS.aloadN Xl.here hexec rfl (hb hbytes d10) rfl rfl ?_
        refine XS.iloadN Xl.here hexec rfl (hb hbytes d11) rfl ?_
        exact Steps.refl _)
      have c4 : Steps p.tables e below (s₁.setTop (entryFrame m #[.ref b, .int (Int32.ofNat o), .ref d, .int (Int32.ofNat q), .int (Int32.ofNat len)] 7)) (Tl.setTop (mkF m 13 #[.val (.ref b), .val (.int (Int32.ofNat (o + i))), .val (.ref d), .val (.int (Int32.ofNat (q + i))), .val (.int (Int32.ofNat len)), .val (.int (Int32.ofNat i)), z] [.int (cv A (o + i))])) := c3.trans (by
        refine Xl.aget hexec hAl rfl (hA.get (i := o + i) (by omega)) rfl rfl (hb hbytes d12) ?_
        exact Steps.refl _)
      have c5 : Steps p.tables e below (s₁.setTop (entryFrame m #[.ref b, .int (Int32.ofNat o), .ref d, .int (Int32.ofNat q), .int (Int32.ofNat len)] 7)) (Tl.setTop (mkF m 15 #[.val (.ref b), .val (.int (Int32.ofNat (o + i))), .val (.ref d), .val (.int (Int32.ofNat (q + i))), .val (.int (Int32.ofNat len)), .val (.int (Int32.ofNat i)), .val (.int (cv A (o + i)))] [])) := c4.trans (by
        refine XS.istoreS Xl.here hexec rfl (hb hbytes d13) rfl rfl hz ?_
        exact Steps.refl _)
      have c6 : Steps p.tables e below (s₁.setTop (entryFrame m #[.ref b, .int (Int32.ofNat o), .ref d, .int (Int32.ofNat q), .int (Int32.ofNat len)] 7)) (Tl.setTop (mkF m 31 #[.val (.ref b), .val (.int (Int32.ofNat (o + i))), .val (.ref d), .val (.int (Int32.ofNat (q + i))), .val (.int (Int32.ofNat len)), .val (.int (Int32.ofNat i)), .val (.int (cv A (o + i)))] [.int (lo8 (cv A (o + i))), .int (Int32.ofNat (q + i)), .ref d])) := c5.trans (by
        refine XS.iload Xl.here hexec rfl (hb hbytes d15) rfl ?_
        refine sipushV Xl.here hexec rfl 255 (hb hbytes d17) (by decide) ?_
        refine XS.icmpYes Xl.here hexec rfl (pc0 := 20) rfl (hb hbytes d20) rfl (ii_le_t (hp i (by omega))) (by decide) rfl ?_
        refine XS.aloadN Xl.here hexec rfl (hb hbytes d26) rfl rfl ?_
        refine XS.iloadN Xl.here hexec rfl (hb hbytes d27) rfl ?_
        refine XS.iload Xl.here hexec rfl (hb hbytes d28) rfl ?_
        refine i2b Xl.here hexec rfl (hb hbytes d30) rfl ?_
        exact Steps.refl _)
      obtain ⟨T7, X7, p7, st7⟩ := Xl.aput hexec hBk rfl hlt rfl (fits_lo8 (cv A (o + i))) (g := (mkF m 31 #[.val (.ref b), .val (.int (Int32.ofNat (o + i))), .val (.ref d), .val (.int (Int32.ofNat (q + i))), .val (.int (Int32.ofNat len)), .val (.int (Int32.ofNat i)), .val (.int (cv A (o + i)))] [.int (lo8 (cv A (o + i))), .int (Int32.ofNat (q + i)), .ref d])) rfl (rest := []) rfl (hb hbytes d31)
      have c8 : Steps p.tables e below (s₁.setTop (entryFrame m #[.ref b, .int (Int32.ofNat o), .ref d, .int (Int32.ofNat q), .int (Int32.ofNat len)] 7)) (T7.setTop (mkF m 32 #[.val (.ref b), .val (.int (Int32.ofNat (o + i))), .val (.ref d), .val (.int (Int32.ofNat (q + i))), .val (.int (Int32.ofNat len)), .val (.int (Int32.ofNat i)), .val (.int (cv A (o + i)))] [])) := c6.trans (st7 _ (Steps.refl _))
      have c9 : Steps p.tables e below (s₁.setTop (entryFrame m #[.ref b, .int (Int32.ofNat o), .ref d, .int (Int32.ofNat q), .int (Int32.ofNat len)] 7)) (T7.setTop (mkF m 3 #[.val (.ref b), .val (.int (Int32.ofNat (o + i) + 1)), .val (.ref d), .val (.int (Int32.ofNat (q + i) + 1)), .val (.int (Int32.ofNat len)), .val (.int (Int32.ofNat i + 1)), .val (.int (cv A (o + i)))] [])) := c8.trans (by
        refine iincV X7.here hexec rfl 1 (hb hbytes d32) (by decide) rfl rfl ?_
        refine iincV X7.here hexec rfl 1 (hb hbytes d35) (by decide) rfl rfl ?_
        refine iincV X7.here hexec rfl 1 (hb hbytes d38) (by decide) rfl rfl ?_
        refine XS.goto X7.here hexec rfl (pc0 := 41) rfl (hb hbytes d41) (by decide) rfl ?_
        exact Steps.refl _)
      have c10 : Steps p.tables e below (s₁.setTop (entryFrame m #[.ref b, .int (Int32.ofNat o), .ref d, .int (Int32.ofNat q), .int (Int32.ofNat len)] 7)) (T7.setTop (mkF m 3 #[.val (.ref b), .val (.int (Int32.ofNat (o + (i + 1)))), .val (.ref d), .val (.int (Int32.ofNat (q + (i + 1)))), .val (.int (Int32.ofNat len)), .val (.int (Int32.ofNat (i + 1))), .val (.int (cv A (o + i)))] [])) := by
        have := c9
        rw [succ32, succ32, succ32] at this
        exact this
      exact ih (i + 1) (by omega) _ (Or.inr ⟨_, rfl, rfl⟩) T7 _ (by rw [copyLocs_step, ← List.append_assoc]; exact X7) (pl.trans p7) (fl.step (by omega) hlt (by simp)) c10
  obtain ⟨T9, B9, z9, X9, p9, f9, g9⟩ := loop len 0 (by omega) .unset (Or.inl rfl) s₁ B (by simpa [copyLocs] using X0) ⟨hB0.1, fun _ _ => rfl, rfl⟩ (Laid.zero _ _ _) c2
  have c11 : Steps p.tables e below (s₁.setTop (entryFrame m #[.ref b, .int (Int32.ofNat o), .ref d, .int (Int32.ofNat q), .int (Int32.ofNat len)] 7)) (T9.setTop (mkF m 46 #[.val (.ref b), .val (.int (Int32.ofNat (o + len))), .val (.ref d), .val (.int (Int32.ofNat (q + len))), .val (.int (Int32.ofNat len)), .val (.int (Int32.ofNat len)), z9] [.int (Int32.ofNat len)])) := g9.trans (by
    refine XS.iload X9.here hexec rfl (hb hbytes d3) rfl ?_
    refine XS.iload X9.here hexec rfl (hb hbytes d5) rfl ?_
    refine XS.icmpYes X9.here hexec rfl (pc0 := 7) rfl (hb hbytes d7) rfl (ii_ge_t (nlt32 (by omega) (Nat.le_refl _))) (by decide) rfl ?_
    refine XS.iload X9.here hexec rfl (hb hbytes d44) rfl ?_
    exact Steps.refl _)
  exact ⟨T9, some (.int (Int32.ofNat len)), _, _, _, X9, by simp, rfl, rfl, (fun h => by cases h), ⟨rfl, B9, p9.from hh0, f9⟩, fun fs hl => c11.trans (X9.ireturnOut hexec hret rfl (Or.inl rfl) (hb hbytes d46) hl)⟩
end Cmp5
namespace Cmp3
def yN : MethodName := ⟨"java/lang/StringUTF16", "compress", "([CII)[B"⟩
abbrev yB : ByteArray := jdk_52_method_16_code
theorem d0 : decode yB 0 = .ok (.iload_n 2, 1) := by decide +kernel
theorem d1 : decode yB 1 = .ok (.newarray .byte, 2) := by decide +kernel
theorem d3 : decode yB 3 = .ok (.astore_n 3, 1) := by decide +kernel
theorem d4 : decode yB 4 = .ok (.aload_n 0, 1) := by decide +kernel
theorem d5 : decode yB 5 = .ok (.iload_n 1, 1) := by decide +kernel
theorem d6 : decode yB 6 = .ok (.aload_n 3, 1) := by decide +kernel
theorem d7 : decode yB 7 = .ok (.iconst 0, 1) := by decide +kernel
theorem d8 : decode yB 8 = .ok (.iload_n 2, 1) := by decide +kernel
theorem d9 : decode yB 9 = .ok (.invokestatic 115, 3) := by decide +kernel
theorem d12 : decode yB 12 = .ok (.istore 4, 2) := by decide +kernel
theorem d14 : decode yB 14 = .ok (.iload 4, 2) := by decide +kernel
theorem d16 : decode yB 16 = .ok (.iload_n 2, 1) := by decide +kernel
theorem d17 : decode yB 17 = .ok (.if_icmp (.eq) 40, 3) := by decide +kernel
theorem d57 : decode yB 57 = .ok (.aload_n 3, 1) := by decide +kernel
theorem d58 : decode yB 58 = .ok (.areturn, 1) := by decide +kernel
def site : List Cond := [.arrayClass .byte, Cmp5.tab] ++ staticW U16 115 Cmp5.yN
def tab : Cond := tabOf yN yB 6 (some (.array .byte)) site
def P (b : Addr) (A : Cell) (o len : Nat) (args : Array Value) (s : State) : Prop := args = #[.ref b, .int (Int32.ofNat o), .int (Int32.ofNat len)] ∧ Ch b A s ∧ o + len ≤ A.slots.size ∧ len ≤ 536870912 ∧ ∀ i, i < len → ¬ 255 < cv A (o + i)
def E (b : Addr) (A : Cell) (o len : Nat) (r : Option Value) (s u : State) : Prop := NewArr .byte "[B" len (fun j => .int (lo8 (cv A (o + j)))) r s u ∧ u.heap.size = s.heap.size + 1
/-- no char of the range above 255: a new byte[] of their low bytes -/
theorem law (l : Launch) (b : Addr) (A : Cell) (o len : Nat) : Law l yN 3 3 1 18 yB 6 (some (.array .byte)) site (P b A o len) (E b A o len) [] 1 len := by
  refine Law.of_walk (plainFor_of_name (by decide +kernel)) (by decide +kernel) (by decide +kernel) (by decide) (fun _ _ h => by rw [h.1]; rfl) (fun _ U U' hal hh h => ⟨h.1, h.2.1.mv hal hh, h.2.2⟩) (fun r U U' V V' h1 hal h2 h => ⟨NewArr.mv r U U' V V' h1 hal h2 h.1, by rw [h1, h2]; exact h.2⟩) ?_
  intro p e s m args below meth c s₁ X0 hexec hbytes hml hret hlk hnm hown hh0 W hP
  obtain ⟨rfl, hA, l1, l2, hp⟩ := hP
  have a31 := hA.1.2.2.2
  have c1 : Steps p.tables e below (s₁.setTop (entryFrame m #[.ref b, .int (Int32.ofNat o), .int (Int32.ofNat len)] 6)) (s₁.setTop (mkF m 0 #[.val (.ref b), .val (.int (Int32.ofNat o)), .val (.int (Int32.ofNat len)), .unset, .unset, .unset] [])) := entry rfl
  have c2 : Steps p.tables e below (s₁.setTop (entryFrame m #[.ref b, .int (Int32.ofNat o), .int (Int32.ofNat len)] 6)) (s₁.setTop (mkF m 1 #[.val (.ref b), .val (.int (Int32.ofNat o)), .val (.int (Int32.ofNat len)), .unset, .unset, .unset] [.int (Int32.ofNat len)])) := c1.trans (by
    refine XS.iloadN X0.here hexec rfl (hb hbytes d0) rfl ?_
    exact Steps.refl _)
  obtain ⟨T3, B3, X3, ba3, bs3, bv3, bh3, bf3, st3⟩ := X0.anew hexec (atype := .byte) (wk W (.arrayClass .byte)) rfl (by show len * 1 ≤ _; omega) (by omega) (g := (mkF m 1 #[.val (.ref b), .val (.int (Int32.ofNat o)), .val (.int (Int32.ofNat len)), .unset, .unset, .unset] [.int (Int32.ofNat len)])) rfl (hb hbytes d1) (rest := []) rfl (Nat.le_refl _) (by show 0 + len ≤ len; omega)
  rw [hh0] at ba3 st3
  have kp3 : XT.Kept s T3 := (XT.Kept.of_eq hh0).push bh3
  have hA3 := hA.keep X3.warmed.alike (kp3 _ _ hA.1.1)
  have hne : b ≠ s.heap.size := hA.1.ne
  have c4 : Steps p.tables e below (s₁.setTop (entryFrame m #[.ref b, .int (Int32.ofNat o), .int (Int32.ofNat len)] 6)) (T3.setTop (mkF m 3 #[.val (.ref b), .val (.int (Int32.ofNat o)), .val (.int (Int32.ofNat len)), .unset, .unset, .unset] [.ref s.heap.size])) := c2.trans (st3 _ (Steps.refl _))
  have c5 : Steps p.tables e below (s₁.setTop (entryFrame m #[.ref b, .int (Int32.ofNat o), .int (Int32.ofNat len)] 6)) (T3.setTop (mkF m 9 #[.val (.ref b), .val (.int (Int32.ofNat o)), .val (.int (Int32.ofNat len)), .val (.ref s.heap.size), .unset, .unset] [.int (Int32.ofNat len), .int 0, .ref s.heap.size, .int (Int32.ofNat o), .ref b])) := c4.trans (by
    refine XS.astoreN X3.here hexec rfl (hb hbytes d3) rfl rfl rfl ?_
    refine XS.aloadN X3.here hexec rfl (hb hbytes d4) rfl rfl ?_
    refine XS.iloadN X3.here hexec rfl (hb hbytes d5) rfl ?_
    refine XS.aloadN X3.here hexec rfl (hb hbytes d6) rfl rfl ?_
    refine iconstV X3.here hexec rfl 0 (hb hbytes d7) (by decide) ?_
    refine XS.iloadN X3.here hexec rfl (hb hbytes d8) rfl ?_
    exact Steps.refl _)
  obtain ⟨v6, T6, X6, E6, g6⟩ := X3.callS hexec (Cmp5.law l b A s.heap.size B3 o 0 len) hown (wks W (staticW U16 115 Cmp5.yN)) (wk W Cmp5.tab) (W := 0) (Nat.le_of_ble_eq_true rfl) (Nat.le_of_ble_eq_true rfl) (Nat.le_refl _) (by show 0 + len + 0 ≤ len; omega) (g := (mkF m 9 #[.val (.ref b), .val (.int (Int32.ofNat o)), .val (.int (Int32.ofNat len)), .val (.ref s.heap.size), .unset, .unset] [.int (Int32.ofNat len), .int (Int32.ofNat 0), .ref s.heap.size, .int (Int32.ofNat o), .ref b])) rfl (by rw [hml]; rfl) c5 (argsL := [.ref b, .int (Int32.ofNat o), .ref s.heap.size, .int (Int32.ofNat 0), .int (Int32.ofNat len)]) (rest := []) rfl rfl (by show 2 * 0 + 0 ≤ _; decide) (hb hbytes d9) (⟨rfl, hA3, ba3, hne, l1, by rw [bs3]; simp, hp⟩)
  obtain ⟨rfl, B6, p6, f6⟩ := E6
  have c7 : Steps p.tables e below (s₁.setTop (entryFrame m #[.ref b, .int (Int32.ofNat o), .int (Int32.ofNat len)] 6)) (T6.setTop (mkF m 12 #[.val (.ref b), .val (.int (Int32.ofNat o)), .val (.int (Int32.ofNat len)), .val (.ref s.heap.size), .unset, .unset] [.int (Int32.ofNat len)])) := g6
  have c8 : Steps p.tables e below (s₁.setTop (entryFrame m #[.ref b, .int (Int32.ofNat o), .int (Int32.ofNat len)] 6)) (T6.setTop (mkF m 58 #[.val (.ref b), .val (.int (Int32.ofNat o)), .val (.int (Int32.ofNat len)), .val (.ref s.heap.size), .val (.int (Int32.ofNat len)), .unset] [.ref s.heap.size])) := c7.trans (by
    refine XS.istore X6.here hexec rfl (hb hbytes d12) rfl rfl ?_
    refine XS.iload X6.here hexec rfl (hb hbytes d14) rfl ?_
    refine XS.iloadN X6.here hexec rfl (hb hbytes d16) rfl ?_
    refine XS.icmpYes X6.here hexec rfl (pc0 := 17) rfl (hb hbytes d17) rfl (ii_eq_t rfl) (by decide) rfl ?_
    refine XS.aloadN X6.here hexec rfl (hb hbytes d57) rfl rfl ?_
    exact Steps.refl _)
  have X8 := X6.wide (L' := []) (cells' := 1) (slots' := len) (fun x hx hlt => by
    simp only [List.nil_append, copyLocs, List.mem_map, List.mem_range] at hx
    obtain ⟨i, -, rfl⟩ := hx
    exact absurd hlt (Nat.lt_irrefl _)) (Nat.le_refl _) (by omega)
  exact ⟨T6, some (.ref s.heap.size), _, _, _, X8, rfl, rfl, rfl, (fun h => by cases h), ⟨⟨rfl, B6, ba3.like (X3.warmed.alike.symm.trans X6.warmed.alike) p6.1 f6.1 f6.2.1 f6.2.2.1, f6.2.1.trans bv3, by rw [X6.warmed.alike.findClass, f6.1]; exact bf3, by rw [f6.2.2.1, bs3]; simp, fun j hj => by rw [f6.2.2.2 j, if_pos (by omega)]; rfl, kp3.put p6 (Nat.le_refl _)⟩, by rw [p6.2.2, bh3, hh0]; simp⟩, fun fs hl => c8.trans (X8.areturnOut hexec rfl hret rfl (hb hbytes d58) hl)⟩
end Cmp3
namespace CodL
def yN : MethodName := ⟨"java/lang/StringUTF16", "coderFromArrayLen", "([BI)B"⟩
abbrev yB : ByteArray := jdk_52_method_15_code
theorem d0 : decode yB 0 = .ok (.iload_n 1, 1) := by decide +kernel
theorem d1 : decode yB 1 = .ok (.aload_n 0, 1) := by decide +kernel
theorem d2 : decode yB 2 = .ok (.arraylength, 1) := by decide +kernel
theorem d3 : decode yB 3 = .ok (.isub, 1) := by decide +kernel
theorem d4 : decode yB 4 = .ok (.bipush 31, 2) := by decide +kernel
theorem d6 : decode yB 6 = .ok (.iushr, 1) := by decide +kernel
theorem d7 : decode yB 7 = .ok (.i2b, 1) := by decide +kernel
theorem d8 : decode yB 8 = .ok (.ireturn, 1) := by decide +kernel
def site : List Cond := []
def tab : Cond := tabOf yN yB 2 (some .byte) site
def P (d : Addr) (B : Cell) (args : Array Value) (s : State) : Prop := args = #[.ref d, .int (Int32.ofNat B.slots.size)] ∧ Arr .byte d B s
def E (r : Option Value) (s u : State) : Prop := XT.PureE (some (.int 0)) r s u
/-- an array as long as the number of chars: LATIN1 -/
theorem law (l : Launch) (d : Addr) (B : Cell) : Law l yN 2 2 0 0 yB 2 (some .byte) site (P d B) E [] 0 0 := by
  refine Law.of_walk (plainFor_of_name (by decide +kernel)) (by decide +kernel) (by decide +kernel) (by decide) (fun _ _ h => by rw [h.1]; rfl) (fun _ U U' hal hh h => ⟨h.1, h.2.mv hal hh⟩) (fun r U U' V V' h1 hal h2 h => XT.PureE.mv r U U' V V' h1 hal h2 h) ?_
  intro p e s m args below meth c s₁ X0 hexec hbytes hml hret hlk hnm hown hh0 W hP
  obtain ⟨rfl, hB⟩ := hP
  have hB0 := hB.mv X0.warmed.alike hh0
  have c1 : Steps p.tables e below (s₁.setTop (entryFrame m #[.ref d, .int (Int32.ofNat B.slots.size)] 2)) (s₁.setTop (mkF m 0 #[.val (.ref d), .val (.int (Int32.ofNat B.slots.size))] [])) := entry rfl
  have c2 : Steps p.tables e below (s₁.setTop (entryFrame m #[.ref d, .int (Int32.ofNat B.slots.size)] 2)) (s₁.setTop (mkF m 2 #[.val (.ref d), .val (.int (Int32.ofNat B.slots.size))] [.ref d, .int (Int32.ofNat B.slots.size)])) := c1.trans (by
    refine XS.iloadN X0.here hexec rfl (hb hbytes d0) rfl ?_
    refine XS.aloadN X0.here hexec rfl (hb hbytes d1) rfl rfl ?_
    exact Steps.refl _)
  have c3 : Steps p.tables e below (s₁.setTop (entryFrame m #[.ref d, .int (Int32.ofNat B.slots.size)] 2)) (s₁.setTop (mkF m 8 #[.val (.ref d), .val (.int (Int32.ofNat B.slots.size))] [.int (lo8 (ushr (Int32.ofNat B.slots.size - Int32.ofNat B.slots.size) 31))])) := c2.trans (by
    refine X0.alen hexec hB0 rfl rfl (hb hbytes d2) ?_
    refine XS.isub X0.here hexec rfl (hb hbytes d3) rfl ?_
    refine bipushV X0.here hexec rfl 31 (hb hbytes d4) (by decide) ?_
    refine iushr X0.here hexec rfl (hb hbytes d6) rfl ?_
    refine i2b X0.here hexec rfl (hb hbytes d7) rfl ?_
    exact Steps.refl _)
  have e0 : lo8 (ushr (Int32.ofNat B.slots.size - Int32.ofNat B.slots.size) 31) = 0 := by rw [Int32.sub_self]; decide
  rw [e0] at c3
  exact ⟨s₁, some (.int 0), _, _, _, X0, rfl, rfl, rfl, (fun h => by cases h), ⟨rfl, hh0⟩, fun fs hl => c3.trans (X0.ireturnOut hexec hret rfl (Or.inr (Or.inr (Or.inl rfl))) (hb hbytes d8) hl)⟩
end CodL
/-- the String at a is Latin-1 over a new byte[] (the heap's one new cell): the low bytes of the len chars of A from o on; every cell but a is kept -/
def Got (a : Addr) (D : Cell) (fV fC : Field) (A : Cell) (o len : Nat) (r : Option Value) (s u : State) : Prop := r = none ∧ ∃ D' V : Cell, Blank "java/lang/String" a D' u ∧ Same D D' [fV.slot, fC.slot] ∧ D'.slots[fV.slot]? = some (.ref s.heap.size) ∧ D'.slots[fC.slot]? = some (.int 0) ∧ Arr .byte s.heap.size V u ∧ V.vm = .none ∧ u.vm.findClass "[B" = some V.cls ∧ V.slots.size = len ∧ (∀ j, j < len → V.slots[j]? = some (.int (lo8 (cv A (o + j))))) ∧ (∀ (y : Addr) (c : Cell), y ≠ a → s.heap[y]? = some c → u.heap[y]? = some c) ∧ u.heap.size = s.heap.size + 1
theorem Got.mv {a : Addr} {D A : Cell} {fV fC : Field} {o len : Nat} : ∀ r (U U' V V' : State), U'.heap = U.heap → V.vm.Alike V'.vm → V'.heap = V.heap → Got a D fV fC A o len r U V → Got a D fV fC A o len r U' V' :=
  fun r U U' V V' h1 hal h2 ⟨e0, D', X, a1, a2, a3, a4, a5, a6, a7, a8, a9, a10, a11⟩ => ⟨e0, D', X, a1.mv hal h2, a2, by rw [h1]; exact a3, a4, by rw [h1]; exact a5.mv hal h2, a6, by rw [hal.findClass]; exact a7, a8, a9, by rw [h1, h2]; exact a10, by rw [h1, h2]; exact a11⟩
namespace New4
def yN : MethodName := ⟨"java/lang/String", "<init>", "([CIILjava/lang/Void;)V"⟩
abbrev yB : ByteArray := jdk_42_method_149_code
theorem d0 : decode yB 0 = .ok (.aload_n 0, 1) := by decide +kernel
theorem d1 : decode yB 1 = .ok (.invokespecial 1, 3) := by decide +kernel
theorem d4 : decode yB 4 = .ok (.iload_n 3, 1) := by decide +kernel
theorem d5 : decode yB 5 = .ok (.ifCond (.ne) 22, 3) := by decide +kernel
theorem d27 : decode yB 27 = .ok (.getstatic 38, 3) := by decide +kernel
theorem d30 : decode yB 30 = .ok (.ifCond (.eq) 28, 3) := by decide +kernel
theorem d33 : decode yB 33 = .ok (.aload_n 1, 1) := by decide +kernel
theorem d34 : decode yB 34 = .ok (.iload_n 2, 1) := by decide +kernel
theorem d35 : decode yB 35 = .ok (.iload_n 3, 1) := by decide +kernel
theorem d36 : decode yB 36 = .ok (.invokestatic 177, 3) := by decide +kernel
theorem d39 : decode yB 39 = .ok (.astore 5, 2) := by decide +kernel
theorem d41 : decode yB 41 = .ok (.aload_n 0, 1) := by decide +kernel
theorem d42 : decode yB 42 = .ok (.aload 5, 2) := by decide +kernel
theorem d44 : decode yB 44 = .ok (.iload_n 3, 1) := by decide +kernel
theorem d45 : decode yB 45 = .ok (.invokestatic 47, 3) := by decide +kernel
theorem d48 : decode yB 48 = .ok (.putfield 15, 3) := by decide +kernel
theorem d51 : decode yB 51 = .ok (.aload_n 0, 1) := by decide +kernel
theorem d52 : decode yB 52 = .ok (.aload 5, 2) := by decide +kernel
theorem d54 : decode yB 54 = .ok (.putfield 9, 3) := by decide +kernel
theorem d57 : decode yB 57 = .ok (.return_, 1) := by decide +kernel
def site : List Cond := [.fieldLink "java/lang/String" 38 "java/lang/String" "COMPACT_STRINGS" "Z", Cmp3.tab, CodL.tab, .laysFinal "java/lang/String" "java/lang/String" "value" "[B", .fieldLink "java/lang/String" 9 "java/lang/String" "value" "[B", .laysFinal "java/lang/String" "java/lang/String" "coder" "B", .fieldLink "java/lang/String" 15 "java/lang/String" "coder" "B"] ++ objW "java/lang/String" 1 ++ staticW "java/lang/String" 177 Cmp3.yN ++ staticW "java/lang/String" 47 CodL.yN
def tab : Cond := tabOf yN yB 6 none site
def P (a : Addr) (D : Cell) (fV fC : Field) (b : Addr) (A : Cell) (z : Int32) (o len : Nat) (args : Array Value) (s : State) : Prop := args = #[.ref a, .ref b, .int (Int32.ofNat o), .int (Int32.ofNat len), .null] ∧ Blank "java/lang/String" a D s ∧ Found "java/lang/String" "value" "[B" fV s ∧ Found "java/lang/String" "coder" "B" fC s ∧ Ch b A s ∧ StaticIs s "java/lang/String" "COMPACT_STRINGS" "Z" (.int z) ∧ ¬ z = 0 ∧ 0 < len ∧ o + len ≤ A.slots.size ∧ len ≤ 536870912 ∧ ∀ i, i < len → ¬ 255 < cv A (o + i)
def E (a : Addr) (D : Cell) (fV fC : Field) (A : Cell) (o len : Nat) (r : Option Value) (s u : State) : Prop := Got a D fV fC A o len r s u
/-- len > 0, no char of the range above 255: a Latin-1 String of their low bytes -/
theorem law (l : Launch) (a : Addr) (D : Cell) (fV fC : Field) (b : Addr) (A : Cell) (z : Int32) (o len : Nat) : Law l yN 5 4 2 35 yB 6 none site (P a D fV fC b A z o len) (E a D fV fC A o len) [⟨a, fC.slot⟩, ⟨a, fV.slot⟩] 1 len := by
  refine Law.of_walk (plainFor_of_name (by decide +kernel)) (by decide +kernel) (by decide +kernel) (by decide) (fun _ _ h => by rw [h.1]; rfl) (fun _ U U' hal hh h => ⟨h.1, h.2.1.mv hal hh, h.2.2.1.al hal, h.2.2.2.1.al hal, h.2.2.2.2.1.mv hal hh, h.2.2.2.2.2.1.there hal hh, h.2.2.2.2.2.2⟩) (fun r U U' V V' h1 hal h2 h => Got.mv r U U' V V' h1 hal h2 h) ?_
  intro p e s m args below meth c s₁ X0 hexec hbytes hml hret hlk hnm hown hh0 W hP
  obtain ⟨rfl, hB, f1, f2, hA, s1, hz, l0, l1, l2, hp⟩ := hP
  have a31 := hA.1.2.2.2
  have c1 : Steps p.tables e below (s₁.setTop (entryFrame m #[.ref a, .ref b, .int (Int32.ofNat o), .int (Int32.ofNat len), .null] 6)) (s₁.setTop (mkF m 0 #[.val (.ref a), .val (.ref b), .val (.int (Int32.ofNat o)), .val (.int (Int32.ofNat len)), .val .null, .unset] [])) := entry rfl
  have c2 : Steps p.tables e below (s₁.setTop (entryFrame m #[.ref a, .ref b, .int (Int32.ofNat o), .int (Int32.ofNat len), .null] 6)) (s₁.setTop (mkF m 1 #[.val (.ref a), .val (.ref b), .val (.int (Int32.ofNat o)), .val (.int (Int32.ofNat len)), .val .null, .unset] [.ref a])) := c1.trans (by
    refine XS.aloadN X0.here hexec rfl (hb hbytes d0) rfl rfl ?_
    exact Steps.refl _)
  obtain ⟨T3, X3, q3, st3⟩ := X0.oinit hexec hown (wks W (objW "java/lang/String" 1)) (g := (mkF m 1 #[.val (.ref a), .val (.ref b), .val (.int (Int32.ofNat o)), .val (.int (Int32.ofNat len)), .val .null, .unset] [.ref a])) rfl (by rw [hml]; rfl) (rest := []) rfl (hb hbytes d1) (W := 0) (by show 2 * 0 + 0 ≤ _; decide) (Nat.le_of_ble_eq_true rfl) (Nat.le_of_ble_eq_true rfl)
  have hh3 := q3.trans hh0
  have c4 : Steps p.tables e below (s₁.setTop (entryFrame m #[.ref a, .ref b, .int (Int32.ofNat o), .int (Int32.ofNat len), .null] 6)) (T3.setTop (mkF m 27 #[.val (.ref a), .val (.ref b), .val (.int (Int32.ofNat o)), .val (.int (Int32.ofNat len)), .val .null, .unset] [])) := (c2.trans (st3 _ (Steps.refl _))).trans (by
    refine XS.iloadN X3.here hexec rfl (hb hbytes d4) rfl ?_
    refine XS.ifYes X3.here hexec rfl (pc0 := 5) rfl (hb hbytes d5) rfl (i0_ne_t (nz32 (by omega) l0)) (by decide) rfl ?_
    exact Steps.refl _)
  obtain ⟨T5, X5, q5, st5⟩ := X3.sget hexec hown (wk W (.fieldLink "java/lang/String" 38 "java/lang/String" "COMPACT_STRINGS" "Z")) s1 (fun _ _ h => by rw [hh3]; exact h) (g := (mkF m 27 #[.val (.ref a), .val (.ref b), .val (.int (Int32.ofNat o)), .val (.int (Int32.ofNat len)), .val .null, .unset] [])) rfl (hb hbytes d27)
  have hh5 := q5.trans hh3
  have c6 : Steps p.tables e below (s₁.setTop (entryFrame m #[.ref a, .ref b, .int (Int32.ofNat o), .int (Int32.ofNat len), .null] 6)) (T5.setTop (mkF m 30 #[.val (.ref a), .val (.ref b), .val (.int (Int32.ofNat o)), .val (.int (Int32.ofNat len)), .val .null, .unset] [.int z])) := c4.trans (st5 _ (Steps.refl _))
  have c7 : Steps p.tables e below (s₁.setTop (entryFrame m #[.ref a, .ref b, .int (Int32.ofNat o), .int (Int32.ofNat len), .null] 6)) (T5.setTop (mkF m 36 #[.val (.ref a), .val (.ref b), .val (.int (Int32.ofNat o)), .val (.int (Int32.ofNat len)), .val .null, .unset] [.int (Int32.ofNat len), .int (Int32.ofNat o), .ref b])) := c6.trans (by
    refine XS.ifNo X5.here hexec rfl (hb hbytes d30) rfl (i0_eq_f hz) ?_
    refine XS.aloadN X5.here hexec rfl (hb hbytes d33) rfl rfl ?_
    refine XS.iloadN X5.here hexec rfl (hb hbytes d34) rfl ?_
    refine XS.iloadN X5.here hexec rfl (hb hbytes d35) rfl ?_
    exact Steps.refl _)
  obtain ⟨v8, T8, X8, E8, g8⟩ := X5.callS hexec (Cmp3.law l b A o len) hown (wks W (staticW "java/lang/String" 177 Cmp3.yN)) (wk W Cmp3.tab) (W := 0) (Nat.le_of_ble_eq_true rfl) (Nat.le_of_ble_eq_true rfl) (Nat.le_refl _) (by show 0 + len ≤ len; omega) (g := (mkF m 36 #[.val (.ref a), .val (.ref b), .val (.int (Int32.ofNat o)), .val (.int (Int32.ofNat len)), .val .null, .unset] [.int (Int32.ofNat len), .int (Int32.ofNat o), .ref b])) rfl (by rw [hml]; rfl) c7 (argsL := [.ref b, .int (Int32.ofNat o), .int (Int32.ofNat len)]) (rest := []) rfl rfl (by show 2 * 0 + 0 ≤ _; decide) (hb hbytes d36) (⟨rfl, hA.mv X5.warmed.alike hh5, l1, l2, hp⟩)
  obtain ⟨e8, z8⟩ := E8
  obtain ⟨rfl, N, n1, n2, n3, n4, n5, n6⟩ := NewArr.mv _ T5 s _ _ hh5.symm (Vm.Alike.refl _) rfl e8
  rw [hh5] at z8
  have hB1 := hB.keep X8.warmed.alike (n6 _ _ hB.1)
  have hne : s.heap.size ≠ a := (Nat.ne_of_lt (Array.getElem?_eq_some_iff.mp hB.1).1).symm
  have c9 : Steps p.tables e below (s₁.setTop (entryFrame m #[.ref a, .ref b, .int (Int32.ofNat o), .int (Int32.ofNat len), .null] 6)) (T8.setTop (mkF m 39 #[.val (.ref a), .val (.ref b), .val (.int (Int32.ofNat o)), .val (.int (Int32.ofNat len)), .val .null, .unset] [.ref s.heap.size])) := g8
  have c10 : Steps p.tables e below (s₁.setTop (entryFrame m #[.ref a, .ref b, .int (Int32.ofNat o), .int (Int32.ofNat len), .null] 6)) (T8.setTop (mkF m 45 #[.val (.ref a), .val (.ref b), .val (.int (Int32.ofNat o)), .val (.int (Int32.ofNat len)), .val .null, .val (.ref s.heap.size)] [.int (Int32.ofNat N.slots.size), .ref s.heap.size, .ref a])) := by
    have hc : Steps p.tables e below (s₁.setTop (entryFrame m #[.ref a, .ref b, .int (Int32.ofNat o), .int (Int32.ofNat len), .null] 6)) (T8.setTop (mkF m 45 #[.val (.ref a), .val (.ref b), .val (.int (Int32.ofNat o)), .val (.int (Int32.ofNat len)), .val .null, .val (.ref s.heap.size)] [.int (Int32.ofNat len), .ref s.heap.size, .ref a])) := c9.trans (by
      refine XS.astore X8.here hexec rfl (hb hbytes d39) rfl rfl rfl ?_
      refine XS.aloadN X8.here hexec rfl (hb hbytes d41) rfl rfl ?_
      refine XS.aload X8.here hexec rfl (hb hbytes d42) rfl rfl ?_
      refine XS.iloadN X8.here hexec rfl (hb hbytes d44) rfl ?_
      exact Steps.refl _)
    rw [n4]; exact hc
  obtain ⟨v11, T11, X11, E11, g11⟩ := X8.callS hexec (CodL.law l s.heap.size N) hown (wks W (staticW "java/lang/String" 47 CodL.yN)) (wk W CodL.tab) (W := 1) (Nat.le_of_ble_eq_true rfl) (Nat.le_of_ble_eq_true rfl) (Nat.le_refl _) (by show 0 + len + 0 ≤ len; omega) (g := (mkF m 45 #[.val (.ref a), .val (.ref b), .val (.int (Int32.ofNat o)), .val (.int (Int32.ofNat len)), .val .null, .val (.ref s.heap.size)] [.int (Int32.ofNat N.slots.size), .ref s.heap.size, .ref a])) rfl (by rw [hml]; rfl) c10 (argsL := [.ref s.heap.size, .int (Int32.ofNat N.slots.size)]) (rest := [.ref a]) rfl rfl (by show 2 * 0 + (1 + 0) ≤ _; decide) (hb hbytes d45) (⟨rfl, n1⟩)
  obtain ⟨rfl, q11⟩ := E11
  have hB11 := hB1.mv (X8.warmed.alike.symm.trans X11.warmed.alike) q11
  have c12 : Steps p.tables e below (s₁.setTop (entryFrame m #[.ref a, .ref b, .int (Int32.ofNat o), .int (Int32.ofNat len), .null] 6)) (T11.setTop (mkF m 48 #[.val (.ref a), .val (.ref b), .val (.int (Int32.ofNat o)), .val (.int (Int32.ofNat len)), .val .null, .val (.ref s.heap.size)] [.int 0, .ref a])) := g11
  obtain ⟨T13, X13, p13, bl13, sl13, st13⟩ := X11.finit hexec hown (wk W (.fieldLink "java/lang/String" 15 "java/lang/String" "coder" "B")) (Or.inr ⟨_, (wk W (.laysFinal "java/lang/String" "java/lang/String" "coder" "B"))⟩) (Or.inl ⟨rfl, hnm⟩) f2 (Or.inl rfl) hB11 (t := .byte) (by decide +kernel) rfl (g := (mkF m 48 #[.val (.ref a), .val (.ref b), .val (.int (Int32.ofNat o)), .val (.int (Int32.ofNat len)), .val .null, .val (.ref s.heap.size)] [.int 0, .ref a])) rfl (rest := []) rfl (hb hbytes d48)
  have c14 : Steps p.tables e below (s₁.setTop (entryFrame m #[.ref a, .ref b, .int (Int32.ofNat o), .int (Int32.ofNat len), .null] 6)) (T13.setTop (mkF m 54 #[.val (.ref a), .val (.ref b), .val (.int (Int32.ofNat o)), .val (.int (Int32.ofNat len)), .val .null, .val (.ref s.heap.size)] [.ref s.heap.size, .ref a])) := (c12.trans (st13 _ (Steps.refl _))).trans (by
    refine XS.aloadN X13.here hexec rfl (hb hbytes d51) rfl rfl ?_
    refine XS.aload X13.here hexec rfl (hb hbytes d52) rfl rfl ?_
    exact Steps.refl _)
  obtain ⟨T15, X15, p15, bl15, sl15, st15⟩ := X13.finit hexec hown (wk W (.fieldLink "java/lang/String" 9 "java/lang/String" "value" "[B")) (Or.inr ⟨_, (wk W (.laysFinal "java/lang/String" "java/lang/String" "value" "[B"))⟩) (Or.inl ⟨rfl, hnm⟩) f1 (Or.inl rfl) bl13 (t := (.array .byte)) (by decide +kernel) rfl (g := (mkF m 54 #[.val (.ref a), .val (.ref b), .val (.int (Int32.ofNat o)), .val (.int (Int32.ofNat len)), .val .null, .val (.ref s.heap.size)] [.ref s.heap.size, .ref a])) rfl (rest := []) rfl (hb hbytes d54)
  have c16 : Steps p.tables e below (s₁.setTop (entryFrame m #[.ref a, .ref b, .int (Int32.ofNat o), .int (Int32.ofNat len), .null] 6)) (T15.setTop (mkF m 57 #[.val (.ref a), .val (.ref b), .val (.int (Int32.ofNat o)), .val (.int (Int32.ofNat len)), .val .null, .val (.ref s.heap.size)] [])) := c14.trans (st15 _ (Steps.refl _))
  have ap := apart (Or.inr ⟨_, (wk W (.laysFinal "java/lang/String" "java/lang/String" "value" "[B"))⟩) (Or.inr ⟨_, (wk W (.laysFinal "java/lang/String" "java/lang/String" "coder" "B"))⟩) f1 f2 (t₁ := .array .byte) (t₂ := .byte) (by decide +kernel) (by decide +kernel) (by decide)
  have al := X8.warmed.alike.symm.trans X15.warmed.alike
  have n7 : T11.heap[s.heap.size]? = some N := by rw [q11]; exact n1.1
  exact ⟨T15, none, _, _, _, X15, by simp, rfl, by omega, (fun _ => rfl), ⟨rfl, _, N, bl15, ((Same.refl D _).set _ (by simp)).set _ (by simp), sl15, (Cell.slots_setSlot_ne _ ap).trans sl13, n1.keep al (p15.other hne (p13.other hne n7)), n2, by rw [al.findClass]; exact n3, n4, n5, fun y c h1 h2 => p15.other h1 (p13.other h1 (by rw [q11]; exact n6 y c h2)), by rw [p15.2.2, p13.2.2, q11]; exact z8⟩, fun fs hl => c16.trans (X15.returnOut hexec hret (hb hbytes d57) hl)⟩
end New4
namespace New1
def yN : MethodName := ⟨"java/lang/String", "<init>", "([C)V"⟩
abbrev yB : ByteArray := jdk_42_method_3_code
theorem d0 : decode yB 0 = .ok (.aload_n 0, 1) := by decide +kernel
theorem d1 : decode yB 1 = .ok (.aload_n 1, 1) := by decide +kernel
theorem d2 : decode yB 2 = .ok (.iconst 0, 1) := by decide +kernel
theorem d3 : decode yB 3 = .ok (.aload_n 1, 1) := by decide +kernel
theorem d4 : decode yB 4 = .ok (.arraylength, 1) := by decide +kernel
theorem d5 : decode yB 5 = .ok (.aconst_null, 1) := by decide +kernel
theorem d6 : decode yB 6 = .ok (.invokespecial 27, 3) := by decide +kernel
theorem d9 : decode yB 9 = .ok (.return_, 1) := by decide +kernel
def site : List Cond := [New4.tab] ++ initW "java/lang/String" 27 New4.yN
def tab : Cond := tabOf yN yB 2 none site
def P (a : Addr) (D : Cell) (fV fC : Field) (b : Addr) (A : Cell) (z : Int32) (args : Array Value) (s : State) : Prop := args = #[.ref a, .ref b] ∧ Blank "java/lang/String" a D s ∧ Found "java/lang/String" "value" "[B" fV s ∧ Found "java/lang/String" "coder" "B" fC s ∧ Ch b A s ∧ StaticIs s "java/lang/String" "COMPACT_STRINGS" "Z" (.int z) ∧ ¬ z = 0 ∧ 0 < A.slots.size ∧ A.slots.size ≤ 536870912 ∧ ∀ i, i < A.slots.size → ¬ 255 < cv A i
def E (a : Addr) (D : Cell) (fV fC : Field) (A : Cell) (r : Option Value) (s u : State) : Prop := Got a D fV fC A 0 A.slots.size r s u
/-- new String(chars), not empty, no char above 255: a Latin-1 String of their low bytes -/
theorem law (l : Launch) (a : Addr) (D : Cell) (fV fC : Field) (b : Addr) (A : Cell) (z : Int32) : Law l yN 2 1 3 52 yB 2 none site (P a D fV fC b A z) (E a D fV fC A) [⟨a, fC.slot⟩, ⟨a, fV.slot⟩] 1 A.slots.size := by
  refine Law.of_walk (plainFor_of_name (by decide +kernel)) (by decide +kernel) (by decide +kernel) (by decide) (fun _ _ h => by rw [h.1]; rfl) (fun _ U U' hal hh h => ⟨h.1, h.2.1.mv hal hh, h.2.2.1.al hal, h.2.2.2.1.al hal, h.2.2.2.2.1.mv hal hh, h.2.2.2.2.2.1.there hal hh, h.2.2.2.2.2.2⟩) (fun r U U' V V' h1 hal h2 h => Got.mv r U U' V V' h1 hal h2 h) ?_
  intro p e s m args below meth c s₁ X0 hexec hbytes hml hret hlk hnm hown hh0 W hP
  obtain ⟨rfl, hB, f1, f2, hA, s1, hz, l0, l2, hp⟩ := hP
  have c1 : Steps p.tables e below (s₁.setTop (entryFrame m #[.ref a, .ref b] 2)) (s₁.setTop (mkF m 0 #[.val (.ref a), .val (.ref b)] [])) := entry rfl
  have c2 : Steps p.tables e below (s₁.setTop (entryFrame m #[.ref a, .ref b] 2)) (s₁.setTop (mkF m 6 #[.val (.ref a), .val (.ref b)] [.null, .int (Int32.ofNat A.slots.size), .int 0, .ref b, .ref a])) := c1.trans (by
    refine XS.aloadN X0.here hexec rfl (hb hbytes d0) rfl rfl ?_
    refine XS.aloadN X0.here hexec rfl (hb hbytes d1) rfl rfl ?_
    refine iconstV X0.here hexec rfl 0 (hb hbytes d2) (by decide) ?_
    refine XS.aloadN X0.here hexec rfl (hb hbytes d3) rfl rfl ?_
    refine X0.alen hexec (hA.1.mv X0.warmed.alike hh0) rfl rfl (hb hbytes d4) ?_
    refine XS.aconstNull X0.here hexec rfl (hb hbytes d5) ?_
    exact Steps.refl _)
  obtain ⟨v3, T3, X3, E3, g3⟩ := X0.callN hexec (New4.law l a D fV fC b A z 0 A.slots.size) rfl hown (wks W (initW "java/lang/String" 27 New4.yN)) (W New4.tab (by simp only [site, List.mem_cons, List.mem_append, true_or, or_true])) (W := 0) (Nat.le_of_ble_eq_true rfl) (Nat.le_of_ble_eq_true rfl) (Nat.le_refl _) (by show 0 + A.slots.size ≤ A.slots.size; omega) (g := (mkF m 6 #[.val (.ref a), .val (.ref b)] [.null, .int (Int32.ofNat A.slots.size), .int (Int32.ofNat 0), .ref b, .ref a])) rfl (by rw [hml]; rfl) c2 (argsL := [.ref b, .int (Int32.ofNat 0), .int (Int32.ofNat A.slots.size), .null]) (rest := []) rfl rfl (by show 2 * 0 + 0 ≤ _; decide) (hb hbytes d6) (⟨rfl, hB.mv X0.warmed.alike hh0, f1.al X0.warmed.alike, f2.al X0.warmed.alike, hA.mv X0.warmed.alike hh0, s1.there X0.warmed.alike hh0, hz, l0, by omega, l2, fun i hi => by rw [Nat.zero_add]; exact hp i hi⟩)
  have e0 := Got.mv _ s₁ s _ _ hh0.symm (Vm.Alike.refl _) rfl E3
  obtain rfl := e0.1
  have c4 : Steps p.tables e below (s₁.setTop (entryFrame m #[.ref a, .ref b] 2)) (T3.setTop (mkF m 9 #[.val (.ref a), .val (.ref b)] [])) := g3
  exact ⟨T3, none, _, _, _, X3, by simp, rfl, by omega, (fun _ => rfl), e0, fun fs hl => c4.trans (X3.returnOut hexec hret (hb hbytes d9) hl)⟩
theorem pays {l : Launch} {R : Room} {p : Program} {e : Env} {below : List Frame} {s : State} {sargs : Array Value} {len W : Nat} (a : Addr) (D : Cell) (fV fC : Field) (b : Addr) (A : Cell) (z : Int32) (htab : tab.before sargs s = true) (hfr : 4 ≤ R.frames) (hlo : W + 65 ≤ R.locals) :
    Back l R p e below s sargs yN len W (fun A₁ a₁ => A₁.cells + 1 ≤ R.cells ∧ A₁.slots + A.slots.size ≤ R.slots ∧ P a D fV fC b A z a₁ A₁.U) (fun A₁ _ v₁ B₁ => E a D fV fC A v₁ A₁.U B₁.U ∧ B₁.locs = A₁.locs ++ [⟨a, fC.slot⟩, ⟨a, fV.slot⟩] ∧ B₁.cells = A₁.cells + 1 ∧ B₁.slots = A₁.slots + A.slots.size) :=
  (law l a D fV fC b A z).pays htab hfr (by omega)
end New1
end StrChars
namespace StrChars.Road
open Jvm Sem ClassFile Op Lib Jvm.Stand Jvm.Free Jvm.Free.XT
open Jvm.Lib.Cold (StaticIs)
abbrev ST : String := "java/lang/String"
/-- every table word that New1's law asks, flat -/
abbrev words : List Jvm.Cond := [.code New1.yN New1.yB 2 none, .initialized ST, .methodLink ST 27 New4.yN, .instanceMethod New4.yN,
  .code New4.yN New4.yB 6 none, .fieldLink ST 38 ST "COMPACT_STRINGS" "Z", .laysFinal ST ST "value" "[B", .fieldLink ST 9 ST "value" "[B", .laysFinal ST ST "coder" "B", .fieldLink ST 15 ST "coder" "B",
  .methodLink ST 1 Lib.objectInit, .instanceMethod Lib.objectInit, .code Lib.objectInit ⟨#[0xb1]⟩ 1 none, .methodLink ST 177 Cmp3.yN, .static Cmp3.yN, .methodLink ST 47 CodL.yN, .static CodL.yN,
  .code Cmp3.yN Cmp3.yB 6 (some (.array .byte)), .initialized U16, .arrayClass .byte, .methodLink U16 115 Cmp5.yN, .static Cmp5.yN, .code Cmp5.yN Cmp5.yB 7 (some .int), .code CodL.yN CodL.yB 2 (some .byte)]
theorem tab_of {a : Array Value} {s : State} (h : ∀ w ∈ words, w.before a s = true) : New1.tab.before a s = true := by
  have h5 : Cmp5.tab.before a s = true := unparts (wk h (.code Cmp5.yN Cmp5.yB 7 (some .int))) (wks h (.initialized Cmp5.yN.cls :: Cmp5.site))
  have hc : CodL.tab.before a s = true := unparts (wk h (.code CodL.yN CodL.yB 2 (some .byte))) (wks h (.initialized CodL.yN.cls :: CodL.site))
  have q5 : ∀ w ∈ Cmp5.tab :: words, w.before a s = true := fun w hw => (List.mem_cons.mp hw).elim (fun e => e ▸ h5) (h w)
  have h3 : Cmp3.tab.before a s = true := unparts (wk q5 (.code Cmp3.yN Cmp3.yB 6 (some (.array .byte)))) (wks q5 (.initialized Cmp3.yN.cls :: Cmp3.site))
  have q3 : ∀ w ∈ Cmp3.tab :: CodL.tab :: words, w.before a s = true := fun w hw => (List.mem_cons.mp hw).elim (fun e => e ▸ h3) fun hw => (List.mem_cons.mp hw).elim (fun e => e ▸ hc) (h w)
  have h4 : New4.tab.before a s = true := unparts (wk q3 (.code New4.yN New4.yB 6 none)) (wks q3 (.initialized New4.yN.cls :: New4.site))
  have q4 : ∀ w ∈ New4.tab :: words, w.before a s = true := fun w hw => (List.mem_cons.mp hw).elim (fun e => e ▸ h4) (h w)
  exact unparts (wk q4 (.code New1.yN New1.yB 2 none)) (wks q4 (.initialized New1.yN.cls :: New1.site))
/-- the words ride from the start Z to the walk's own state -/
theorem moved {Z s : State} {a0 args : Array Value} (hZ : Z.Warmed39 s.vm) (hw : ∀ d ∈ words, d.before a0 Z = true) : ∀ d ∈ words, d.before args s = true := fun d hd => by
  have q := hw d hd
  have t : ∀ d ∈ words, d = .arrayClass .byte ∨ (d.onTables && d.keepsFace) = true := by decide +kernel
  rcases t d hd with rfl | t
  · exact RoadKit.mvA hZ q
  · exact RoadKit.mv hZ q t
/-- WHAT COMES BACK, over the tables of the start Z: h the heap at the call, h' behind it -/
def Q (Z : State) (x : Addr) (A : Cell) (h : Heap) (v : Option Value) (h' : Heap) (L : List Loc) : Prop := v = none ∧ (∀ y ∈ L, y.base = x) ∧ RoadKit.Keep h h' [x] ∧ h'.size = h.size + 1 ∧ RoadKit.Exa Z h' x ST ∧ RoadKit.Fld Z h' x ST "value" "[B" (.ref h.size) ∧ RoadKit.Fld Z h' x ST "coder" "B" (.int 0) ∧
  (∃ V : Cell, RoadKit.Arr Z h' h.size V .byte ∧ V.vm = .none ∧ Z.vm.findClass "[B" = some V.cls ∧ V.slots.size = A.slots.size ∧ ∀ j, j < A.slots.size → V.slots[j]? = some (.int (lo8 (cv A j)))) ∧
  ∀ (O n d : String) (w : Value), RoadKit.Fld Z h x O n d w → RoadKit.slotOf Z O n d ≠ RoadKit.slotOf Z ST "value" "[B" → RoadKit.slotOf Z O n d ≠ RoadKit.slotOf Z ST "coder" "B" → RoadKit.Fld Z h' x O n d w
/-- **new String(chars) AT A CALL, IN THE ROAD'S FORM**: for specialBack behind newO: x the fresh String, b the char[] with the cell A -/
theorem back {p : Program} {l : Launch} {e : Env} {R : Room} {s : State} {args : Array Value} {below : List Frame} {len W : Nat} {Z : State} {a0 : Array Value} {h : Heap} (hZ : Z.Warmed39 s.vm) (hw : ∀ d ∈ words, d.before a0 Z = true) {kI : Nat} (wi : (Jvm.Cond.instantiable ST kI).before a0 Z = true)
    {x b : Addr} {A : Cell} {z : Int32} {v0 c0 : Value} (E : RoadKit.Exa Z h x ST) (V : RoadKit.Fld Z h x ST "value" "[B" v0) (C : RoadKit.Fld Z h x ST "coder" "B" c0) (K : RoadKit.Arr Z h b A .char) (hty : Typed .char A) (S : RoadKit.Sta Z h ST "COMPACT_STRINGS" "Z" (.int z)) (hz : ¬ z = 0)
    (l0 : 0 < A.slots.size) (l2 : A.slots.size ≤ 536870912) (hp : ∀ i, i < A.slots.size → ¬ 255 < cv A i) (hfr : 4 ≤ R.frames) (hlo : W + 65 ≤ R.locals) :
    Back l R p e below s args New1.yN len W (fun P a => a = #[.ref x, .ref b] ∧ P.U.heap = h ∧ P.cells + 1 ≤ R.cells ∧ P.slots + A.slots.size ≤ R.slots)
      (fun P _ v B => ∃ L, Q Z x A h v B.U.heap L ∧ B.locs = P.locs ++ L ∧ B.cells = P.cells + 1 ∧ B.slots = P.slots + A.slots.size) := by
  intro m meth c P g ig mk a X hg hsize hdg hW hn hp'
  obtain ⟨rfl, rfl, r1, r2⟩ := hp'
  have al : Z.vm.Alike P.U.vm := hZ.alike.trans X.warmed.alike
  obtain ⟨D, cfV, kV, iV, fV, hD, gV, stV, knV, obV, asV, slV⟩ := id V
  obtain ⟨D', cfC, kC, iC, fC, hD', gC, stC, -, -, asC, slC⟩ := id C
  cases hD.symm.trans hD'
  obtain ⟨D2, kD, e1, e2, e3, e4, e5⟩ := id E
  cases hD.symm.trans e1
  obtain ⟨c2, k2, i1, i2, i3, -⟩ := Cond.instantiable_spec wi
  cases e2.symm.trans i1
  cases e3.symm.trans i2
  obtain ⟨kU, u1, u2⟩ := al.2.2 _ _ e3
  have hB : Blank ST x D P.U := ⟨hD, ⟨knV, fun q hq => by rw [hq] at obV; cases obV⟩, by rw [al.findClass]; exact e2, kU, u1, by rw [u2]; exact i3, by rw [u2]; exact e5 i3⟩
  have F1 : Found ST "value" "[B" fV P.U := ⟨SBG.found_only al ⟨cfV, kV, iV, gV⟩, stV⟩
  have F2 : Found ST "coder" "B" fC P.U := ⟨SBG.found_only al ⟨cfC, kC, iC, gC⟩, stC⟩
  have hA : Ch b A P.U := ⟨⟨K.1, State.isArrayOf_alike al K.2.1, K.2.2, by omega⟩, hty⟩
  have hS : StaticIs P.U ST "COMPACT_STRINGS" "Z" (.int z) := by
    obtain ⟨cfS, iS, kS, fS, st, cS, t1, t2, t3, t4, t5, t6, t7⟩ := S
    exact StaticIs.there (s := { Z with heap := P.U.heap }) ⟨cfS, iS, kS, fS, st, cS, t1, t2, t3, t4, t5, (fun q => by rw [q] at t6; cases t6), t7⟩ al rfl
  obtain ⟨v, B, X', ⟨⟨hv, E', V', q1, q2, q3, q4, q5, q6, q7, q8, q9, q10, q11⟩, hl, hc, hs⟩, st⟩ := New1.pays x D fV fC b A z (tab_of (moved hZ hw)) hfr hlo m meth c P g ig mk _ X hg hsize hdg hW hn ⟨r1, r2, rfl, hB, F1, F2, hA, hS, hz, l0, l2, hp⟩
  have al' : Z.vm.Alike B.U.vm := hZ.alike.trans X'.warmed.alike
  have hsz : E'.slots.size = D.slots.size := by
    obtain ⟨-, -, -, kB, w1, w2, w3⟩ := q1
    obtain ⟨kB', y1, y2⟩ := al'.2.2 _ _ e3
    rw [q2.2.1] at w1
    cases w1.symm.trans y1
    rw [w3, e5 i3, y2]
  refine ⟨v, B, X', ⟨_, ⟨hv, ?_, ⟨by omega, fun y cy hy hn' => q10 y cy (by simpa using hn') hy, fun y cy hy => ?_⟩, q11, ⟨E', _, q1.1, by rw [q2.2.1]; exact e2, by rw [q2.2.1]; exact e3, by rw [q2.1]; exact obV, fun _ => by rw [hsz]; exact e5 i3⟩,
    ⟨E', cfV, kV, iV, fV, q1.1, gV, stV, by rw [q2.1]; exact knV, by rw [q2.1]; exact obV, by rw [q2.2.1]; exact asV, q3⟩, ⟨E', cfC, kC, iC, fC, q1.1, gC, stC, by rw [q2.1]; exact knV, by rw [q2.1]; exact obV, by rw [q2.2.1]; exact asC, q4⟩,
    ⟨V', ⟨q5.1, State.isArrayOf_alike al'.symm q5.2.1, q5.2.2.1⟩, q6, by rw [← al'.findClass]; exact q7, q8, fun j hj => by have := q9 j hj; rwa [Nat.zero_add] at this⟩, fun O n d w F n1 n2 => ?_⟩, hl, hc, hs⟩, st⟩
  · intro y hy
    simp only [List.mem_cons, List.not_mem_nil, or_false] at hy
    rcases hy with rfl | rfl <;> rfl
  · by_cases q : y = x
    · subst q
      cases hD.symm.trans hy
      exact ⟨E', q1.1, q2.2.1, q2.1, hsz⟩
    · exact ⟨cy, q10 y cy q hy, rfl, rfl, rfl⟩
  · obtain ⟨D3, cf, k, i, f, g1, g2, g3, g4, g5, g6, g7⟩ := F
    cases hD.symm.trans g1
    simp only [RoadKit.slotOf, g2, gV, gC, Option.map_some, Option.getD_some] at n1 n2
    exact ⟨E', cf, k, i, f, q1.1, g2, g3, by rw [q2.1]; exact g4, by rw [q2.1]; exact g5, by rw [q2.2.1]; exact g6, by rw [q2.2.2 f.slot (by simp [n1, n2])]; exact g7⟩
end StrChars.Road
namespace StrChars.Road
open Jvm Sem ClassFile Op Lib Jvm.Stand Jvm.Free Jvm.Free.XT
/-- WHAT COMES BACK, the byte[] as a list of values -/
def QA (Z : State) (x : Addr) (zn : Int32) (cs : List Int32) (h : Heap) (v : Option Value) (h' : Heap) (L : List Loc) : Prop := v = none ∧ (∀ y ∈ L, y.base = x) ∧ RoadKit.Keep h h' [x] ∧ h'.size = h.size + 1 ∧ RoadKit.Exa Z h' x ST ∧ RoadKit.Fld Z h' x ST "value" "[B" (.ref h.size) ∧ RoadKit.Fld Z h' x ST "coder" "B" (.int 0) ∧
  (∃ kb, Z.vm.findClass "[B" = some kb ∧ RoadKit.Arv Z h' h.size kb .byte zn (cs.map fun c => .int (lo8 c)) (.int 0)) ∧
  ∀ (O n d : String) (w : Value), RoadKit.Fld Z h x O n d w → RoadKit.slotOf Z O n d ≠ RoadKit.slotOf Z ST "value" "[B" → RoadKit.slotOf Z O n d ≠ RoadKit.slotOf Z ST "coder" "B" → RoadKit.Fld Z h' x O n d w
/-- **new String(chars) AT A CALL, THE ARRAYS AS LISTS**: the char[] at b holds cs, not empty, no char above 255 -/
theorem backArv {p : Program} {l : Launch} {e : Env} {R : Room} {s : State} {args : Array Value} {below : List Frame} {len W : Nat} {Z : State} {a0 : Array Value} {h : Heap} (hZ : Z.Warmed39 s.vm) (hw : ∀ d ∈ words, d.before a0 Z = true) {kI : Nat} (wi : (Jvm.Cond.instantiable ST kI).before a0 Z = true)
    {x b : Addr} {k : ClassId} {zn z : Int32} {cs : List Int32} {dv v0 c0 : Value} (E : RoadKit.Exa Z h x ST) (V : RoadKit.Fld Z h x ST "value" "[B" v0) (C : RoadKit.Fld Z h x ST "coder" "B" c0) (K : RoadKit.Arv Z h b k .char zn (cs.map Value.int) dv) (S : RoadKit.Sta Z h ST "COMPACT_STRINGS" "Z" (.int z)) (hz : ¬ z = 0)
    (hlen : zn.toNatClampNeg = cs.length) (h0 : 0 < cs.length) (hbig : cs.length ≤ 536870912) (hall : ∀ c ∈ cs, ¬ 255 < c) (hfr : 4 ≤ R.frames) (hlo : W + 65 ≤ R.locals) :
    Back l R p e below s args New1.yN len W (fun P a => a = #[.ref x, .ref b] ∧ P.U.heap = h ∧ P.cells + 1 ≤ R.cells ∧ P.slots + cs.length ≤ R.slots)
      (fun P _ v B => ∃ L, QA Z x zn cs h v B.U.heap L ∧ B.locs = P.locs ++ L ∧ B.cells = P.cells + 1 ∧ B.slots = P.slots + cs.length) := by
  obtain ⟨A, K1, K2, K3, K4, K5, K6⟩ := K
  have e : A.slots.size = cs.length := K3.trans hlen
  have hat : ∀ (i : Nat) (hi : i < cs.length), A.slots[i]? = some (.int cs[i]) := fun i hi => by rw [K5 i (by omega)]; simp [List.getD_eq_getElem?_getD, hi]
  have hcv : ∀ (i : Nat) (hi : i < cs.length), cv A i = cs[i] := fun i hi => by unfold cv; rw [hat i hi]
  have hty : Typed .char A := fun i v hv => by
    have hi : i < A.slots.size := (Array.getElem?_eq_some_iff.mp hv).1
    have q := K5 i hi
    rw [hv] at q
    rw [Option.some.inj q]
    exact K6 i hi
  refine Back.mono (back hZ hw wi E V C K1 hty S hz (by omega) (by omega) (fun i hi => by rw [hcv i (by omega)]; exact hall _ (List.getElem_mem _)) hfr hlo) (fun P a hp => ⟨hp.1, hp.2.1, hp.2.2.1, by rw [e]; exact hp.2.2.2⟩) (fun P a v B hp hq => ?_)
  obtain ⟨L, ⟨q1, q2, q3, q4, q5, q6, q7, ⟨V', v1, v2, v3, v4, v5⟩, q9⟩, hl, hc, hs⟩ := hq
  refine ⟨L, ⟨q1, q2, q3, q4, q5, q6, q7, ⟨V'.cls, v3, V', v1, rfl, by rw [v4, e, hlen], K4, fun i hi => ?_, fun i hi => ?_⟩, q9⟩, hl, hc, by rw [hs, e]⟩
  · have hi' : i < cs.length := by omega
    rw [v5 i (by omega), hcv i hi']; simp [List.getD_eq_getElem?_getD, hi']
  · have hi' : i < cs.length := by omega
    simp only [List.getD_eq_getElem?_getD, List.getElem?_map, List.getElem?_eq_getElem hi', Option.map_some, Option.getD_some]
    exact fits_lo8 _
end StrChars.Road
namespace StrChars.Road
open Jvm Sem ClassFile Op Lib Jvm.Stand Jvm.Free Jvm.Free.XT
/-- WHAT COMES BACK, in the writer's own shape -/
def QV (Z : State) (x : Addr) (N : Int32) (bs : List Int32) (h : Heap) (n0 : Nat) (v : Option Value) (h' : Heap) (L : List Loc) : Prop := v = none ∧ RoadKit.Fr n0 L ∧ RoadKit.Keep h h' [x] ∧ RoadKit.Exa Z h' x ST ∧ RoadKit.Fld Z h' x ST "coder" "B" (.int 0) ∧
  ∃ (t : Addr) (kb : ClassId), n0 ≤ t ∧ h.size ≤ t ∧ ¬ t = x ∧ RoadKit.Fld Z h' x ST "value" "[B" (.ref t) ∧ RoadKit.Arv Z h' t kb .byte N (bs.map Value.int) (.int 0)
/-- **new String(chars) AT A CALL, FOR THE WRITER**: a char[] of n known ints, each 0 to 255 -/
theorem backV {p : Program} {l : Launch} {e : Env} {R : Room} {s : State} {args : Array Value} {below : List Frame} {len W : Nat} {Z : State} {a0 : Array Value} {h : Heap} (hZ : Z.Warmed39 s.vm) (hw : ∀ d ∈ words, d.before a0 Z = true) {kI : Nat} (wi : (Jvm.Cond.instantiable ST kI).before a0 Z = true)
    {x b : Addr} {kC : ClassId} {cs bs : List Int32} {d v0 c0 : Value} {z N : Int32} {n n0 : Nat} (hx0 : n0 ≤ x) (hh0 : n0 ≤ h.size) (E : RoadKit.Exa Z h x ST) (V : RoadKit.Fld Z h x ST "value" "[B" v0) (C : RoadKit.Fld Z h x ST "coder" "B" c0) (K : RoadKit.Arv Z h b kC .char N (cs.map Value.int) d) (S : RoadKit.Sta Z h ST "COMPACT_STRINGS" "Z" (.int z)) (hz : ¬ z = 0)
    (hn : cs.length = n) (hN : N = Int32.ofNat n) (l0 : 0 < n) (l2 : n ≤ 4000) (hp : ∀ c ∈ cs, ¬ c < 0 ∧ ¬ (255 : Int32) < c) (hb : bs = cs.map (fun c => c.toInt8.toInt32)) (hfr : 4 ≤ R.frames) (hlo : W + 65 ≤ R.locals) :
    Back l R p e below s args (⟨"java/lang/String", "<init>", "([C)V"⟩ : MethodName) len W (fun P a => a = #[.ref x, .ref b] ∧ P.U.heap = h ∧ P.cells + 1 ≤ R.cells ∧ P.slots + n ≤ R.slots)
      (fun P _ v B => ∃ L, QV Z x N bs h n0 v B.U.heap L ∧ B.locs = P.locs ++ L ∧ B.cells = P.cells + 1 ∧ B.slots = P.slots + n) := by
  subst hn hN hb
  refine Back.mono (backArv hZ hw wi E V C K S hz (n32 (by omega)) l0 (by omega) (fun c hc => (hp c hc).2) hfr hlo) (fun P a hp => hp) (fun P a v B hp hq => ?_)
  obtain ⟨L, ⟨q1, q2, q3, q4, q5, q6, q7, ⟨kb, v1, v2⟩, q9⟩, hl, hc, hs⟩ := hq
  exact ⟨L, ⟨q1, fun y hy => by rw [q2 y hy]; exact hx0, q3, q5, q7, h.size, kb, hh0, Nat.le_refl _, Nat.ne_of_gt E.lt, q6, by rw [List.map_map]; exact v2⟩, hl, hc, hs⟩
end StrChars.Road
end Jvm.Pilot.@@N@@
namespace Jvm.Pilot.@@N@@
open Jvm Jvm.ClassFile Sem Op Lib Jvm.Free Jvm.Stand Jvm.LawKit Jvm.RoadKit Bundle Jvm.Pilot.@@N@@.Jvm.D
abbrev own_y0 : MethodName := ⟨"java/lang/String", "isEmpty", "()Z"⟩
abbrev own_y1 : MethodName := ⟨"java/lang/String", "<init>", "([CIILjava/lang/Void;)V"⟩
abbrev own_y2 : MethodName := ⟨"java/lang/String", "<init>", "([C)V"⟩
abbrev own_y3 : MethodName := ⟨"com/example/concordant/concordant/model/Schema", "<init>", "()V"⟩
abbrev own_y4 : MethodName := ⟨"com/example/concordant/concordant/model/Schema", "unconstrained", "()Lcom/example/concordant/concordant/model/Schema;"⟩
abbrev own_y5 : MethodName := ⟨"com/example/concordant/concordant/rules/SchemaPairsRootPinLaw", "pick", "(ILcom/example/concordant/concordant/model/Schema;Lcom/example/concordant/concordant/model/Schema;Lcom/example/concordant/concordant/model/Schema;)Lcom/example/concordant/concordant/model/Schema;"⟩
abbrev own_y6 : MethodName := ⟨"com/example/concordant/concordant/rules/SchemaPairs$SchemaPair", "<init>", "(Ljava/lang/String;Lcom/example/concordant/concordant/rules/SchemaPairs$SchemaPair;Lcom/example/concordant/concordant/rules/SchemaPairs$Way;Ljava/lang/String;Lcom/example/concordant/concordant/model/Schema;Lcom/example/concordant/concordant/model/Schema;)V"⟩
abbrev own_y7 : MethodName := ⟨"com/example/concordant/concordant/rules/SchemaPairs$SchemaPair", "root", "(Ljava/lang/String;Lcom/example/concordant/concordant/model/Schema;Lcom/example/concordant/concordant/model/Schema;)Lcom/example/concordant/concordant/rules/SchemaPairs$SchemaPair;"⟩
abbrev own_y8 : MethodName := ⟨"com/example/concordant/concordant/rules/SchemaPairs$SchemaPair", "older", "()Lcom/example/concordant/concordant/model/Schema;"⟩
abbrev own_y9 : MethodName := ⟨"com/example/concordant/concordant/rules/SchemaPairs$SchemaPair", "newer", "()Lcom/example/concordant/concordant/model/Schema;"⟩
abbrev own_y10 : MethodName := ⟨"java/util/AbstractCollection", "<init>", "()V"⟩
abbrev own_y11 : MethodName := ⟨"java/util/AbstractList", "<init>", "()V"⟩
abbrev own_y12 : MethodName := ⟨"java/util/ArrayList", "<init>", "()V"⟩
abbrev own_y13 : MethodName := ⟨"java/util/ArrayList", "size", "()I"⟩
abbrev own_y14 : MethodName := ⟨"java/util/Collections", "reverse", "(Ljava/util/List;)V"⟩
abbrev own_y16 : MethodName := ⟨"java/util/ArrayList$Itr", "<init>", "(Ljava/util/ArrayList;)V"⟩
abbrev own_y17 : MethodName := ⟨"java/util/ArrayList", "iterator", "()Ljava/util/Iterator;"⟩
abbrev own_y18 : MethodName := ⟨"java/util/ArrayList$Itr", "hasNext", "()Z"⟩
abbrev own_y19 : MethodName := ⟨"java/lang/AbstractStringBuilder", "<init>", "(I)V"⟩
abbrev own_y20 : MethodName := ⟨"java/lang/StringBuilder", "<init>", "()V"⟩
abbrev own_y21 : MethodName := ⟨"java/lang/AbstractStringBuilder", "getValue", "()[B"⟩
abbrev own_y22 : MethodName := ⟨"java/lang/AbstractStringBuilder", "length", "()I"⟩
abbrev own_y23 : MethodName := ⟨"java/lang/StringBuilder", "length", "()I"⟩
abbrev own_y24 : MethodName := ⟨"java/lang/AbstractStringBuilder", "isLatin1", "()Z"⟩
abbrev own_y25 : MethodName := ⟨"java/lang/Math", "min", "(II)I"⟩
abbrev own_y26 : MethodName := ⟨"java/util/Arrays", "checkLength", "(II)V"⟩
abbrev own_y27 : MethodName := ⟨"java/util/Arrays", "copyOfRangeByte", "([BII)[B"⟩
abbrev own_y28 : MethodName := ⟨"java/util/Arrays", "copyOfRange", "([BII)[B"⟩
abbrev own_y29 : MethodName := ⟨"java/lang/String", "<init>", "(Ljava/lang/AbstractStringBuilder;Ljava/lang/Void;)V"⟩
abbrev own_y30 : MethodName := ⟨"java/lang/String", "<init>", "(Ljava/lang/StringBuilder;)V"⟩
abbrev own_y31 : MethodName := ⟨"java/lang/StringBuilder", "toString", "()Ljava/lang/String;"⟩
abbrev own_y32 : MethodName := ⟨"com/example/concordant/concordant/rules/SchemaPairs$SchemaPair", "location", "()Ljava/lang/String;"⟩
abbrev own_y35 : MethodName := ⟨"com/example/concordant/concordant/rules/SchemaPairs$SchemaPair", "subjectAt", "(Ljava/lang/String;)Ljava/lang/String;"⟩
abbrev own_y36 : MethodName := ⟨"com/example/concordant/concordant/rules/SchemaPairs$SchemaPair", "subject", "()Ljava/lang/String;"⟩
abbrev own_y37 : MethodName := ⟨"com/example/concordant/concordant/rules/SchemaPairs", "location", "(Ljava/lang/String;Ljava/lang/String;)Ljava/lang/String;"⟩
abbrev own_y38 : MethodName := ⟨"com/example/concordant/concordant/rules/SchemaPairs$SchemaPair", "subject", "(Ljava/lang/String;)Ljava/lang/String;"⟩
abbrev own_y39 : MethodName := ⟨"java/lang/String", "equals", "(Ljava/lang/Object;)Z"⟩
abbrev own_y40 : MethodName := ⟨"com/example/concordant/concordant/rules/SchemaPairsRootPinLaw", "drawn", "(IIII)Ljava/lang/String;"⟩
theorem own_hws : ∀ d ∈ StrChars.Road.words, d ∈ tables_1 := by
  intro d hd
  simp only [StrChars.Road.words, List.mem_cons, List.not_mem_nil, or_false] at hd
  rcases hd with rfl | rfl | rfl | rfl | rfl | rfl | rfl | rfl | rfl | rfl | rfl | rfl | rfl | rfl | rfl | rfl | rfl | rfl | rfl | rfl | rfl | rfl | rfl | rfl
  · exact List.mem_of_getElem? (i := 10) rfl
  · exact List.mem_of_getElem? (i := 6) rfl
  · exact List.mem_of_getElem? (i := 11) rfl
  · exact List.mem_of_getElem? (i := 12) rfl
  · exact List.mem_of_getElem? (i := 14) rfl
  · exact List.mem_of_getElem? (i := 251) rfl
  · exact List.mem_of_getElem? (i := 20) rfl
  · exact List.mem_of_getElem? (i := 24) rfl
  · exact List.mem_of_getElem? (i := 21) rfl
  · exact List.mem_of_getElem? (i := 25) rfl
  · exact List.mem_of_getElem? (i := 15) rfl
  · exact List.mem_of_getElem? (i := 16) rfl
  · exact List.mem_of_getElem? (i := 17) rfl
  · exact List.mem_of_getElem? (i := 252) rfl
  · exact List.mem_of_getElem? (i := 253) rfl
  · exact List.mem_of_getElem? (i := 259) rfl
  · exact List.mem_of_getElem? (i := 260) rfl
  · exact List.mem_of_getElem? (i := 255) rfl
  · exact List.mem_of_getElem? (i := 254) rfl
  · exact List.mem_of_getElem? (i := 19) rfl
  · exact List.mem_of_getElem? (i := 256) rfl
  · exact List.mem_of_getElem? (i := 257) rfl
  · exact List.mem_of_getElem? (i := 258) rfl
  · exact List.mem_of_getElem? (i := 261) rfl
theorem own_toInt {a b : Int32} (h : a.toInt = b.toInt) : a = b := Int32.toInt_inj.mp h
theorem own_shr0 (n : Int32) : (n >>> ((0 : Int32) &&& 31)) = n := by
  apply own_toInt
  rw [c_ishr n (0 : Int32) 0 (by decide)]
  simp
def own_emp (n : Int32) : Int32 := if n = (0 : Int32) then 1 else 0
def own_chr (b : Int32) : Int32 := (b &&& (255 : Int32)).toUInt32.toUInt16.toUInt32.toInt32
theorem own_nar_c (x : Int32) : nar .char (x.toUInt32.toUInt16.toUInt32.toInt32) = x.toUInt32.toUInt16.toUInt32.toInt32 := by
  show (x.toUInt32.toUInt16.toUInt32.toInt32).toUInt32.toUInt16.toUInt32.toInt32 = _
  simp only [UInt32.toUInt32_toInt32, UInt16.toUInt16_toUInt32]
theorem own_nar_b (x : Int32) : nar .byte (x.toInt8.toInt32) = x.toInt8.toInt32 := by
  show (x.toInt8.toInt32).toInt8.toInt32 = _
  apply own_toInt
  have a1 := c_i2b x
  have a2 := c_i2b x.toInt8.toInt32
  omega
theorem own_chr_of {x : Int32} (h1 : ¬ x < (0 : Int32)) (h2 : ¬ (255 : Int32) < x) : own_chr (x.toInt8.toInt32) = x := by
  simp only [Int32.lt_iff_toInt_lt] at h1 h2
  have e0 : (0 : Int32).toInt = 0 := by decide
  have e1 : (255 : Int32).toInt = 255 := by decide
  have a1 := c_i2b x
  have a2 := c_mask (x.toInt8.toInt32) (255 : Int32) 8 (by decide) (by decide)
  have a3 := c_i2c ((x.toInt8.toInt32) &&& (255 : Int32))
  apply own_toInt
  show (((x.toInt8.toInt32) &&& (255 : Int32)).toUInt32.toUInt16.toUInt32.toInt32).toInt = x.toInt
  omega
theorem own_ch255 (x : Int32) : ¬ nar .char ((x &&& (255 : Int32)).toUInt32.toUInt16.toUInt32.toInt32) < 0 ∧ ¬ (255 : Int32) < nar .char ((x &&& (255 : Int32)).toUInt32.toUInt16.toUInt32.toInt32) := by
  have h1 := c_mask x (255 : Int32) 8 (by decide) (by decide)
  have h2 := c_i2c (x &&& (255 : Int32))
  have h3 := c_i2c ((x &&& (255 : Int32)).toUInt32.toUInt16.toUInt32.toInt32)
  have e : nar .char ((x &&& (255 : Int32)).toUInt32.toUInt16.toUInt32.toInt32) = ((x &&& (255 : Int32)).toUInt32.toUInt16.toUInt32.toInt32).toUInt32.toUInt16.toUInt32.toInt32 := rfl
  rw [e]
  simp only [Int32.lt_iff_toInt_lt]
  have e0 : (0 : Int32).toInt = 0 := by decide
  have e1 : (255 : Int32).toInt = 255 := by decide
  omega
theorem own_len {args : Array Value} {s : State} {t : Term} {a : Addr} {cl : Cell} {n : Int32} (ht : t.eval args s none [] s = some (.ref a)) (ha : s.arrayAt? a = some cl) (h : (Term.length t).eval args s none [] s = some (.int n)) : cl.slots.size < 2 ^ 31 ∧ cl.slots.size.toInt32 = n := by
  by_cases q : cl.slots.size < 2147483648
  · simp [Term.eval, ht, ha, q] at h
    exact ⟨q, h⟩
  · simp [Term.eval, ht, ha, q] at h
theorem own_nf {s : State} {args : Array Value} {C : String} {y y2 : MethodName} (hs : (Cond.selects C y2 y2).before args s = true) (hc : y2.cls = y.cls) : NotFace s y := fun r0 h0 => by
  obtain ⟨c2, r2, m2, q1, q2, q3, q4, kP, hkP, hkPi⟩ := Cond.selects_spec hs
  have e1 := findClass_of_methodNamed h0
  have e2 := findClass_of_methodNamed q3
  rw [hc] at e2
  have e := Option.some.inj (e1.symm.trans e2)
  exact ⟨kP, by rw [e]; exact hkP, hkPi⟩
theorem own_selp {s : State} {args : Array Value} {C : String} {y y2 : MethodName} (hs : (Cond.selects C y2 y2).before args s = true) (hc : y2.cls = y.cls) (hp : s.PrivateAt y) (hi : (Cond.instanceMethod y).before args s = true) (hy : y.cls ≠ "java/lang/invoke/MethodHandle" ∧ y.cls ≠ "java/lang/invoke/VarHandle") : (Cond.selects y.cls y y).before args s = true := by
  obtain ⟨mk, methM, hn, -, -, -⟩ := Cond.instanceMethod_spec hi
  obtain ⟨kr, hkr, hni⟩ := own_nf hs hc mk hn
  exact selects_self_of_private (findClass_of_methodNamed hn) hkr hni hp hi hy
theorem own_same {Z : State} {a0 : Array Value} {C : String} {y y2 : MethodName} (hd : (Cond.declares y).before a0 Z = true) (hs : (Cond.selects C y2 y2).before a0 Z = true) (hc : y2.cls = y.cls) (hy : y.cls ≠ "java/lang/invoke/MethodHandle" ∧ y.cls ≠ "java/lang/invoke/VarHandle") : (Cond.sameMethod y.cls y.cls y.name y.desc).before a0 Z = true := by
  obtain ⟨r0, r, hn, hrm, -, -⟩ := Cond.declares_spec hd
  obtain ⟨kr, hkr, hni⟩ := own_nf hs hc r0 hn
  have hf := State.methodFound?_of_named hn hy
  have hcls := findClass_of_methodNamed hn
  obtain ⟨yc, yn, yd⟩ := y
  have hn' : Z.methodNamed? ⟨yc, yn, yd⟩ = some r0 := hn
  have hf' : Z.methodFound? yc yn yd = some r0 := hf
  have hcls' : Z.vm.findClass yc = some r0.cls := hcls
  simp [Cond.before, Cond.holds, Cond.value, hcls', hf', hn', hkr, hni]
theorem own_mvMN {Z s : State} {a0 args : Array Value} {own host : String} {y : MethodName} {index : Nat} (hZ : Z.Warmed39 s.vm) (w : (Cond.methodLinkNest own index y host).before a0 Z = true) : (Cond.methodLinkNest own index y host).before args s = true := (Cond.methodLinkNest_wide hZ w :)
theorem own_safe_null {Z : State} {EL : List (String × Nat)} {vm : Vm} {h : Heap} {x : Addr} (hal : Z.vm.Alike vm) (E : Exa Z h x "java/lang/String") (F : Fld Z h x "java/lang/String" "value" "[B" .null) : Safe Z EL vm h x := fun B => by
  obtain ⟨cell, k, e1, e2, e3, -, -⟩ := E
  have nm : ∀ {n : String} {c : ClassId}, vm.findClass n = some c → c = cell.cls → n = "java/lang/String" := fun {n c} f e => by
    subst e
    rw [hal.findClass] at f
    obtain ⟨k1, q1, q2⟩ := Vm.findClass_spec f
    obtain ⟨k2, q3, q4⟩ := Vm.findClass_spec e2
    cases q1.symm.trans q3
    exact q2.symm.trans q4
  obtain ⟨cell', cv, kv, iv, f, f1, f2, f3, f4, f5, f6, f7⟩ := F
  obtain ⟨p, -, u, a, -, q, -, G, rfl | rfl⟩ := B
  · obtain ⟨cS, ⟨⟨s1, s2, s3, ⟨cv', kv', iv', s4, s4'⟩, -, s6, s7, s8, s9, -⟩, -⟩, -⟩ := G
    have s1 : h[q.sa]? = some q.sC := s1
    cases s1.symm.trans f1
    obtain ⟨kv2, z4⟩ := ff_back (U := Wst Z vm h) hal s4
    have e4 := z4.symm.trans f2
    simp only [Option.some.injEq, Prod.mk.injEq] at e4
    rw [← e4.2.2.2, s8] at f7
    cases f7
  · cases (show h[q.sd]? = some q.SA from G.hd).symm.trans e1
    obtain ⟨cS, -, -, f, -⟩ := G
    exact absurd (nm f rfl) (by decide)
def own_min (x y : Int32) : Int32 := if y < x then y else x
def own_pick (k : Int32) (a b u : Addr) : Value := if k = (0 : Int32) then .ref a else if k = (1 : Int32) then .ref b else if k = (2 : Int32) then .ref u else .null
theorem own_pick_r (k : Int32) (a b u : Addr) : (own_pick k a b u).isRef = true := by
  unfold own_pick
  split
  · rfl
  · split
    · rfl
    · split <;> rfl
def own_EL : List (String × Nat) := [("com/example/concordant/concordant/rules/SchemaPairsRootPinLaw", 45), ("java/lang/String", 7)]
theorem own_EW (Z : State) (a0 : Array Value) (hw : ∀ d ∈ tables_1, d.before a0 Z = true) : EW Z a0 own_EL := by
  have W_ : ∀ {d : Jvm.Cond} (i : Nat), tables_1[i]? = some d → d.before a0 Z = true := fun i h => hw _ (List.mem_of_getElem? h)
  exact (EW.cons (text := "") (W_ 235 rfl) (by decide +kernel) (EW.cons (text := "") (W_ 18 rfl) (by decide +kernel) EW.nil))
theorem d36_0 : decode jdk_42_method_55_code 0 = .ok (.aload_n 0, 1) := by decide +kernel
theorem d36_1 : decode jdk_42_method_55_code 1 = .ok (.getfield 9, 3) := by decide +kernel
theorem d36_4 : decode jdk_42_method_55_code 4 = .ok (.arraylength, 1) := by decide +kernel
theorem d36_5 : decode jdk_42_method_55_code 5 = .ok (.ifCond .ne 7, 3) := by decide +kernel
theorem d36_8 : decode jdk_42_method_55_code 8 = .ok (.iconst 1, 1) := by decide +kernel
theorem d36_9 : decode jdk_42_method_55_code 9 = .ok (.goto 4, 3) := by decide +kernel
theorem d36_12 : decode jdk_42_method_55_code 12 = .ok (.iconst 0, 1) := by decide +kernel
theorem d36_13 : decode jdk_42_method_55_code 13 = .ok (.ireturn, 1) := by decide +kernel
theorem pn_java_2flang_2fString : plainName "java/lang/String" = true := by first | (simp [plainName, overriddenIn]; done) | decide +kernel
theorem ef_isEmp (m : MethodId) (a : Addr) : entryFrame m #[(.ref a)] 1 = mkF m 0 #[rv a] [] := by
  first | (simp [entryFrame, mkF, argsToLocals, Value.category]; done) | rfl
def Q_isEmp (Z : State) (a : Addr) (t : Addr) (n : Int32) (h0 : Heap) (n0 : Nat) (v : Option Value) (h : Heap) (L : List Loc) : Prop := v = some (.int (own_emp n)) ∧ Fr n0 L ∧ h = h0
set_option maxRecDepth 65536 in
set_option maxHeartbeats 40000000 in
theorem rm_isEmp (l : Launch) (Z : State) (a0 : Array Value) (hw : ∀ d ∈ tables_1, d.before a0 Z = true) (ws : List Jvm.Cond) (a : Addr) (t : Addr) (n : Int32) (h0 : Heap) (n0 : Nat) (O0 : Old Z n0 h0) (Fv : Fld Z h0 a "java/lang/String" "value" "[B" (.ref t)) (LN : own_Len Z h0 t n) :
    MetFree l own_y0 (head1 (Jvm.Cond.code own_y0 jdk_42_method_55_code 1 (some .boolean) :: ws) ({ frames := 0, cells := 0, slots := 0, locals := 0 } : Room)) (fun aq_ Uq_ => aq_ = #[(.ref a)] ∧ Z.Warmed39 Uq_.vm ∧ Uq_.heap = h0) (fun _ _ _ _ _ => True) (fun _ Uq_ oq_ Ur_ => ∃ vq_ Lq_, oq_ = .returned vq_ ∧ Q_isEmp Z a t n h0 n0 vq_ Ur_.heap Lq_ ∧ FrameEnd Uq_ oq_ Ur_ Lq_ ({ frames := 0, cells := 0, slots := 0, locals := 0 } : Room).cells ({ frames := 0, cells := 0, slots := 0, locals := 0 } : Room).slots) := by
  refine MetFree.of_bodySF (plainFor_of_name pn_java_2flang_2fString) hisR ?_
  intro p e s m args below meth c s₁ Bd hml0 hP hK
  obtain ⟨rfl, hZ, hh⟩ := hP
  have W_ : ∀ {d : Jvm.Cond} (i : Nat), tables_1[i]? = some d → d.before a0 Z = true := fun i h => hw _ (List.mem_of_getElem? h)
  have hx := Bd.exec
  have hby := Bd.bytes
  have hml : c.maxLocals = 1 := hml0
  have hown : s.vm.findClass "java/lang/String" = some m.cls := findClass_of_methodNamed Bd.named
  have hnm := (name_of_methodNamed Bd.named Bd.method).1
  have X0 : Stand p l e ({ frames := 0, cells := 0, slots := 0, locals := 0 } : Room) s m #[(.ref a)] below meth c s₁ [] 0 0 := Stand.of_body Bd
  have e0 : s₁.heap = h0 := by rw [← hh, Bd.state]; rfl
  have N0 := Fr.nil n0
  have K0 := Keep.refl h0 []
  refine own_G.start (Q := Q_isEmp Z a t n h0 n0) (ef_isEmp m a) ?_
  refine own_G.sk 1 [(.ref a)] (fun _ kq => XS.aloadN X0.here hx rfl (hb hby d36_0) rfl rfl kq) ?_
  obtain ⟨T1, X1, e1, st1⟩ := getF X0 hx hZ hown (host := "") (Or.inl (W_ 24 rfl)) Via.refl e0 Fv (g := (mkF m 1 #[rv a] [(.ref a)])) rfl rfl (hb hby d36_1)
  refine own_G.st (T' := T1) 4 [(.ref t)] st1 ?_
  obtain ⟨cl2, ty2, Ar2, Sz2, Nz2⟩ := id LN
  refine own_G.step (g' := (mkF m 5 #[rv a] [(.int n)])) (fun tq_ kq_ => X1.arraylength hx (by rw [e1]; exact Ar2.1) (State.isArrayOf_alike hZ.alike Ar2.2.1) (g := (mkF m 4 #[rv a] [(.ref t)])) rfl rfl (hb hby d36_4) _ (by rw [len_of Sz2 Nz2]; exact kq_)) ?_
  rcases Classical.em (n = (0 : Int32)) with hc5 | hc5
  · refine own_G.sk 8 [] (fun _ kq => XS.ifNo X1.here hx rfl (hb hby d36_5) rfl ((if0 _ _).trans (teq hc5).2) kq) ?_
    refine own_G.sk 9 [(.int 1)] (fun _ kq => XS.iconst X1.here hx rfl (hb hby d36_8) kq) ?_
    refine own_G.sk 13 [(.int 1)] (fun _ kq => XS.goto X1.here hx rfl (pc0 := 9) (pc' := 13) rfl (hb hby d36_9) (by decide) (by decide) kq) ?_
    exact own_ret X1 e1 (v := some (.int 1)) (fun h => by rw [Bd.returns] at h; cases h) Bd.notSynchronized ⟨(by simp [own_emp, hc5]), N0, rfl⟩ (by decide) (by decide) (fun fs hr => retN X1 hx (t := .boolean) Bd.returns (by simp) (hb hby d36_13) hr)
  · refine own_G.sk 12 [] (fun _ kq => XS.ifYes X1.here hx rfl (pc0 := 5) (pc' := 12) rfl (hb hby d36_5) rfl ((if0 _ _).trans (feq hc5).2) (by decide) (by decide) kq) ?_
    refine own_G.sk 13 [(.int 0)] (fun _ kq => XS.iconst X1.here hx rfl (hb hby d36_12) kq) ?_
    exact own_ret X1 e1 (v := some (.int 0)) (fun h => by rw [Bd.returns] at h; cases h) Bd.notSynchronized ⟨(by simp [own_emp, hc5]), N0, rfl⟩ (by decide) (by decide) (fun fs hr => retN X1 hx (t := .boolean) Bd.returns (by simp) (hb hby d36_13) hr)
theorem d3_0 : decode jdk_42_method_149_code 0 = .ok (.aload_n 0, 1) := by decide +kernel
theorem d3_1 : decode jdk_42_method_149_code 1 = .ok (.invokespecial 1, 3) := by decide +kernel
theorem d3_4 : decode jdk_42_method_149_code 4 = .ok (.iload_n 3, 1) := by decide +kernel
theorem d3_5 : decode jdk_42_method_149_code 5 = .ok (.ifCond .ne 22, 3) := by decide +kernel
theorem d3_8 : decode jdk_42_method_149_code 8 = .ok (.aload_n 0, 1) := by decide +kernel
theorem d3_9 : decode jdk_42_method_149_code 9 = .ok (.ldc 7, 2) := by decide +kernel
theorem d3_11 : decode jdk_42_method_149_code 11 = .ok (.getfield 9, 3) := by decide +kernel
theorem d3_14 : decode jdk_42_method_149_code 14 = .ok (.putfield 9, 3) := by decide +kernel
theorem d3_17 : decode jdk_42_method_149_code 17 = .ok (.aload_n 0, 1) := by decide +kernel
theorem d3_18 : decode jdk_42_method_149_code 18 = .ok (.ldc 7, 2) := by decide +kernel
theorem d3_20 : decode jdk_42_method_149_code 20 = .ok (.getfield 15, 3) := by decide +kernel
theorem d3_23 : decode jdk_42_method_149_code 23 = .ok (.putfield 15, 3) := by decide +kernel
theorem d3_26 : decode jdk_42_method_149_code 26 = .ok (.return_, 1) := by decide +kernel
theorem own_wSm : ∀ d ∈ Bundle.stringAtoms, d ∈ tables_1 := by
  intro d hd
  have hd : d ∈ ([.initialized "java/lang/String", .instantiable "java/lang/String" 4, .arrayClass .byte, .laysFinal "java/lang/String" "java/lang/String" "value" "[B", .laysFinal "java/lang/String" "java/lang/String" "coder" "B", .soleField "java/lang/String" "value", .soleField "java/lang/String" "coder"] : List Jvm.Cond) := hd
  simp only [List.mem_cons, List.not_mem_nil, or_false] at hd
  rcases hd with rfl | rfl | rfl | rfl | rfl | rfl | rfl
  · exact List.mem_of_getElem? (i := 6) rfl
  · exact List.mem_of_getElem? (i := 5) rfl
  · exact List.mem_of_getElem? (i := 19) rfl
  · exact List.mem_of_getElem? (i := 20) rfl
  · exact List.mem_of_getElem? (i := 21) rfl
  · exact List.mem_of_getElem? (i := 22) rfl
  · exact List.mem_of_getElem? (i := 23) rfl
theorem ef_str0v (m : MethodId) (a : Addr) (ar : Addr) : entryFrame m #[(.ref a), (.ref ar), (.int 0), (.int 0), .null] 6 = mkF m 0 #[rv a, rv ar, iv 0, iv 0, .val .null, .unset] [] := by
  first | (simp [entryFrame, mkF, argsToLocals, Value.category]; done) | rfl
def Q_str0v (Z : State) (a : Addr) (ar : Addr) (h0 : Heap) (n0 : Nat) (v : Option Value) (h : Heap) (L : List Loc) : Prop := ∃ (t : Addr), ∃ (kb : ClassId), v = none ∧ Fr n0 L ∧ Keep h0 h [a] ∧ Exa Z h a "java/lang/String" ∧ Fld Z h a "java/lang/String" "value" "[B" (.ref t) ∧ Fld Z h a "java/lang/String" "coder" "B" (.int 0) ∧ Arv Z h t kb .byte (0 : Int32) [] (.int 0)
set_option maxRecDepth 65536 in
set_option maxHeartbeats 40000000 in
theorem rm_str0v (l : Launch) (Z : State) (a0 : Array Value) (hw : ∀ d ∈ tables_1, d.before a0 Z = true) (ws : List Jvm.Cond) (a : Addr) (ar : Addr) (h0 : Heap) (n0 : Nat) (O0 : Old Z n0 h0) (Ea : Exa Z h0 a "java/lang/String") (Fv : Fld Z h0 a "java/lang/String" "value" "[B" .null) (Fc : Fld Z h0 a "java/lang/String" "coder" "B" (.int 0)) (ga : n0 ≤ a) :
    MetFree l own_y1 (head1 (Jvm.Cond.code own_y1 jdk_42_method_149_code 6 none :: ws) ({ frames := 1, cells := 4, slots := 8, locals := 12 } : Room)) (fun aq_ Uq_ => aq_ = #[(.ref a), (.ref ar), (.int 0), (.int 0), .null] ∧ Z.Warmed39 Uq_.vm ∧ Uq_.heap = h0 ∧ CHv Z own_EL Uq_.vm h0) (fun _ _ _ _ _ => True) (fun _ Uq_ oq_ Ur_ => ∃ vq_ Lq_, oq_ = .returned vq_ ∧ Q_str0v Z a ar h0 n0 vq_ Ur_.heap Lq_ ∧ CHr Z own_EL Uq_.vm Uq_.heap Ur_.vm Ur_.heap ∧ ReturnedEndW Uq_ oq_ Ur_ Lq_ ({ frames := 1, cells := 4, slots := 8, locals := 12 } : Room).cells ({ frames := 1, cells := 4, slots := 8, locals := 12 } : Room).slots) := by
  refine MetFree.of_bodySF (plainFor_of_name pn_java_2flang_2fString) hisR ?_
  intro p e s m args below meth c s₁ Bd hml0 hP hK
  obtain ⟨rfl, hZ, hh, hH⟩ := hP
  have W_ : ∀ {d : Jvm.Cond} (i : Nat), tables_1[i]? = some d → d.before a0 Z = true := fun i h => hw _ (List.mem_of_getElem? h)
  have hx := Bd.exec
  have hby := Bd.bytes
  have hml : c.maxLocals = 6 := hml0
  have hown : s.vm.findClass "java/lang/String" = some m.cls := findClass_of_methodNamed Bd.named
  have hnm := (name_of_methodNamed Bd.named Bd.method).1
  have X0 : Stand p l e ({ frames := 1, cells := 4, slots := 8, locals := 12 } : Room) (s.setVm s.vm) m #[(.ref a), (.ref ar), (.int 0), (.int 0), .null] below meth c s₁ [] 0 0 := Stand.of_body Bd
  have e0 : s₁.heap = h0 := by rw [← hh, Bd.state]; rfl
  have N0 := Fr.nil n0
  have K0 := Keep.refl h0 [a]
  have hS : s.Since s.vm s.heap.size := (State.WarmedH.refl s).since _
  have hkS : s.heap.size ≤ h0.size := by rw [hh]; exact Nat.le_refl _
  have hZ : Z.Warmed39 (s.setVm s.vm).vm := hZ
  have hown : (s.setVm s.vm).vm.findClass "java/lang/String" = some m.cls := hown
  have own_wS : ∀ a ∈ Bundle.stringAtoms, a.before a0 Z = true := fun d hd => hw d (own_wSm d hd)
  have ew := own_EW Z a0 hw
  have hR := CHr.refl hH
  refine own_GH.start (Q := Q_str0v Z a ar h0 n0) (ef_str0v m a ar) ?_
  have sfa : Safe Z own_EL s.vm h0 a := own_safe_null hZ.alike Ea Fv
  refine own_GH.sk 1 [(.ref a)] (fun _ kq => XS.aloadN X0.here hx rfl (hb hby d3_0) rfl rfl kq) ?_
  obtain ⟨T1, X1, e1, st1⟩ := initO X0 hx hZ hown (W_ 15 rfl) (W_ 16 rfl) (W_ 17 rfl) e0 (g := (mkF m 1 #[rv a, rv ar, iv 0, iv 0, .val .null, .unset] [(.ref a)])) rfl (by rw [hml]; rfl) rfl (hb hby d3_1) (by decide) (W := 0) (by show 2 * 0 + _ ≤ _; exact Nat.le_of_eq rfl) (by decide)
  refine own_GH.st (T' := T1) 4 [] st1 ?_
  refine own_GH.sk 5 [(.int 0)] (fun _ kq => XS.iloadN X1.here hx rfl (hb hby d3_4) rfl kq) ?_
  have hc5 : (0 : Int32) = (0 : Int32) := (by decide)
  refine own_GH.sk 8 [] (fun _ kq => XS.ifNo X1.here hx rfl (hb hby d3_5) rfl ((if0 _ _).trans (teq hc5).2) kq) ?_
  refine own_GH.sk 9 [(.ref a)] (fun _ kq => XS.aloadN X1.here hx rfl (hb hby d3_8) rfl rfl kq) ?_
  obtain ⟨a2, T2, h2, k2, b2, kb2, X2, e2, E2, hS, hkS, hZ, hown, Es2, Fc2, Fv2, Av2, lta2, ltb2, ch2, Li2, nq2, st2⟩ := ldcCH (vm0 := s.vm) X1 hx hZ hown (W_ 18 rfl) own_wS e1 hS hkS ew (by decide) hH (vs := []) (z := (0 : Int32)) (by decide +kernel) (by decide) (by decide) (g := (mkF m 9 #[rv a, rv ar, iv 0, iv 0, .val .null, .unset] [(.ref a)])) rfl (hb hby d3_9) (n := 0) (by decide +kernel) (by decide) (by decide) (by decide)
  have sf3 := ch2.safe Ea.lt sfa
  have hR := hR.trans ch2
  have hH := ch2.1
  have F4 := Ea.ext E2
  have F5 := Fv.ext E2
  have F6 := Fc.ext E2
  have O7 := O0.ext E2
  have K8 := K0.ext E2
  refine own_GH.st (T' := T2) 11 [(.ref a2), (.ref a)] st2 ?_
  obtain ⟨T9, X9, e9, st9⟩ := getF X2 hx hZ hown (host := "") (Or.inl (W_ 24 rfl)) Via.refl e2 Fv2 (g := (mkF m 11 #[rv a, rv ar, iv 0, iv 0, .val .null, .unset] [(.ref a2), (.ref a)])) rfl rfl (hb hby d3_11)
  refine own_GH.st (T' := T9) 14 [(.ref b2), (.ref a)] st9 ?_
  obtain ⟨T10, h10, X10, e10, W10, st10⟩ := putF X9 hx hZ hown (host := "") (Or.inl (W_ 24 rfl)) Via.refl e9 F5 F4 (Or.inr ⟨(W_ 20 rfl), rfl, hnm⟩) (W_ 5 rfl) (ty := (.array .byte)) (by decide) rfl rfl (g := (mkF m 14 #[rv a, rv ar, iv 0, iv 0, .val .null, .unset] [(.ref b2), (.ref a)])) rfl rfl (hb hby d3_14)
  have N10 := Fr.snoc X10 N0 ga
  have hkS := Nat.le_trans hkS (Keep.of_wr W10).1
  have sf11 := Safe.wr W10 sf3 hH sf3
  have hR := hR.trans (CHr.wr W10 sf3 hH)
  have hH := CHv.wr W10 sf3 hH
  have F12 := F4.wr W10
  have F13 := F5.same W10
  have F14 := F6.other W10 (Or.inr (slot_ne (Or.inr (W_ 21 rfl)) (Or.inr (W_ 20 rfl)) (by decide) (t := .byte) (t' := (.array .byte)) (by decide) (by decide)))
  have F15 := Es2.wr W10
  have F16 := Fc2.other W10 (Or.inl (Ne.symm (nq2 _ sf3).1))
  have F17 := Fv2.other W10 (Or.inl (Ne.symm (nq2 _ sf3).1))
  have F18 := Av2.other W10 (Ne.symm (nq2 _ sf3).2)
  have O19 := O7.wr W10 ga
  have K20 := K8.wr W10 (Or.inl (List.mem_of_getElem? (i := 0) rfl))
  refine own_GH.st (T' := T10) 17 [] st10 ?_
  refine own_GH.sk 18 [(.ref a)] (fun _ kq => XS.aloadN X10.here hx rfl (hb hby d3_17) rfl rfl kq) ?_
  obtain ⟨a21, T21, h21, k21, b21, kb21, X21, e21, E21, hS, hkS, hZ, hown, Es21, Fc21, Fv21, Av21, lta21, ltb21, ch21, Li21, nq21, st21⟩ := ldcCH (vm0 := T2.vm) X10 hx hZ hown (W_ 18 rfl) own_wS e10 hS hkS ew (by decide) hH (vs := []) (z := (0 : Int32)) (by decide +kernel) (by decide) (by decide) (g := (mkF m 18 #[rv a, rv ar, iv 0, iv 0, .val .null, .unset] [(.ref a)])) rfl (hb hby d3_18) (n := 0) (by decide +kernel) (by decide) (by decide) (by decide)
  have sf22 := ch21.safe F12.lt sf11
  have hR := hR.trans ch21
  have hH := ch21.1
  have F23 := F12.ext E21
  have F24 := F13.ext E21
  have F25 := F14.ext E21
  have F26 := F15.ext E21
  have F27 := F16.ext E21
  have F28 := F17.ext E21
  have F29 := F18.ext E21
  have O30 := O19.ext E21
  have K31 := K20.ext E21
  refine own_GH.st (T' := T21) 20 [(.ref a21), (.ref a)] st21 ?_
  obtain ⟨T36, X36, e36, st36⟩ := getF X21 hx hZ hown (host := "") (Or.inl (W_ 25 rfl)) Via.refl e21 Fc21 (g := (mkF m 20 #[rv a, rv ar, iv 0, iv 0, .val .null, .unset] [(.ref a21), (.ref a)])) rfl rfl (hb hby d3_20)
  refine own_GH.st (T' := T36) 23 [(.int 0), (.ref a)] st36 ?_
  obtain ⟨T37, h37, X37, e37, W37, st37⟩ := putFN X36 hx hZ hown (W_ 25 rfl) Via.refl e36 F25 F23 (Or.inr ⟨(W_ 21 rfl), rfl, hnm⟩) (W_ 5 rfl) (ty := .byte) (v' := (.int (nar .byte (0 : Int32)))) (by decide) rfl (fits_nar_byte _) (g := (mkF m 23 #[rv a, rv ar, iv 0, iv 0, .val .null, .unset] [(.int 0), (.ref a)])) rfl rfl (hb hby d3_23)
  have N37 := Fr.snoc X37 N10 ga
  have hkS := Nat.le_trans hkS (Keep.of_wr W37).1
  have sf38 := Safe.wr W37 sf22 hH sf22
  have hR := hR.trans (CHr.wr W37 sf22 hH)
  have hH := CHv.wr W37 sf22 hH
  have F39 := F23.wr W37
  have F40 := F24.other W37 (Or.inr (slot_ne (Or.inr (W_ 20 rfl)) (Or.inr (W_ 21 rfl)) (by decide) (t := (.array .byte)) (t' := .byte) (by decide) (by decide)))
  have F41 := F25.same W37
  have F42 := F26.wr W37
  have F43 := F27.other W37 (Or.inl (Ne.symm (nq2 _ sf3).1))
  have F44 := F28.other W37 (Or.inl (Ne.symm (nq2 _ sf3).1))
  have F45 := F29.other W37 (Ne.symm (nq2 _ sf3).2)
  have F46 := Es21.wr W37
  have F47 := Fc21.other W37 (Or.inl (Ne.symm (nq21 _ sf22).1))
  have F48 := Fv21.other W37 (Or.inl (Ne.symm (nq21 _ sf22).1))
  have F49 := Av21.other W37 (Ne.symm (nq21 _ sf22).2)
  have O50 := O30.wr W37 ga
  have K51 := K31.wr W37 (Or.inl (List.mem_of_getElem? (i := 0) rfl))
  refine own_GH.st (T' := T37) 26 [] st37 ?_
  exact own_retH X37 hS e37 hkS hZ ew hH hh hR (v := none) (fun _ => rfl) Bd.notSynchronized ⟨b2, kb2, rfl, N37, K51, F39, F40, F41, F45⟩ (by decide) (by decide) (fun fs hr => X37.returnOut hx Bd.returns (hb hby d3_26) hr)
theorem pd__28_5bCIILjava_2flang_2fVoid_3b_29V : parseMethodDescriptor "([CIILjava/lang/Void;)V" = some ⟨[(.array .char), .int, .int, (.object "java/lang/Void")], none⟩ := by decide +kernel
theorem d2_0 : decode jdk_42_method_3_code 0 = .ok (.aload_n 0, 1) := by decide +kernel
theorem d2_1 : decode jdk_42_method_3_code 1 = .ok (.aload_n 1, 1) := by decide +kernel
theorem d2_2 : decode jdk_42_method_3_code 2 = .ok (.iconst 0, 1) := by decide +kernel
theorem d2_3 : decode jdk_42_method_3_code 3 = .ok (.aload_n 1, 1) := by decide +kernel
theorem d2_4 : decode jdk_42_method_3_code 4 = .ok (.arraylength, 1) := by decide +kernel
theorem d2_5 : decode jdk_42_method_3_code 5 = .ok (.aconst_null, 1) := by decide +kernel
theorem d2_6 : decode jdk_42_method_3_code 6 = .ok (.invokespecial 27, 3) := by decide +kernel
theorem d2_9 : decode jdk_42_method_3_code 9 = .ok (.return_, 1) := by decide +kernel
theorem ef_str0 (m : MethodId) (a : Addr) (ar : Addr) : entryFrame m #[(.ref a), (.ref ar)] 2 = mkF m 0 #[rv a, rv ar] [] := by
  first | (simp [entryFrame, mkF, argsToLocals, Value.category]; done) | rfl
def Q_str0 (Z : State) (a : Addr) (ar : Addr) (h0 : Heap) (n0 : Nat) (v : Option Value) (h : Heap) (L : List Loc) : Prop := ∃ (t : Addr), ∃ (kb : ClassId), v = none ∧ Fr n0 L ∧ Keep h0 h [a] ∧ Exa Z h a "java/lang/String" ∧ Fld Z h a "java/lang/String" "value" "[B" (.ref t) ∧ Fld Z h a "java/lang/String" "coder" "B" (.int 0) ∧ Arv Z h t kb .byte (0 : Int32) [] (.int 0)
set_option maxRecDepth 65536 in
set_option maxHeartbeats 40000000 in
theorem rm_str0 (l : Launch) (Z : State) (a0 : Array Value) (hw : ∀ d ∈ tables_1, d.before a0 Z = true) (ws : List Jvm.Cond) (a : Addr) (ar : Addr) (h0 : Heap) (n0 : Nat) (O0 : Old Z n0 h0) (Ea : Exa Z h0 a "java/lang/String") (Fv : Fld Z h0 a "java/lang/String" "value" "[B" .null) (Fc : Fld Z h0 a "java/lang/String" "coder" "B" (.int 0)) (ga : n0 ≤ a) (LN : own_Len Z h0 ar (0 : Int32)) :
    MetFree l own_y2 (head1 (Jvm.Cond.code own_y2 jdk_42_method_3_code 2 none :: ws) ({ frames := 2, cells := 4, slots := 8, locals := 29 } : Room)) (fun aq_ Uq_ => aq_ = #[(.ref a), (.ref ar)] ∧ Z.Warmed39 Uq_.vm ∧ Uq_.heap = h0 ∧ CHv Z own_EL Uq_.vm h0) (fun _ _ _ _ _ => True) (fun _ Uq_ oq_ Ur_ => ∃ vq_ Lq_, oq_ = .returned vq_ ∧ Q_str0 Z a ar h0 n0 vq_ Ur_.heap Lq_ ∧ CHr Z own_EL Uq_.vm Uq_.heap Ur_.vm Ur_.heap ∧ ReturnedEndW Uq_ oq_ Ur_ Lq_ ({ frames := 2, cells := 4, slots := 8, locals := 29 } : Room).cells ({ frames := 2, cells := 4, slots := 8, locals := 29 } : Room).slots) := by
  refine MetFree.of_bodySF (plainFor_of_name pn_java_2flang_2fString) hisR ?_
  intro p e s m args below meth c s₁ Bd hml0 hP hK
  obtain ⟨rfl, hZ, hh, hH⟩ := hP
  have W_ : ∀ {d : Jvm.Cond} (i : Nat), tables_1[i]? = some d → d.before a0 Z = true := fun i h => hw _ (List.mem_of_getElem? h)
  have hx := Bd.exec
  have hby := Bd.bytes
  have hml : c.maxLocals = 2 := hml0
  have hown : s.vm.findClass "java/lang/String" = some m.cls := findClass_of_methodNamed Bd.named
  have hnm := (name_of_methodNamed Bd.named Bd.method).1
  have X0 : Stand p l e ({ frames := 2, cells := 4, slots := 8, locals := 29 } : Room) (s.setVm s.vm) m #[(.ref a), (.ref ar)] below meth c s₁ [] 0 0 := Stand.of_body Bd
  have e0 : s₁.heap = h0 := by rw [← hh, Bd.state]; rfl
  have N0 := Fr.nil n0
  have K0 := Keep.refl h0 [a]
  have hS : s.Since s.vm s.heap.size := (State.WarmedH.refl s).since _
  have hkS : s.heap.size ≤ h0.size := by rw [hh]; exact Nat.le_refl _
  have hZ : Z.Warmed39 (s.setVm s.vm).vm := hZ
  have hown : (s.setVm s.vm).vm.findClass "java/lang/String" = some m.cls := hown
  have ew := own_EW Z a0 hw
  have hR := CHr.refl hH
  refine own_GH.start (Q := Q_str0 Z a ar h0 n0) (ef_str0 m a ar) ?_
  have sfa : Safe Z own_EL s.vm h0 a := own_safe_null hZ.alike Ea Fv
  refine own_GH.sk 1 [(.ref a)] (fun _ kq => XS.aloadN X0.here hx rfl (hb hby d2_0) rfl rfl kq) ?_
  refine own_GH.sk 2 [(.ref ar), (.ref a)] (fun _ kq => XS.aloadN X0.here hx rfl (hb hby d2_1) rfl rfl kq) ?_
  refine own_GH.sk 3 [(.int 0), (.ref ar), (.ref a)] (fun _ kq => XS.iconst X0.here hx rfl (hb hby d2_2) kq) ?_
  refine own_GH.sk 4 [(.ref ar), (.int 0), (.ref ar), (.ref a)] (fun _ kq => XS.aloadN X0.here hx rfl (hb hby d2_3) rfl rfl kq) ?_
  obtain ⟨cl1, ty1, Ar1, Sz1, Nz1⟩ := id LN
  refine own_GH.step (g' := (mkF m 5 #[rv a, rv ar] [(.int 0), (.int 0), (.ref ar), (.ref a)])) (fun tq_ kq_ => X0.arraylength hx (by rw [e0]; exact Ar1.1) (State.isArrayOf_alike hZ.alike Ar1.2.1) (g := (mkF m 4 #[rv a, rv ar] [(.ref ar), (.int 0), (.ref ar), (.ref a)])) rfl rfl (hb hby d2_4) _ (by rw [len_of Sz1 Nz1]; exact kq_)) ?_
  refine own_GH.sk 6 [.null, (.int 0), (.int 0), (.ref ar), (.ref a)] (fun _ kq => XS.aconstNull X0.here hx rfl (hb hby d2_5) kq) ?_
  obtain ⟨_, _, ⟨T2, L2, k2, n2⟩, -, X2, sS2, gS2, ⟨Lc2, hQ2, l2, y2, z2, ch2⟩, st2⟩ := X0.specialBackS hx (y := own_y1) rfl hown (mvT hZ (W_ 11 rfl)) (mvT hZ (W_ 12 rfl)) (mvT hZ (W_ 14 rfl)) (by decide) (backOfSH (vm0 := s.vm) (W := 0) (rm_str0v l Z a0 hw [] a ar h0 n0 O0 Ea Fv Fc ga) hZ (W_ 14 rfl) (W_ 6 rfl) (by decide) (by decide) ew hH) (g := (mkF m 6 #[rv a, rv ar] [.null, (.int 0), (.int 0), (.ref ar), (.ref a)])) rfl (by rw [hml]; rfl) (Steps.refl _) (a := a) (argsL := [(.ref ar), (.int 0), (.int 0), .null]) (rest := []) (lenOf pd__28_5bCIILjava_2flang_2fVoid_3b_29V rfl) rfl (by show 2 * 0 + _ ≤ _; exact Nat.le_of_eq rfl) (hb hby d2_6) (fun _ _ => ⟨rfl, e0, (by decide : 0 + 4 ≤ _), (by decide : 0 + 8 ≤ _)⟩)
  dsimp only [Pt.U, Pt.locs, Pt.cells, Pt.slots] at X2 l2 y2 z2 st2 hQ2 sS2 gS2 ch2
  subst l2 y2 z2
  obtain ⟨X2, hS, hZ, hown⟩ := rebS (vm0 := s.vm) hS (by rw [e0]; exact hkS) X2 sS2 gS2 hZ hown
  have sf3 := ch2.safe Ea.lt sfa
  have hR := hR.trans ch2
  have hH := ch2.1
  obtain ⟨b4, x5, rfl, Nq2, P6, P7, P8, P9, P10⟩ := hQ2
  have N2 := Fr.app N0 Nq2
  have hkS := Nat.le_trans hkS P6.1
  have F11 := Ea.keep P6
  have O12 := O0.keep P6 (allS ga all0)
  have K13 := K0.trans P6 (allS (Or.inl (List.mem_of_getElem? (i := 0) rfl)) all0)
  have hkS : T2.heap.size ≤ T2.heap.size := Nat.le_refl _
  refine own_GH.st (T' := T2) 9 [] (fun _ kq => st2.trans kq) ?_
  exact own_retH X2 hS rfl hkS hZ ew hH hh hR (v := none) (fun _ => rfl) Bd.notSynchronized ⟨b4, x5, rfl, N2, K13, P7, P8, P9, P10⟩ (by decide) (by decide) (fun fs hr => X2.returnOut hx Bd.returns (hb hby d2_9) hr)
theorem d5_0 : decode prog_12_method_1_code 0 = .ok (.aload_n 0, 1) := by decide +kernel
theorem d5_1 : decode prog_12_method_1_code 1 = .ok (.invokespecial 1, 3) := by decide +kernel
theorem d5_4 : decode prog_12_method_1_code 4 = .ok (.return_, 1) := by decide +kernel
theorem pn_com_2fexample_2fconcordant_2fconcordant_2fmodel_2fSchema : plainName "com/example/concordant/concordant/model/Schema" = true := by first | (simp [plainName, overriddenIn]; done) | decide +kernel
theorem ef_schinit (m : MethodId) (a : Addr) : entryFrame m #[(.ref a)] 1 = mkF m 0 #[rv a] [] := by
  first | (simp [entryFrame, mkF, argsToLocals, Value.category]; done) | rfl
def Q_schinit (Z : State) (a : Addr) (h0 : Heap) (n0 : Nat) (v : Option Value) (h : Heap) (L : List Loc) : Prop := v = none ∧ Fr n0 L ∧ h = h0
set_option maxRecDepth 65536 in
set_option maxHeartbeats 40000000 in
theorem rm_schinit (l : Launch) (Z : State) (a0 : Array Value) (hw : ∀ d ∈ tables_1, d.before a0 Z = true) (ws : List Jvm.Cond) (a : Addr) (h0 : Heap) (n0 : Nat) (O0 : Old Z n0 h0) :
    MetFree l own_y3 (head1 (Jvm.Cond.code own_y3 prog_12_method_1_code 1 none :: ws) ({ frames := 1, cells := 0, slots := 0, locals := 12 } : Room)) (fun aq_ Uq_ => aq_ = #[(.ref a)] ∧ Z.Warmed39 Uq_.vm ∧ Uq_.heap = h0) (fun _ _ _ _ _ => True) (fun _ Uq_ oq_ Ur_ => ∃ vq_ Lq_, oq_ = .returned vq_ ∧ Q_schinit Z a h0 n0 vq_ Ur_.heap Lq_ ∧ FrameEnd Uq_ oq_ Ur_ Lq_ ({ frames := 1, cells := 0, slots := 0, locals := 12 } : Room).cells ({ frames := 1, cells := 0, slots := 0, locals := 12 } : Room).slots) := by
  refine MetFree.of_bodySF (plainFor_of_name pn_com_2fexample_2fconcordant_2fconcordant_2fmodel_2fSchema) hisR ?_
  intro p e s m args below meth c s₁ Bd hml0 hP hK
  obtain ⟨rfl, hZ, hh⟩ := hP
  have W_ : ∀ {d : Jvm.Cond} (i : Nat), tables_1[i]? = some d → d.before a0 Z = true := fun i h => hw _ (List.mem_of_getElem? h)
  have hx := Bd.exec
  have hby := Bd.bytes
  have hml : c.maxLocals = 1 := hml0
  have hown : s.vm.findClass "com/example/concordant/concordant/model/Schema" = some m.cls := findClass_of_methodNamed Bd.named
  have hnm := (name_of_methodNamed Bd.named Bd.method).1
  have X0 : Stand p l e ({ frames := 1, cells := 0, slots := 0, locals := 12 } : Room) s m #[(.ref a)] below meth c s₁ [] 0 0 := Stand.of_body Bd
  have e0 : s₁.heap = h0 := by rw [← hh, Bd.state]; rfl
  have N0 := Fr.nil n0
  have K0 := Keep.refl h0 []
  refine own_G.start (Q := Q_schinit Z a h0 n0) (ef_schinit m a) ?_
  refine own_G.sk 1 [(.ref a)] (fun _ kq => XS.aloadN X0.here hx rfl (hb hby d5_0) rfl rfl kq) ?_
  obtain ⟨T1, X1, e1, st1⟩ := initO X0 hx hZ hown (W_ 32 rfl) (W_ 16 rfl) (W_ 17 rfl) e0 (g := (mkF m 1 #[rv a] [(.ref a)])) rfl (by rw [hml]; rfl) rfl (hb hby d5_1) (by decide) (W := 0) (by show 2 * 0 + _ ≤ _; exact Nat.le_of_eq rfl) (by decide)
  refine own_G.st (T' := T1) 4 [] st1 ?_
  exact own_ret X1 e1 (v := none) (fun _ => rfl) Bd.notSynchronized ⟨rfl, N0, rfl⟩ (by decide) (by decide) (fun fs hr => X1.returnOut hx Bd.returns (hb hby d5_4) hr)
theorem d6_0 : decode prog_12_method_2_code 0 = .ok (.getstatic 7, 3) := by decide +kernel
theorem d6_3 : decode prog_12_method_2_code 3 = .ok (.areturn, 1) := by decide +kernel
theorem ef_uncon (m : MethodId)  : entryFrame m #[] 0 = mkF m 0 #[] [] := by
  first | (simp [entryFrame, mkF, argsToLocals, Value.category]; done) | rfl
def Q_uncon (Z : State) (u0 : Addr) (h0 : Heap) (n0 : Nat) (v : Option Value) (h : Heap) (L : List Loc) : Prop := v = some (.ref u0) ∧ Fr n0 L ∧ h = h0
set_option maxRecDepth 65536 in
set_option maxHeartbeats 40000000 in
theorem rm_uncon (l : Launch) (Z : State) (a0 : Array Value) (hw : ∀ d ∈ tables_1, d.before a0 Z = true) (ws : List Jvm.Cond) (u0 : Addr) (h0 : Heap) (n0 : Nat) (O0 : Old Z n0 h0) (S_UNCONSTRAINED : Sta Z Z.heap "com/example/concordant/concordant/model/Schema" "UNCONSTRAINED" "Lcom/example/concordant/concordant/model/Schema;" (.ref u0)) :
    MetFree l own_y4 (head1 (Jvm.Cond.code own_y4 prog_12_method_2_code 0 (some (.object "com/example/concordant/concordant/model/Schema")) :: ws) ({ frames := 0, cells := 0, slots := 0, locals := 0 } : Room)) (fun aq_ Uq_ => aq_ = #[] ∧ Z.Warmed39 Uq_.vm ∧ Uq_.heap = h0) (fun _ _ _ _ _ => True) (fun _ Uq_ oq_ Ur_ => ∃ vq_ Lq_, oq_ = .returned vq_ ∧ Q_uncon Z u0 h0 n0 vq_ Ur_.heap Lq_ ∧ FrameEnd Uq_ oq_ Ur_ Lq_ ({ frames := 0, cells := 0, slots := 0, locals := 0 } : Room).cells ({ frames := 0, cells := 0, slots := 0, locals := 0 } : Room).slots) := by
  refine MetFree.of_bodySF (plainFor_of_name pn_com_2fexample_2fconcordant_2fconcordant_2fmodel_2fSchema) hisR ?_
  intro p e s m args below meth c s₁ Bd hml0 hP hK
  obtain ⟨rfl, hZ, hh⟩ := hP
  have W_ : ∀ {d : Jvm.Cond} (i : Nat), tables_1[i]? = some d → d.before a0 Z = true := fun i h => hw _ (List.mem_of_getElem? h)
  have hx := Bd.exec
  have hby := Bd.bytes
  have hml : c.maxLocals = 0 := hml0
  have hown : s.vm.findClass "com/example/concordant/concordant/model/Schema" = some m.cls := findClass_of_methodNamed Bd.named
  have hnm := (name_of_methodNamed Bd.named Bd.method).1
  have X0 : Stand p l e ({ frames := 0, cells := 0, slots := 0, locals := 0 } : Room) s m #[] below meth c s₁ [] 0 0 := Stand.of_body Bd
  have e0 : s₁.heap = h0 := by rw [← hh, Bd.state]; rfl
  have N0 := Fr.nil n0
  have K0 := Keep.refl h0 []
  refine own_G.start (Q := Q_uncon Z u0 h0 n0) (ef_uncon m ) ?_
  obtain ⟨T1, X1, e1, st1⟩ := getS2 X0 hx hZ hown (host := "") (Or.inl (W_ 36 rfl)) Via.refl e0 (Sta.ext O0.2 S_UNCONSTRAINED) (g := (mkF m 0 #[] [])) rfl (hb hby d6_0)
  refine own_G.st (T' := T1) 3 [(.ref u0)] st1 ?_
  exact own_ret X1 e1 (v := some (.ref u0)) (fun h => by rw [Bd.returns] at h; cases h) Bd.notSynchronized ⟨rfl, N0, rfl⟩ (by decide) (by decide) (fun fs hr => own_retR X1 hx Bd.returns rfl rfl (hb hby d6_3) hr)
theorem d7_0 : decode method_3_code 0 = .ok (.iload_n 0, 1) := by decide +kernel
theorem d7_1 : decode method_3_code 1 = .ok (.ifCond .ne 5, 3) := by decide +kernel
theorem d7_4 : decode method_3_code 4 = .ok (.aload_n 1, 1) := by decide +kernel
theorem d7_5 : decode method_3_code 5 = .ok (.areturn, 1) := by decide +kernel
theorem d7_6 : decode method_3_code 6 = .ok (.iload_n 0, 1) := by decide +kernel
theorem d7_7 : decode method_3_code 7 = .ok (.iconst 1, 1) := by decide +kernel
theorem d7_8 : decode method_3_code 8 = .ok (.if_icmp .ne 5, 3) := by decide +kernel
theorem d7_11 : decode method_3_code 11 = .ok (.aload_n 2, 1) := by decide +kernel
theorem d7_12 : decode method_3_code 12 = .ok (.areturn, 1) := by decide +kernel
theorem d7_13 : decode method_3_code 13 = .ok (.iload_n 0, 1) := by decide +kernel
theorem d7_14 : decode method_3_code 14 = .ok (.iconst 2, 1) := by decide +kernel
theorem d7_15 : decode method_3_code 15 = .ok (.if_icmp .ne 5, 3) := by decide +kernel
theorem d7_18 : decode method_3_code 18 = .ok (.aload_n 3, 1) := by decide +kernel
theorem d7_19 : decode method_3_code 19 = .ok (.areturn, 1) := by decide +kernel
theorem d7_20 : decode method_3_code 20 = .ok (.aconst_null, 1) := by decide +kernel
theorem d7_21 : decode method_3_code 21 = .ok (.areturn, 1) := by decide +kernel
theorem pn_com_2fexample_2fconcordant_2fconcordant_2frules_2fSchemaPairsRootPinLaw : plainName "com/example/concordant/concordant/rules/SchemaPairsRootPinLaw" = true := by first | (simp [plainName, overriddenIn]; done) | decide +kernel
theorem ef_pick (m : MethodId) (k : Int32) (xa : Addr) (xb : Addr) (xu : Addr) : entryFrame m #[(.int k), (.ref xa), (.ref xb), (.ref xu)] 4 = mkF m 0 #[iv k, rv xa, rv xb, rv xu] [] := by
  first | (simp [entryFrame, mkF, argsToLocals, Value.category]; done) | rfl
def Q_pick (Z : State) (k : Int32) (xa : Addr) (xb : Addr) (xu : Addr) (h0 : Heap) (n0 : Nat) (v : Option Value) (h : Heap) (L : List Loc) : Prop := v = some (own_pick k xa xb xu) ∧ Fr n0 L ∧ h = h0
set_option maxRecDepth 65536 in
set_option maxHeartbeats 40000000 in
theorem rm_pick (l : Launch) (Z : State) (a0 : Array Value) (hw : ∀ d ∈ tables_1, d.before a0 Z = true) (ws : List Jvm.Cond) (k : Int32) (xa : Addr) (xb : Addr) (xu : Addr) (h0 : Heap) (n0 : Nat) (O0 : Old Z n0 h0) :
    MetFree l own_y5 (head1 (Jvm.Cond.code own_y5 method_3_code 4 (some (.object "com/example/concordant/concordant/model/Schema")) :: ws) ({ frames := 0, cells := 0, slots := 0, locals := 0 } : Room)) (fun aq_ Uq_ => aq_ = #[(.int k), (.ref xa), (.ref xb), (.ref xu)] ∧ Z.Warmed39 Uq_.vm ∧ Uq_.heap = h0) (fun _ _ _ _ _ => True) (fun _ Uq_ oq_ Ur_ => ∃ vq_ Lq_, oq_ = .returned vq_ ∧ Q_pick Z k xa xb xu h0 n0 vq_ Ur_.heap Lq_ ∧ FrameEnd Uq_ oq_ Ur_ Lq_ ({ frames := 0, cells := 0, slots := 0, locals := 0 } : Room).cells ({ frames := 0, cells := 0, slots := 0, locals := 0 } : Room).slots) := by
  refine MetFree.of_bodySF (plainFor_of_name pn_com_2fexample_2fconcordant_2fconcordant_2frules_2fSchemaPairsRootPinLaw) hisR ?_
  intro p e s m args below meth c s₁ Bd hml0 hP hK
  obtain ⟨rfl, hZ, hh⟩ := hP
  have W_ : ∀ {d : Jvm.Cond} (i : Nat), tables_1[i]? = some d → d.before a0 Z = true := fun i h => hw _ (List.mem_of_getElem? h)
  have hx := Bd.exec
  have hby := Bd.bytes
  have hml : c.maxLocals = 4 := hml0
  have hown : s.vm.findClass "com/example/concordant/concordant/rules/SchemaPairsRootPinLaw" = some m.cls := findClass_of_methodNamed Bd.named
  have hnm := (name_of_methodNamed Bd.named Bd.method).1
  have X0 : Stand p l e ({ frames := 0, cells := 0, slots := 0, locals := 0 } : Room) s m #[(.int k), (.ref xa), (.ref xb), (.ref xu)] below meth c s₁ [] 0 0 := Stand.of_body Bd
  have e0 : s₁.heap = h0 := by rw [← hh, Bd.state]; rfl
  have N0 := Fr.nil n0
  have K0 := Keep.refl h0 []
  refine own_G.start (Q := Q_pick Z k xa xb xu h0 n0) (ef_pick m k xa xb xu) ?_
  refine own_G.sk 1 [(.int k)] (fun _ kq => XS.iloadN X0.here hx rfl (hb hby d7_0) rfl kq) ?_
  rcases Classical.em (k = (0 : Int32)) with hc1 | hc1
  · refine own_G.sk 4 [] (fun _ kq => XS.ifNo X0.here hx rfl (hb hby d7_1) rfl ((if0 _ _).trans (teq hc1).2) kq) ?_
    refine own_G.sk 5 [(.ref xa)] (fun _ kq => XS.aloadN X0.here hx rfl (hb hby d7_4) rfl rfl kq) ?_
    exact own_ret X0 e0 (v := some (.ref xa)) (fun h => by rw [Bd.returns] at h; cases h) Bd.notSynchronized ⟨(by simp [own_pick, hc1]), N0, rfl⟩ (by decide) (by decide) (fun fs hr => own_retR X0 hx Bd.returns rfl rfl (hb hby d7_5) hr)
  · refine own_G.sk 6 [] (fun _ kq => XS.ifYes X0.here hx rfl (pc0 := 1) (pc' := 6) rfl (hb hby d7_1) rfl ((if0 _ _).trans (feq hc1).2) (by decide) (by decide) kq) ?_
    refine own_G.sk 7 [(.int k)] (fun _ kq => XS.iloadN X0.here hx rfl (hb hby d7_6) rfl kq) ?_
    refine own_G.sk 8 [(.int 1), (.int k)] (fun _ kq => XS.iconst X0.here hx rfl (hb hby d7_7) kq) ?_
    rcases Classical.em (k = (1 : Int32)) with hc8 | hc8
    · refine own_G.sk 11 [] (fun _ kq => XS.icmpNo X0.here hx rfl (hb hby d7_8) rfl (teq hc8).2 kq) ?_
      refine own_G.sk 12 [(.ref xb)] (fun _ kq => XS.aloadN X0.here hx rfl (hb hby d7_11) rfl rfl kq) ?_
      exact own_ret X0 e0 (v := some (.ref xb)) (fun h => by rw [Bd.returns] at h; cases h) Bd.notSynchronized ⟨(by simp [own_pick, hc1, hc8]), N0, rfl⟩ (by decide) (by decide) (fun fs hr => own_retR X0 hx Bd.returns rfl rfl (hb hby d7_12) hr)
    · refine own_G.sk 13 [] (fun _ kq => XS.icmpYes X0.here hx rfl (pc0 := 8) (pc' := 13) rfl (hb hby d7_8) rfl (feq hc8).2 (by decide) (by decide) kq) ?_
      refine own_G.sk 14 [(.int k)] (fun _ kq => XS.iloadN X0.here hx rfl (hb hby d7_13) rfl kq) ?_
      refine own_G.sk 15 [(.int 2), (.int k)] (fun _ kq => XS.iconst X0.here hx rfl (hb hby d7_14) kq) ?_
      rcases Classical.em (k = (2 : Int32)) with hc15 | hc15
      · refine own_G.sk 18 [] (fun _ kq => XS.icmpNo X0.here hx rfl (hb hby d7_15) rfl (teq hc15).2 kq) ?_
        refine own_G.sk 19 [(.ref xu)] (fun _ kq => XS.aloadN X0.here hx rfl (hb hby d7_18) rfl rfl kq) ?_
        exact own_ret X0 e0 (v := some (.ref xu)) (fun h => by rw [Bd.returns] at h; cases h) Bd.notSynchronized ⟨(by simp [own_pick, hc1, hc8, hc15]), N0, rfl⟩ (by decide) (by decide) (fun fs hr => own_retR X0 hx Bd.returns rfl rfl (hb hby d7_19) hr)
      · refine own_G.sk 20 [] (fun _ kq => XS.icmpYes X0.here hx rfl (pc0 := 15) (pc' := 20) rfl (hb hby d7_15) rfl (feq hc15).2 (by decide) (by decide) kq) ?_
        refine own_G.sk 21 [.null] (fun _ kq => XS.aconstNull X0.here hx rfl (hb hby d7_20) kq) ?_
        exact own_ret X0 e0 (v := some .null) (fun h => by rw [Bd.returns] at h; cases h) Bd.notSynchronized ⟨(by simp [own_pick, hc1, hc8, hc15]), N0, rfl⟩ (by decide) (by decide) (fun fs hr => own_retR X0 hx Bd.returns rfl rfl (hb hby d7_21) hr)
theorem d9_0 : decode prog_32_method_1_code 0 = .ok (.aload_n 0, 1) := by decide +kernel
theorem d9_1 : decode prog_32_method_1_code 1 = .ok (.invokespecial 1, 3) := by decide +kernel
theorem d9_4 : decode prog_32_method_1_code 4 = .ok (.aload_n 0, 1) := by decide +kernel
theorem d9_5 : decode prog_32_method_1_code 5 = .ok (.aload_n 1, 1) := by decide +kernel
theorem d9_6 : decode prog_32_method_1_code 6 = .ok (.putfield 7, 3) := by decide +kernel
theorem d9_9 : decode prog_32_method_1_code 9 = .ok (.aload_n 0, 1) := by decide +kernel
theorem d9_10 : decode prog_32_method_1_code 10 = .ok (.aload_n 2, 1) := by decide +kernel
theorem d9_11 : decode prog_32_method_1_code 11 = .ok (.putfield 13, 3) := by decide +kernel
theorem d9_14 : decode prog_32_method_1_code 14 = .ok (.aload_n 0, 1) := by decide +kernel
theorem d9_15 : decode prog_32_method_1_code 15 = .ok (.aload_n 3, 1) := by decide +kernel
theorem d9_16 : decode prog_32_method_1_code 16 = .ok (.putfield 17, 3) := by decide +kernel
theorem d9_19 : decode prog_32_method_1_code 19 = .ok (.aload_n 0, 1) := by decide +kernel
theorem d9_20 : decode prog_32_method_1_code 20 = .ok (.aload 4, 2) := by decide +kernel
theorem d9_22 : decode prog_32_method_1_code 22 = .ok (.putfield 21, 3) := by decide +kernel
theorem d9_25 : decode prog_32_method_1_code 25 = .ok (.aload_n 0, 1) := by decide +kernel
theorem d9_26 : decode prog_32_method_1_code 26 = .ok (.aload 5, 2) := by decide +kernel
theorem d9_28 : decode prog_32_method_1_code 28 = .ok (.putfield 24, 3) := by decide +kernel
theorem d9_31 : decode prog_32_method_1_code 31 = .ok (.aload_n 0, 1) := by decide +kernel
theorem d9_32 : decode prog_32_method_1_code 32 = .ok (.aload 6, 2) := by decide +kernel
theorem d9_34 : decode prog_32_method_1_code 34 = .ok (.putfield 28, 3) := by decide +kernel
theorem d9_37 : decode prog_32_method_1_code 37 = .ok (.return_, 1) := by decide +kernel
theorem pn_com_2fexample_2fconcordant_2fconcordant_2frules_2fSchemaPairs_24SchemaPair : plainName "com/example/concordant/concordant/rules/SchemaPairs$SchemaPair" = true := by first | (simp [plainName, overriddenIn]; done) | decide +kernel
theorem ef_spinit (m : MethodId) (a : Addr) (pt : Addr) (xo : Value) (xn : Value) (rxo : xo.isRef = true) (rxn : xn.isRef = true) : entryFrame m #[(.ref a), (.ref pt), .null, .null, .null, xo, xn] 7 = mkF m 0 #[rv a, rv pt, .val .null, .val .null, .val .null, .val xo, .val xn] [] := by
  rcases ref_cases rxo with rfl | ⟨z, rfl⟩ <;> rcases ref_cases rxn with rfl | ⟨z, rfl⟩ <;> first | (simp [entryFrame, mkF, argsToLocals, Value.category]; done) | rfl
def Q_spinit (Z : State) (a : Addr) (pt : Addr) (xo : Value) (xn : Value) (h0 : Heap) (n0 : Nat) (v : Option Value) (h : Heap) (L : List Loc) : Prop := v = none ∧ Fr n0 L ∧ Keep h0 h [a] ∧ Exa Z h a "com/example/concordant/concordant/rules/SchemaPairs$SchemaPair" ∧ Fld Z h a "com/example/concordant/concordant/rules/SchemaPairs$SchemaPair" "part" "Ljava/lang/String;" (.ref pt) ∧ Fld Z h a "com/example/concordant/concordant/rules/SchemaPairs$SchemaPair" "holder" "Lcom/example/concordant/concordant/rules/SchemaPairs$SchemaPair;" .null ∧ Fld Z h a "com/example/concordant/concordant/rules/SchemaPairs$SchemaPair" "older" "Lcom/example/concordant/concordant/model/Schema;" xo ∧ Fld Z h a "com/example/concordant/concordant/rules/SchemaPairs$SchemaPair" "newer" "Lcom/example/concordant/concordant/model/Schema;" xn
set_option maxRecDepth 65536 in
set_option maxHeartbeats 40000000 in
theorem rm_spinit (l : Launch) (Z : State) (a0 : Array Value) (hw : ∀ d ∈ tables_1, d.before a0 Z = true) (ws : List Jvm.Cond) (a : Addr) (pt : Addr) (xo : Value) (xn : Value) (h0 : Heap) (n0 : Nat) (O0 : Old Z n0 h0) (rxo : xo.isRef = true) (rxn : xn.isRef = true) (Ea : Exa Z h0 a "com/example/concordant/concordant/rules/SchemaPairs$SchemaPair") (F_part : Fld Z h0 a "com/example/concordant/concordant/rules/SchemaPairs$SchemaPair" "part" "Ljava/lang/String;" .null) (F_holder : Fld Z h0 a "com/example/concordant/concordant/rules/SchemaPairs$SchemaPair" "holder" "Lcom/example/concordant/concordant/rules/SchemaPairs$SchemaPair;" .null) (F_way : Fld Z h0 a "com/example/concordant/concordant/rules/SchemaPairs$SchemaPair" "way" "Lcom/example/concordant/concordant/rules/SchemaPairs$Way;" .null) (F_propertyName : Fld Z h0 a "com/example/concordant/concordant/rules/SchemaPairs$SchemaPair" "propertyName" "Ljava/lang/String;" .null) (F_older : Fld Z h0 a "com/example/concordant/concordant/rules/SchemaPairs$SchemaPair" "older" "Lcom/example/concordant/concordant/model/Schema;" .null) (F_newer : Fld Z h0 a "com/example/concordant/concordant/rules/SchemaPairs$SchemaPair" "newer" "Lcom/example/concordant/concordant/model/Schema;" .null) (ga : n0 ≤ a) :
    MetFree l own_y6 (head1 (Jvm.Cond.code own_y6 prog_32_method_1_code 7 none :: ws) ({ frames := 1, cells := 0, slots := 0, locals := 12 } : Room)) (fun aq_ Uq_ => aq_ = #[(.ref a), (.ref pt), .null, .null, .null, xo, xn] ∧ Z.Warmed39 Uq_.vm ∧ Uq_.heap = h0) (fun _ _ _ _ _ => True) (fun _ Uq_ oq_ Ur_ => ∃ vq_ Lq_, oq_ = .returned vq_ ∧ Q_spinit Z a pt xo xn h0 n0 vq_ Ur_.heap Lq_ ∧ FrameEnd Uq_ oq_ Ur_ Lq_ ({ frames := 1, cells := 0, slots := 0, locals := 12 } : Room).cells ({ frames := 1, cells := 0, slots := 0, locals := 12 } : Room).slots) := by
  refine MetFree.of_bodySF (plainFor_of_name pn_com_2fexample_2fconcordant_2fconcordant_2frules_2fSchemaPairs_24SchemaPair) hisR ?_
  intro p e s m args below meth c s₁ Bd hml0 hP hK
  obtain ⟨rfl, hZ, hh⟩ := hP
  have W_ : ∀ {d : Jvm.Cond} (i : Nat), tables_1[i]? = some d → d.before a0 Z = true := fun i h => hw _ (List.mem_of_getElem? h)
  have hx := Bd.exec
  have hby := Bd.bytes
  have hml : c.maxLocals = 7 := hml0
  have hown : s.vm.findClass "com/example/concordant/concordant/rules/SchemaPairs$SchemaPair" = some m.cls := findClass_of_methodNamed Bd.named
  have hnm := (name_of_methodNamed Bd.named Bd.method).1
  have X0 : Stand p l e ({ frames := 1, cells := 0, slots := 0, locals := 12 } : Room) s m #[(.ref a), (.ref pt), .null, .null, .null, xo, xn] below meth c s₁ [] 0 0 := Stand.of_body Bd
  have e0 : s₁.heap = h0 := by rw [← hh, Bd.state]; rfl
  have N0 := Fr.nil n0
  have K0 := Keep.refl h0 [a]
  refine own_G.start (Q := Q_spinit Z a pt xo xn h0 n0) (ef_spinit m a pt xo xn rxo rxn) ?_
  refine own_G.sk 1 [(.ref a)] (fun _ kq => XS.aloadN X0.here hx rfl (hb hby d9_0) rfl rfl kq) ?_
  obtain ⟨T1, X1, e1, st1⟩ := initO X0 hx hZ hown (W_ 50 rfl) (W_ 16 rfl) (W_ 17 rfl) e0 (g := (mkF m 1 #[rv a, rv pt, .val .null, .val .null, .val .null, .val xo, .val xn] [(.ref a)])) rfl (by rw [hml]; rfl) rfl (hb hby d9_1) (by decide) (W := 0) (by show 2 * 0 + _ ≤ _; exact Nat.le_of_eq rfl) (by decide)
  refine own_G.st (T' := T1) 4 [] st1 ?_
  refine own_G.sk 5 [(.ref a)] (fun _ kq => XS.aloadN X1.here hx rfl (hb hby d9_4) rfl rfl kq) ?_
  refine own_G.sk 6 [(.ref pt), (.ref a)] (fun _ kq => XS.aloadN X1.here hx rfl (hb hby d9_5) rfl rfl kq) ?_
  obtain ⟨T2, h2, X2, e2, W2, st2⟩ := putF X1 hx hZ hown (host := "") (Or.inl (W_ 51 rfl)) Via.refl e1 F_part Ea (Or.inr ⟨(W_ 52 rfl), rfl, hnm⟩) (W_ 46 rfl) (ty := (.object "java/lang/String")) (by decide) rfl rfl (g := (mkF m 6 #[rv a, rv pt, .val .null, .val .null, .val .null, .val xo, .val xn] [(.ref pt), (.ref a)])) rfl rfl (hb hby d9_6)
  have N2 := Fr.snoc X2 N0 ga
  have F3 := Ea.wr W2
  have F4 := F_part.same W2
  have F5 := F_holder.other W2 (Or.inr (slot_ne (Or.inr (W_ 54 rfl)) (Or.inr (W_ 52 rfl)) (by decide) (t := (.object "com/example/concordant/concordant/rules/SchemaPairs$SchemaPair")) (t' := (.object "java/lang/String")) (by decide) (by decide)))
  have F6 := F_way.other W2 (Or.inr (slot_ne (Or.inr (W_ 56 rfl)) (Or.inr (W_ 52 rfl)) (by decide) (t := (.object "com/example/concordant/concordant/rules/SchemaPairs$Way")) (t' := (.object "java/lang/String")) (by decide) (by decide)))
  have F7 := F_propertyName.other W2 (Or.inr (slot_ne (Or.inr (W_ 58 rfl)) (Or.inr (W_ 52 rfl)) (by decide) (t := (.object "java/lang/String")) (t' := (.object "java/lang/String")) (by decide) (by decide)))
  have F8 := F_older.other W2 (Or.inr (slot_ne (Or.inr (W_ 60 rfl)) (Or.inr (W_ 52 rfl)) (by decide) (t := (.object "com/example/concordant/concordant/model/Schema")) (t' := (.object "java/lang/String")) (by decide) (by decide)))
  have F9 := F_newer.other W2 (Or.inr (slot_ne (Or.inr (W_ 62 rfl)) (Or.inr (W_ 52 rfl)) (by decide) (t := (.object "com/example/concordant/concordant/model/Schema")) (t' := (.object "java/lang/String")) (by decide) (by decide)))
  have O10 := O0.wr W2 ga
  have K11 := K0.wr W2 (Or.inl (List.mem_of_getElem? (i := 0) rfl))
  refine own_G.st (T' := T2) 9 [] st2 ?_
  refine own_G.sk 10 [(.ref a)] (fun _ kq => XS.aloadN X2.here hx rfl (hb hby d9_9) rfl rfl kq) ?_
  refine own_G.sk 11 [.null, (.ref a)] (fun _ kq => XS.aloadN X2.here hx rfl (hb hby d9_10) rfl rfl kq) ?_
  obtain ⟨T12, h12, X12, e12, W12, st12⟩ := putF X2 hx hZ hown (host := "") (Or.inl (W_ 53 rfl)) Via.refl e2 F5 F3 (Or.inr ⟨(W_ 54 rfl), rfl, hnm⟩) (W_ 46 rfl) (ty := (.object "com/example/concordant/concordant/rules/SchemaPairs$SchemaPair")) (by decide) rfl rfl (g := (mkF m 11 #[rv a, rv pt, .val .null, .val .null, .val .null, .val xo, .val xn] [.null, (.ref a)])) rfl rfl (hb hby d9_11)
  have N12 := Fr.snoc X12 N2 ga
  have F13 := F3.wr W12
  have F14 := F4.other W12 (Or.inr (slot_ne (Or.inr (W_ 52 rfl)) (Or.inr (W_ 54 rfl)) (by decide) (t := (.object "java/lang/String")) (t' := (.object "com/example/concordant/concordant/rules/SchemaPairs$SchemaPair")) (by decide) (by decide)))
  have F15 := F5.same W12
  have F16 := F6.other W12 (Or.inr (slot_ne (Or.inr (W_ 56 rfl)) (Or.inr (W_ 54 rfl)) (by decide) (t := (.object "com/example/concordant/concordant/rules/SchemaPairs$Way")) (t' := (.object "com/example/concordant/concordant/rules/SchemaPairs$SchemaPair")) (by decide) (by decide)))
  have F17 := F7.other W12 (Or.inr (slot_ne (Or.inr (W_ 58 rfl)) (Or.inr (W_ 54 rfl)) (by decide) (t := (.object "java/lang/String")) (t' := (.object "com/example/concordant/concordant/rules/SchemaPairs$SchemaPair")) (by decide) (by decide)))
  have F18 := F8.other W12 (Or.inr (slot_ne (Or.inr (W_ 60 rfl)) (Or.inr (W_ 54 rfl)) (by decide) (t := (.object "com/example/concordant/concordant/model/Schema")) (t' := (.object "com/example/concordant/concordant/rules/SchemaPairs$SchemaPair")) (by decide) (by decide)))
  have F19 := F9.other W12 (Or.inr (slot_ne (Or.inr (W_ 62 rfl)) (Or.inr (W_ 54 rfl)) (by decide) (t := (.object "com/example/concordant/concordant/model/Schema")) (t' := (.object "com/example/concordant/concordant/rules/SchemaPairs$SchemaPair")) (by decide) (by decide)))
  have O20 := O10.wr W12 ga
  have K21 := K11.wr W12 (Or.inl (List.mem_of_getElem? (i := 0) rfl))
  refine own_G.st (T' := T12) 14 [] st12 ?_
  refine own_G.sk 15 [(.ref a)] (fun _ kq => XS.aloadN X12.here hx rfl (hb hby d9_14) rfl rfl kq) ?_
  refine own_G.sk 16 [.null, (.ref a)] (fun _ kq => XS.aloadN X12.here hx rfl (hb hby d9_15) rfl rfl kq) ?_
  obtain ⟨T22, h22, X22, e22, W22, st22⟩ := putF X12 hx hZ hown (host := "") (Or.inl (W_ 55 rfl)) Via.refl e12 F16 F13 (Or.inr ⟨(W_ 56 rfl), rfl, hnm⟩) (W_ 46 rfl) (ty := (.object "com/example/concordant/concordant/rules/SchemaPairs$Way")) (by decide) rfl rfl (g := (mkF m 16 #[rv a, rv pt, .val .null, .val .null, .val .null, .val xo, .val xn] [.null, (.ref a)])) rfl rfl (hb hby d9_16)
  have N22 := Fr.snoc X22 N12 ga
  have F23 := F13.wr W22
  have F24 := F14.other W22 (Or.inr (slot_ne (Or.inr (W_ 52 rfl)) (Or.inr (W_ 56 rfl)) (by decide) (t := (.object "java/lang/String")) (t' := (.object "com/example/concordant/concordant/rules/SchemaPairs$Way")) (by decide) (by decide)))
  have F25 := F15.other W22 (Or.inr (slot_ne (Or.inr (W_ 54 rfl)) (Or.inr (W_ 56 rfl)) (by decide) (t := (.object "com/example/concordant/concordant/rules/SchemaPairs$SchemaPair")) (t' := (.object "com/example/concordant/concordant/rules/SchemaPairs$Way")) (by decide) (by decide)))
  have F26 := F16.same W22
  have F27 := F17.other W22 (Or.inr (slot_ne (Or.inr (W_ 58 rfl)) (Or.inr (W_ 56 rfl)) (by decide) (t := (.object "java/lang/String")) (t' := (.object "com/example/concordant/concordant/rules/SchemaPairs$Way")) (by decide) (by decide)))
  have F28 := F18.other W22 (Or.inr (slot_ne (Or.inr (W_ 60 rfl)) (Or.inr (W_ 56 rfl)) (by decide) (t := (.object "com/example/concordant/concordant/model/Schema")) (t' := (.object "com/example/concordant/concordant/rules/SchemaPairs$Way")) (by decide) (by decide)))
  have F29 := F19.other W22 (Or.inr (slot_ne (Or.inr (W_ 62 rfl)) (Or.inr (W_ 56 rfl)) (by decide) (t := (.object "com/example/concordant/concordant/model/Schema")) (t' := (.object "com/example/concordant/concordant/rules/SchemaPairs$Way")) (by decide) (by decide)))
  have O30 := O20.wr W22 ga
  have K31 := K21.wr W22 (Or.inl (List.mem_of_getElem? (i := 0) rfl))
  refine own_G.st (T' := T22) 19 [] st22 ?_
  refine own_G.sk 20 [(.ref a)] (fun _ kq => XS.aloadN X22.here hx rfl (hb hby d9_19) rfl rfl kq) ?_
  refine own_G.sk 22 [.null, (.ref a)] (fun _ kq => XS.aload X22.here hx rfl (hb hby d9_20) rfl rfl kq) ?_
  obtain ⟨T32, h32, X32, e32, W32, st32⟩ := putF X22 hx hZ hown (host := "") (Or.inl (W_ 57 rfl)) Via.refl e22 F27 F23 (Or.inr ⟨(W_ 58 rfl), rfl, hnm⟩) (W_ 46 rfl) (ty := (.object "java/lang/String")) (by decide) rfl rfl (g := (mkF m 22 #[rv a, rv pt, .val .null, .val .null, .val .null, .val xo, .val xn] [.null, (.ref a)])) rfl rfl (hb hby d9_22)
  have N32 := Fr.snoc X32 N22 ga
  have F33 := F23.wr W32
  have F34 := F24.other W32 (Or.inr (slot_ne (Or.inr (W_ 52 rfl)) (Or.inr (W_ 58 rfl)) (by decide) (t := (.object "java/lang/String")) (t' := (.object "java/lang/String")) (by decide) (by decide)))
  have F35 := F25.other W32 (Or.inr (slot_ne (Or.inr (W_ 54 rfl)) (Or.inr (W_ 58 rfl)) (by decide) (t := (.object "com/example/concordant/concordant/rules/SchemaPairs$SchemaPair")) (t' := (.object "java/lang/String")) (by decide) (by decide)))
  have F36 := F26.other W32 (Or.inr (slot_ne (Or.inr (W_ 56 rfl)) (Or.inr (W_ 58 rfl)) (by decide) (t := (.object "com/example/concordant/concordant/rules/SchemaPairs$Way")) (t' := (.object "java/lang/String")) (by decide) (by decide)))
  have F37 := F27.same W32
  have F38 := F28.other W32 (Or.inr (slot_ne (Or.inr (W_ 60 rfl)) (Or.inr (W_ 58 rfl)) (by decide) (t := (.object "com/example/concordant/concordant/model/Schema")) (t' := (.object "java/lang/String")) (by decide) (by decide)))
  have F39 := F29.other W32 (Or.inr (slot_ne (Or.inr (W_ 62 rfl)) (Or.inr (W_ 58 rfl)) (by decide) (t := (.object "com/example/concordant/concordant/model/Schema")) (t' := (.object "java/lang/String")) (by decide) (by decide)))
  have O40 := O30.wr W32 ga
  have K41 := K31.wr W32 (Or.inl (List.mem_of_getElem? (i := 0) rfl))
  refine own_G.st (T' := T32) 25 [] st32 ?_
  refine own_G.sk 26 [(.ref a)] (fun _ kq => XS.aloadN X32.here hx rfl (hb hby d9_25) rfl rfl kq) ?_
  refine own_G.sk 28 [xo, (.ref a)] (fun _ kq => XS.aload X32.here hx rfl (hb hby d9_26) rfl rxo kq) ?_
  obtain ⟨T42, h42, X42, e42, W42, st42⟩ := putF X32 hx hZ hown (host := "") (Or.inl (W_ 59 rfl)) Via.refl e32 F38 F33 (Or.inr ⟨(W_ 60 rfl), rfl, hnm⟩) (W_ 46 rfl) (ty := (.object "com/example/concordant/concordant/model/Schema")) (by decide) (own_narrow rxo rfl) (own_fits rxo rfl) (g := (mkF m 28 #[rv a, rv pt, .val .null, .val .null, .val .null, .val xo, .val xn] [xo, (.ref a)])) rfl rfl (hb hby d9_28)
  have N42 := Fr.snoc X42 N32 ga
  have F43 := F33.wr W42
  have F44 := F34.other W42 (Or.inr (slot_ne (Or.inr (W_ 52 rfl)) (Or.inr (W_ 60 rfl)) (by decide) (t := (.object "java/lang/String")) (t' := (.object "com/example/concordant/concordant/model/Schema")) (by decide) (by decide)))
  have F45 := F35.other W42 (Or.inr (slot_ne (Or.inr (W_ 54 rfl)) (Or.inr (W_ 60 rfl)) (by decide) (t := (.object "com/example/concordant/concordant/rules/SchemaPairs$SchemaPair")) (t' := (.object "com/example/concordant/concordant/model/Schema")) (by decide) (by decide)))
  have F46 := F36.other W42 (Or.inr (slot_ne (Or.inr (W_ 56 rfl)) (Or.inr (W_ 60 rfl)) (by decide) (t := (.object "com/example/concordant/concordant/rules/SchemaPairs$Way")) (t' := (.object "com/example/concordant/concordant/model/Schema")) (by decide) (by decide)))
  have F47 := F37.other W42 (Or.inr (slot_ne (Or.inr (W_ 58 rfl)) (Or.inr (W_ 60 rfl)) (by decide) (t := (.object "java/lang/String")) (t' := (.object "com/example/concordant/concordant/model/Schema")) (by decide) (by decide)))
  have F48 := F38.same W42
  have F49 := F39.other W42 (Or.inr (slot_ne (Or.inr (W_ 62 rfl)) (Or.inr (W_ 60 rfl)) (by decide) (t := (.object "com/example/concordant/concordant/model/Schema")) (t' := (.object "com/example/concordant/concordant/model/Schema")) (by decide) (by decide)))
  have O50 := O40.wr W42 ga
  have K51 := K41.wr W42 (Or.inl (List.mem_of_getElem? (i := 0) rfl))
  refine own_G.st (T' := T42) 31 [] st42 ?_
  refine own_G.sk 32 [(.ref a)] (fun _ kq => XS.aloadN X42.here hx rfl (hb hby d9_31) rfl rfl kq) ?_
  refine own_G.sk 34 [xn, (.ref a)] (fun _ kq => XS.aload X42.here hx rfl (hb hby d9_32) rfl rxn kq) ?_
  obtain ⟨T52, h52, X52, e52, W52, st52⟩ := putF X42 hx hZ hown (host := "") (Or.inl (W_ 61 rfl)) Via.refl e42 F49 F43 (Or.inr ⟨(W_ 62 rfl), rfl, hnm⟩) (W_ 46 rfl) (ty := (.object "com/example/concordant/concordant/model/Schema")) (by decide) (own_narrow rxn rfl) (own_fits rxn rfl) (g := (mkF m 34 #[rv a, rv pt, .val .null, .val .null, .val .null, .val xo, .val xn] [xn, (.ref a)])) rfl rfl (hb hby d9_34)
  have N52 := Fr.snoc X52 N42 ga
  have F53 := F43.wr W52
  have F54 := F44.other W52 (Or.inr (slot_ne (Or.inr (W_ 52 rfl)) (Or.inr (W_ 62 rfl)) (by decide) (t := (.object "java/lang/String")) (t' := (.object "com/example/concordant/concordant/model/Schema")) (by decide) (by decide)))
  have F55 := F45.other W52 (Or.inr (slot_ne (Or.inr (W_ 54 rfl)) (Or.inr (W_ 62 rfl)) (by decide) (t := (.object "com/example/concordant/concordant/rules/SchemaPairs$SchemaPair")) (t' := (.object "com/example/concordant/concordant/model/Schema")) (by decide) (by decide)))
  have F56 := F46.other W52 (Or.inr (slot_ne (Or.inr (W_ 56 rfl)) (Or.inr (W_ 62 rfl)) (by decide) (t := (.object "com/example/concordant/concordant/rules/SchemaPairs$Way")) (t' := (.object "com/example/concordant/concordant/model/Schema")) (by decide) (by decide)))
  have F57 := F47.other W52 (Or.inr (slot_ne (Or.inr (W_ 58 rfl)) (Or.inr (W_ 62 rfl)) (by decide) (t := (.object "java/lang/String")) (t' := (.object "com/example/concordant/concordant/model/Schema")) (by decide) (by decide)))
  have F58 := F48.other W52 (Or.inr (slot_ne (Or.inr (W_ 60 rfl)) (Or.inr (W_ 62 rfl)) (by decide) (t := (.object "com/example/concordant/concordant/model/Schema")) (t' := (.object "com/example/concordant/concordant/model/Schema")) (by decide) (by decide)))
  have F59 := F49.same W52
  have O60 := O50.wr W52 ga
  have K61 := K51.wr W52 (Or.inl (List.mem_of_getElem? (i := 0) rfl))
  refine own_G.st (T' := T52) 37 [] st52 ?_
  exact own_ret X52 e52 (v := none) (fun _ => rfl) Bd.notSynchronized ⟨rfl, N52, K61, F53, F54, F55, F58, F59⟩ (by decide) (by decide) (fun fs hr => X52.returnOut hx Bd.returns (hb hby d9_37) hr)
theorem pd__28Ljava_2flang_2fString_3bLcom_2fexample_2fconcordant_2fconcordant_2frules_2fSchemaPairs_24SchemaPair_3bLcom_2fexample_2fconcordant_2fconcordant_2frules_2fSchemaPairs_24Way_3bLjava_2flang_2fString_3bLcom_2fexample_2fconcordant_2fconcordant_2fmodel_2fSchema_3bLcom_2fexample_2fconcordant_2fconcordant_2fmodel_2fSchema_3b_29V : parseMethodDescriptor "(Ljava/lang/String;Lcom/example/concordant/concordant/rules/SchemaPairs$SchemaPair;Lcom/example/concordant/concordant/rules/SchemaPairs$Way;Ljava/lang/String;Lcom/example/concordant/concordant/model/Schema;Lcom/example/concordant/concordant/model/Schema;)V" = some ⟨[(.object "java/lang/String"), (.object "com/example/concordant/concordant/rules/SchemaPairs$SchemaPair"), (.object "com/example/concordant/concordant/rules/SchemaPairs$Way"), (.object "java/lang/String"), (.object "com/example/concordant/concordant/model/Schema"), (.object "com/example/concordant/concordant/model/Schema")], none⟩ := by decide +kernel
theorem d8_0 : decode prog_32_method_2_code 0 = .ok (.new 8, 3) := by decide +kernel
theorem d8_3 : decode prog_32_method_2_code 3 = .ok (.dup, 1) := by decide +kernel
theorem d8_4 : decode prog_32_method_2_code 4 = .ok (.aload_n 0, 1) := by decide +kernel
theorem d8_5 : decode prog_32_method_2_code 5 = .ok (.aconst_null, 1) := by decide +kernel
theorem d8_6 : decode prog_32_method_2_code 6 = .ok (.aconst_null, 1) := by decide +kernel
theorem d8_7 : decode prog_32_method_2_code 7 = .ok (.aconst_null, 1) := by decide +kernel
theorem d8_8 : decode prog_32_method_2_code 8 = .ok (.aload_n 1, 1) := by decide +kernel
theorem d8_9 : decode prog_32_method_2_code 9 = .ok (.aload_n 2, 1) := by decide +kernel
theorem d8_10 : decode prog_32_method_2_code 10 = .ok (.invokespecial 31, 3) := by decide +kernel
theorem d8_13 : decode prog_32_method_2_code 13 = .ok (.areturn, 1) := by decide +kernel
theorem ef_root (m : MethodId) (pt : Addr) (xo : Value) (xn : Value) (rxo : xo.isRef = true) (rxn : xn.isRef = true) : entryFrame m #[(.ref pt), xo, xn] 3 = mkF m 0 #[rv pt, .val xo, .val xn] [] := by
  rcases ref_cases rxo with rfl | ⟨z, rfl⟩ <;> rcases ref_cases rxn with rfl | ⟨z, rfl⟩ <;> first | (simp [entryFrame, mkF, argsToLocals, Value.category]; done) | rfl
def Q_root (Z : State) (pt : Addr) (xo : Value) (xn : Value) (h0 : Heap) (n0 : Nat) (v : Option Value) (h : Heap) (L : List Loc) : Prop := ∃ (a : Addr), v = some (.ref a) ∧ Fr n0 L ∧ Keep h0 h [] ∧ h0.size ≤ a ∧ Exa Z h a "com/example/concordant/concordant/rules/SchemaPairs$SchemaPair" ∧ Fld Z h a "com/example/concordant/concordant/rules/SchemaPairs$SchemaPair" "part" "Ljava/lang/String;" (.ref pt) ∧ Fld Z h a "com/example/concordant/concordant/rules/SchemaPairs$SchemaPair" "holder" "Lcom/example/concordant/concordant/rules/SchemaPairs$SchemaPair;" .null ∧ Fld Z h a "com/example/concordant/concordant/rules/SchemaPairs$SchemaPair" "older" "Lcom/example/concordant/concordant/model/Schema;" xo ∧ Fld Z h a "com/example/concordant/concordant/rules/SchemaPairs$SchemaPair" "newer" "Lcom/example/concordant/concordant/model/Schema;" xn
set_option maxRecDepth 65536 in
set_option maxHeartbeats 40000000 in
theorem rm_root (l : Launch) (Z : State) (a0 : Array Value) (hw : ∀ d ∈ tables_1, d.before a0 Z = true) (ws : List Jvm.Cond) (pt : Addr) (xo : Value) (xn : Value) (h0 : Heap) (n0 : Nat) (O0 : Old Z n0 h0) (rxo : xo.isRef = true) (rxn : xn.isRef = true) :
    MetFree l own_y7 (head1 (Jvm.Cond.code own_y7 prog_32_method_2_code 3 (some (.object "com/example/concordant/concordant/rules/SchemaPairs$SchemaPair")) :: ws) ({ frames := 2, cells := 1, slots := 6, locals := 31 } : Room)) (fun aq_ Uq_ => aq_ = #[(.ref pt), xo, xn] ∧ Z.Warmed39 Uq_.vm ∧ Uq_.heap = h0) (fun _ _ _ _ _ => True) (fun _ Uq_ oq_ Ur_ => ∃ vq_ Lq_, oq_ = .returned vq_ ∧ Q_root Z pt xo xn h0 n0 vq_ Ur_.heap Lq_ ∧ FrameEnd Uq_ oq_ Ur_ Lq_ ({ frames := 2, cells := 1, slots := 6, locals := 31 } : Room).cells ({ frames := 2, cells := 1, slots := 6, locals := 31 } : Room).slots) := by
  refine MetFree.of_bodySF (plainFor_of_name pn_com_2fexample_2fconcordant_2fconcordant_2frules_2fSchemaPairs_24SchemaPair) hisR ?_
  intro p e s m args below meth c s₁ Bd hml0 hP hK
  obtain ⟨rfl, hZ, hh⟩ := hP
  have W_ : ∀ {d : Jvm.Cond} (i : Nat), tables_1[i]? = some d → d.before a0 Z = true := fun i h => hw _ (List.mem_of_getElem? h)
  have hx := Bd.exec
  have hby := Bd.bytes
  have hml : c.maxLocals = 3 := hml0
  have hown : s.vm.findClass "com/example/concordant/concordant/rules/SchemaPairs$SchemaPair" = some m.cls := findClass_of_methodNamed Bd.named
  have hnm := (name_of_methodNamed Bd.named Bd.method).1
  have X0 : Stand p l e ({ frames := 2, cells := 1, slots := 6, locals := 31 } : Room) s m #[(.ref pt), xo, xn] below meth c s₁ [] 0 0 := Stand.of_body Bd
  have e0 : s₁.heap = h0 := by rw [← hh, Bd.state]; rfl
  have N0 := Fr.nil n0
  have K0 := Keep.refl h0 []
  refine own_G.start (Q := Q_root Z pt xo xn h0 n0) (ef_root m pt xo xn rxo rxn) ?_
  obtain ⟨T1, h1, X1, e1, E1, A1, D1, -, st1⟩ := newO X0 hx hZ hown (W_ 45 rfl) (W_ 46 rfl) (W_ 43 rfl) e0 (g := (mkF m 0 #[rv pt, .val xo, .val xn] [])) rfl (hb hby d8_0) (by decide) (by decide)
  obtain ⟨b1, g1⟩ : ∃ z, z = h0.size := ⟨_, rfl⟩
  rw [← g1] at A1 D1 st1
  have g2 : n0 ≤ b1 := Nat.le_trans O0.le (Nat.le_of_eq g1.symm)
  have z3 : h0.size ≤ b1 := Nat.le_trans K0.1 (Nat.le_of_eq g1.symm)
  have O4 := O0.ext E1
  have K5 := K0.ext E1
  have F6 : Fld Z h1 b1 "com/example/concordant/concordant/rules/SchemaPairs$SchemaPair" "part" "Ljava/lang/String;" .null := D1 (Or.inr (W_ 52 rfl)) (ty := (.object "java/lang/String")) (by decide)
  have F7 : Fld Z h1 b1 "com/example/concordant/concordant/rules/SchemaPairs$SchemaPair" "holder" "Lcom/example/concordant/concordant/rules/SchemaPairs$SchemaPair;" .null := D1 (Or.inr (W_ 54 rfl)) (ty := (.object "com/example/concordant/concordant/rules/SchemaPairs$SchemaPair")) (by decide)
  have F8 : Fld Z h1 b1 "com/example/concordant/concordant/rules/SchemaPairs$SchemaPair" "way" "Lcom/example/concordant/concordant/rules/SchemaPairs$Way;" .null := D1 (Or.inr (W_ 56 rfl)) (ty := (.object "com/example/concordant/concordant/rules/SchemaPairs$Way")) (by decide)
  have F9 : Fld Z h1 b1 "com/example/concordant/concordant/rules/SchemaPairs$SchemaPair" "propertyName" "Ljava/lang/String;" .null := D1 (Or.inr (W_ 58 rfl)) (ty := (.object "java/lang/String")) (by decide)
  have F10 : Fld Z h1 b1 "com/example/concordant/concordant/rules/SchemaPairs$SchemaPair" "older" "Lcom/example/concordant/concordant/model/Schema;" .null := D1 (Or.inr (W_ 60 rfl)) (ty := (.object "com/example/concordant/concordant/model/Schema")) (by decide)
  have F11 : Fld Z h1 b1 "com/example/concordant/concordant/rules/SchemaPairs$SchemaPair" "newer" "Lcom/example/concordant/concordant/model/Schema;" .null := D1 (Or.inr (W_ 62 rfl)) (ty := (.object "com/example/concordant/concordant/model/Schema")) (by decide)
  refine own_G.st (T' := T1) 3 [(.ref b1)] st1 ?_
  refine own_G.sk 4 [(.ref b1), (.ref b1)] (fun _ kq => XS.dup X1.here hx rfl (hb hby d8_3) rfl rfl kq) ?_
  refine own_G.sk 5 [(.ref pt), (.ref b1), (.ref b1)] (fun _ kq => XS.aloadN X1.here hx rfl (hb hby d8_4) rfl rfl kq) ?_
  refine own_G.sk 6 [.null, (.ref pt), (.ref b1), (.ref b1)] (fun _ kq => XS.aconstNull X1.here hx rfl (hb hby d8_5) kq) ?_
  refine own_G.sk 7 [.null, .null, (.ref pt), (.ref b1), (.ref b1)] (fun _ kq => XS.aconstNull X1.here hx rfl (hb hby d8_6) kq) ?_
  refine own_G.sk 8 [.null, .null, .null, (.ref pt), (.ref b1), (.ref b1)] (fun _ kq => XS.aconstNull X1.here hx rfl (hb hby d8_7) kq) ?_
  refine own_G.sk 9 [xo, .null, .null, .null, (.ref pt), (.ref b1), (.ref b1)] (fun _ kq => XS.aloadN X1.here hx rfl (hb hby d8_8) rfl rxo kq) ?_
  refine own_G.sk 10 [xn, xo, .null, .null, .null, (.ref pt), (.ref b1), (.ref b1)] (fun _ kq => XS.aloadN X1.here hx rfl (hb hby d8_9) rfl rxn kq) ?_
  obtain ⟨_, _, ⟨T12, L12, k12, n12⟩, -, X12, ⟨Lc12, hQ12, l12, y12, z12⟩, st12⟩ := X1.specialBack hx (y := own_y6) rfl hown (mvT hZ (W_ 47 rfl)) (mvT hZ (W_ 48 rfl)) (mvT hZ (W_ 49 rfl)) (by decide) (backOf (W := 1) (rm_spinit l Z a0 hw [] b1 pt xo xn h1 n0 O4 rxo rxn A1 F6 F7 F8 F9 F10 F11 g2) hZ (W_ 49 rfl) (W_ 43 rfl) (by decide) (by decide)) (g := (mkF m 10 #[rv pt, .val xo, .val xn] [xn, xo, .null, .null, .null, (.ref pt), (.ref b1), (.ref b1)])) rfl (by rw [hml]; rfl) (Steps.refl _) (a := b1) (argsL := [(.ref pt), .null, .null, .null, xo, xn]) (rest := [(.ref b1)]) (lenOf pd__28Ljava_2flang_2fString_3bLcom_2fexample_2fconcordant_2fconcordant_2frules_2fSchemaPairs_24SchemaPair_3bLcom_2fexample_2fconcordant_2fconcordant_2frules_2fSchemaPairs_24Way_3bLjava_2flang_2fString_3bLcom_2fexample_2fconcordant_2fconcordant_2fmodel_2fSchema_3bLcom_2fexample_2fconcordant_2fconcordant_2fmodel_2fSchema_3b_29V rfl) rfl (by show 2 * 0 + _ ≤ _; exact Nat.le_of_eq rfl) (hb hby d8_10) (fun _ _ => ⟨rfl, e1, (by decide : 1 + 0 ≤ _), (by decide : 6 + 0 ≤ _)⟩)
  dsimp only [Pt.U, Pt.locs, Pt.cells, Pt.slots] at X12 l12 y12 z12 st12 hQ12
  subst l12 y12 z12
  obtain ⟨rfl, Nq12, P13, P14, P15, P16, P17, P18⟩ := hQ12
  have N12 := Fr.app N0 Nq12
  have F19 := A1.keep P13
  have O20 := O4.keep P13 (allS g2 all0)
  have K21 := K5.trans P13 (allS (Or.inr z3) all0)
  refine own_G.st (T' := T12) 13 [(.ref b1)] (fun _ kq => st12.trans kq) ?_
  exact own_ret X12 rfl (v := some (.ref b1)) (fun h => by rw [Bd.returns] at h; cases h) Bd.notSynchronized ⟨b1, rfl, N12, K21, z3, P14, P15, P16, P17, P18⟩ (by decide) (by decide) (fun fs hr => own_retR X12 hx Bd.returns rfl rfl (hb hby d8_13) hr)
theorem d10_0 : decode prog_32_method_3_code 0 = .ok (.aload_n 0, 1) := by decide +kernel
theorem d10_1 : decode prog_32_method_3_code 1 = .ok (.getfield 24, 3) := by decide +kernel
theorem d10_4 : decode prog_32_method_3_code 4 = .ok (.areturn, 1) := by decide +kernel
theorem ef_older (m : MethodId) (a : Addr) : entryFrame m #[(.ref a)] 1 = mkF m 0 #[rv a] [] := by
  first | (simp [entryFrame, mkF, argsToLocals, Value.category]; done) | rfl
def Q_older (Z : State) (a : Addr) (xo : Value) (h0 : Heap) (n0 : Nat) (v : Option Value) (h : Heap) (L : List Loc) : Prop := v = some xo ∧ Fr n0 L ∧ h = h0
set_option maxRecDepth 65536 in
set_option maxHeartbeats 40000000 in
theorem rm_older (l : Launch) (Z : State) (a0 : Array Value) (hw : ∀ d ∈ tables_1, d.before a0 Z = true) (ws : List Jvm.Cond) (a : Addr) (xo : Value) (h0 : Heap) (n0 : Nat) (O0 : Old Z n0 h0) (Fo : Fld Z h0 a "com/example/concordant/concordant/rules/SchemaPairs$SchemaPair" "older" "Lcom/example/concordant/concordant/model/Schema;" xo) (rxo : xo.isRef = true) :
    MetFree l own_y8 (head1 (Jvm.Cond.code own_y8 prog_32_method_3_code 1 (some (.object "com/example/concordant/concordant/model/Schema")) :: ws) ({ frames := 0, cells := 0, slots := 0, locals := 0 } : Room)) (fun aq_ Uq_ => aq_ = #[(.ref a)] ∧ Z.Warmed39 Uq_.vm ∧ Uq_.heap = h0) (fun _ _ _ _ _ => True) (fun _ Uq_ oq_ Ur_ => ∃ vq_ Lq_, oq_ = .returned vq_ ∧ Q_older Z a xo h0 n0 vq_ Ur_.heap Lq_ ∧ FrameEnd Uq_ oq_ Ur_ Lq_ ({ frames := 0, cells := 0, slots := 0, locals := 0 } : Room).cells ({ frames := 0, cells := 0, slots := 0, locals := 0 } : Room).slots) := by
  refine MetFree.of_bodySF (plainFor_of_name pn_com_2fexample_2fconcordant_2fconcordant_2frules_2fSchemaPairs_24SchemaPair) hisR ?_
  intro p e s m args below meth c s₁ Bd hml0 hP hK
  obtain ⟨rfl, hZ, hh⟩ := hP
  have W_ : ∀ {d : Jvm.Cond} (i : Nat), tables_1[i]? = some d → d.before a0 Z = true := fun i h => hw _ (List.mem_of_getElem? h)
  have hx := Bd.exec
  have hby := Bd.bytes
  have hml : c.maxLocals = 1 := hml0
  have hown : s.vm.findClass "com/example/concordant/concordant/rules/SchemaPairs$SchemaPair" = some m.cls := findClass_of_methodNamed Bd.named
  have hnm := (name_of_methodNamed Bd.named Bd.method).1
  have X0 : Stand p l e ({ frames := 0, cells := 0, slots := 0, locals := 0 } : Room) s m #[(.ref a)] below meth c s₁ [] 0 0 := Stand.of_body Bd
  have e0 : s₁.heap = h0 := by rw [← hh, Bd.state]; rfl
  have N0 := Fr.nil n0
  have K0 := Keep.refl h0 []
  refine own_G.start (Q := Q_older Z a xo h0 n0) (ef_older m a) ?_
  refine own_G.sk 1 [(.ref a)] (fun _ kq => XS.aloadN X0.here hx rfl (hb hby d10_0) rfl rfl kq) ?_
  obtain ⟨T1, X1, e1, st1⟩ := getF X0 hx hZ hown (host := "") (Or.inl (W_ 59 rfl)) Via.refl e0 Fo (g := (mkF m 1 #[rv a] [(.ref a)])) rfl rfl (hb hby d10_1)
  refine own_G.st (T' := T1) 4 [xo] st1 ?_
  exact own_ret X1 e1 (v := some xo) (fun h => by rw [Bd.returns] at h; cases h) Bd.notSynchronized ⟨rfl, N0, rfl⟩ (by decide) (by decide) (fun fs hr => own_retR X1 hx Bd.returns rfl rxo (hb hby d10_4) hr)
theorem d11_0 : decode prog_32_method_4_code 0 = .ok (.aload_n 0, 1) := by decide +kernel
theorem d11_1 : decode prog_32_method_4_code 1 = .ok (.getfield 28, 3) := by decide +kernel
theorem d11_4 : decode prog_32_method_4_code 4 = .ok (.areturn, 1) := by decide +kernel
theorem ef_newer (m : MethodId) (a : Addr) : entryFrame m #[(.ref a)] 1 = mkF m 0 #[rv a] [] := by
  first | (simp [entryFrame, mkF, argsToLocals, Value.category]; done) | rfl
def Q_newer (Z : State) (a : Addr) (xn : Value) (h0 : Heap) (n0 : Nat) (v : Option Value) (h : Heap) (L : List Loc) : Prop := v = some xn ∧ Fr n0 L ∧ h = h0
set_option maxRecDepth 65536 in
set_option maxHeartbeats 40000000 in
theorem rm_newer (l : Launch) (Z : State) (a0 : Array Value) (hw : ∀ d ∈ tables_1, d.before a0 Z = true) (ws : List Jvm.Cond) (a : Addr) (xn : Value) (h0 : Heap) (n0 : Nat) (O0 : Old Z n0 h0) (Fo : Fld Z h0 a "com/example/concordant/concordant/rules/SchemaPairs$SchemaPair" "newer" "Lcom/example/concordant/concordant/model/Schema;" xn) (rxn : xn.isRef = true) :
    MetFree l own_y9 (head1 (Jvm.Cond.code own_y9 prog_32_method_4_code 1 (some (.object "com/example/concordant/concordant/model/Schema")) :: ws) ({ frames := 0, cells := 0, slots := 0, locals := 0 } : Room)) (fun aq_ Uq_ => aq_ = #[(.ref a)] ∧ Z.Warmed39 Uq_.vm ∧ Uq_.heap = h0) (fun _ _ _ _ _ => True) (fun _ Uq_ oq_ Ur_ => ∃ vq_ Lq_, oq_ = .returned vq_ ∧ Q_newer Z a xn h0 n0 vq_ Ur_.heap Lq_ ∧ FrameEnd Uq_ oq_ Ur_ Lq_ ({ frames := 0, cells := 0, slots := 0, locals := 0 } : Room).cells ({ frames := 0, cells := 0, slots := 0, locals := 0 } : Room).slots) := by
  refine MetFree.of_bodySF (plainFor_of_name pn_com_2fexample_2fconcordant_2fconcordant_2frules_2fSchemaPairs_24SchemaPair) hisR ?_
  intro p e s m args below meth c s₁ Bd hml0 hP hK
  obtain ⟨rfl, hZ, hh⟩ := hP
  have W_ : ∀ {d : Jvm.Cond} (i : Nat), tables_1[i]? = some d → d.before a0 Z = true := fun i h => hw _ (List.mem_of_getElem? h)
  have hx := Bd.exec
  have hby := Bd.bytes
  have hml : c.maxLocals = 1 := hml0
  have hown : s.vm.findClass "com/example/concordant/concordant/rules/SchemaPairs$SchemaPair" = some m.cls := findClass_of_methodNamed Bd.named
  have hnm := (name_of_methodNamed Bd.named Bd.method).1
  have X0 : Stand p l e ({ frames := 0, cells := 0, slots := 0, locals := 0 } : Room) s m #[(.ref a)] below meth c s₁ [] 0 0 := Stand.of_body Bd
  have e0 : s₁.heap = h0 := by rw [← hh, Bd.state]; rfl
  have N0 := Fr.nil n0
  have K0 := Keep.refl h0 []
  refine own_G.start (Q := Q_newer Z a xn h0 n0) (ef_newer m a) ?_
  refine own_G.sk 1 [(.ref a)] (fun _ kq => XS.aloadN X0.here hx rfl (hb hby d11_0) rfl rfl kq) ?_
  obtain ⟨T1, X1, e1, st1⟩ := getF X0 hx hZ hown (host := "") (Or.inl (W_ 61 rfl)) Via.refl e0 Fo (g := (mkF m 1 #[rv a] [(.ref a)])) rfl rfl (hb hby d11_1)
  refine own_G.st (T' := T1) 4 [xn] st1 ?_
  exact own_ret X1 e1 (v := some xn) (fun h => by rw [Bd.returns] at h; cases h) Bd.notSynchronized ⟨rfl, N0, rfl⟩ (by decide) (by decide) (fun fs hr => own_retR X1 hx Bd.returns rfl rxn (hb hby d11_4) hr)
theorem d16_0 : decode jdk_22_method_1_code 0 = .ok (.aload_n 0, 1) := by decide +kernel
theorem d16_1 : decode jdk_22_method_1_code 1 = .ok (.invokespecial 1, 3) := by decide +kernel
theorem d16_4 : decode jdk_22_method_1_code 4 = .ok (.return_, 1) := by decide +kernel
theorem pn_java_2futil_2fAbstractCollection : plainName "java/util/AbstractCollection" = true := by first | (simp [plainName, overriddenIn]; done) | decide +kernel
theorem ef_acinit (m : MethodId) (a : Addr) : entryFrame m #[(.ref a)] 1 = mkF m 0 #[rv a] [] := by
  first | (simp [entryFrame, mkF, argsToLocals, Value.category]; done) | rfl
def Q_acinit (Z : State) (a : Addr) (h0 : Heap) (n0 : Nat) (v : Option Value) (h : Heap) (L : List Loc) : Prop := v = none ∧ Fr n0 L ∧ h = h0
set_option maxRecDepth 65536 in
set_option maxHeartbeats 40000000 in
theorem rm_acinit (l : Launch) (Z : State) (a0 : Array Value) (hw : ∀ d ∈ tables_1, d.before a0 Z = true) (ws : List Jvm.Cond) (a : Addr) (h0 : Heap) (n0 : Nat) (O0 : Old Z n0 h0) :
    MetFree l own_y10 (head1 (Jvm.Cond.code own_y10 jdk_22_method_1_code 1 none :: ws) ({ frames := 1, cells := 0, slots := 0, locals := 12 } : Room)) (fun aq_ Uq_ => aq_ = #[(.ref a)] ∧ Z.Warmed39 Uq_.vm ∧ Uq_.heap = h0) (fun _ _ _ _ _ => True) (fun _ Uq_ oq_ Ur_ => ∃ vq_ Lq_, oq_ = .returned vq_ ∧ Q_acinit Z a h0 n0 vq_ Ur_.heap Lq_ ∧ FrameEnd Uq_ oq_ Ur_ Lq_ ({ frames := 1, cells := 0, slots := 0, locals := 12 } : Room).cells ({ frames := 1, cells := 0, slots := 0, locals := 12 } : Room).slots) := by
  refine MetFree.of_bodySF (plainFor_of_name pn_java_2futil_2fAbstractCollection) hisR ?_
  intro p e s m args below meth c s₁ Bd hml0 hP hK
  obtain ⟨rfl, hZ, hh⟩ := hP
  have W_ : ∀ {d : Jvm.Cond} (i : Nat), tables_1[i]? = some d → d.before a0 Z = true := fun i h => hw _ (List.mem_of_getElem? h)
  have hx := Bd.exec
  have hby := Bd.bytes
  have hml : c.maxLocals = 1 := hml0
  have hown : s.vm.findClass "java/util/AbstractCollection" = some m.cls := findClass_of_methodNamed Bd.named
  have hnm := (name_of_methodNamed Bd.named Bd.method).1
  have X0 : Stand p l e ({ frames := 1, cells := 0, slots := 0, locals := 12 } : Room) s m #[(.ref a)] below meth c s₁ [] 0 0 := Stand.of_body Bd
  have e0 : s₁.heap = h0 := by rw [← hh, Bd.state]; rfl
  have N0 := Fr.nil n0
  have K0 := Keep.refl h0 []
  refine own_G.start (Q := Q_acinit Z a h0 n0) (ef_acinit m a) ?_
  refine own_G.sk 1 [(.ref a)] (fun _ kq => XS.aloadN X0.here hx rfl (hb hby d16_0) rfl rfl kq) ?_
  obtain ⟨T1, X1, e1, st1⟩ := initO X0 hx hZ hown (W_ 100 rfl) (W_ 16 rfl) (W_ 17 rfl) e0 (g := (mkF m 1 #[rv a] [(.ref a)])) rfl (by rw [hml]; rfl) rfl (hb hby d16_1) (by decide) (W := 0) (by show 2 * 0 + _ ≤ _; exact Nat.le_of_eq rfl) (by decide)
  refine own_G.st (T' := T1) 4 [] st1 ?_
  exact own_ret X1 e1 (v := none) (fun _ => rfl) Bd.notSynchronized ⟨rfl, N0, rfl⟩ (by decide) (by decide) (fun fs hr => X1.returnOut hx Bd.returns (hb hby d16_4) hr)
theorem pd__28_29V : parseMethodDescriptor "()V" = some ⟨[], none⟩ := by decide +kernel
theorem d15_0 : decode jdk_39_method_1_code 0 = .ok (.aload_n 0, 1) := by decide +kernel
theorem d15_1 : decode jdk_39_method_1_code 1 = .ok (.invokespecial 1, 3) := by decide +kernel
theorem d15_4 : decode jdk_39_method_1_code 4 = .ok (.aload_n 0, 1) := by decide +kernel
theorem d15_5 : decode jdk_39_method_1_code 5 = .ok (.iconst 0, 1) := by decide +kernel
theorem d15_6 : decode jdk_39_method_1_code 6 = .ok (.putfield 7, 3) := by decide +kernel
theorem d15_9 : decode jdk_39_method_1_code 9 = .ok (.return_, 1) := by decide +kernel
theorem pn_java_2futil_2fAbstractList : plainName "java/util/AbstractList" = true := by first | (simp [plainName, overriddenIn]; done) | decide +kernel
theorem ef_ablinit (m : MethodId) (a : Addr) : entryFrame m #[(.ref a)] 1 = mkF m 0 #[rv a] [] := by
  first | (simp [entryFrame, mkF, argsToLocals, Value.category]; done) | rfl
def Q_ablinit (Z : State) (a : Addr) (h0 : Heap) (n0 : Nat) (v : Option Value) (h : Heap) (L : List Loc) : Prop := v = none ∧ Fr n0 L ∧ Keep h0 h [a] ∧ Exa Z h a "java/util/ArrayList" ∧ Fld Z h a "java/util/AbstractList" "modCount" "I" (.int 0) ∧ Fld Z h a "java/util/ArrayList" "elementData" "[Ljava/lang/Object;" .null ∧ Fld Z h a "java/util/ArrayList" "size" "I" (.int 0)
set_option maxRecDepth 65536 in
set_option maxHeartbeats 40000000 in
theorem rm_ablinit (l : Launch) (Z : State) (a0 : Array Value) (hw : ∀ d ∈ tables_1, d.before a0 Z = true) (ws : List Jvm.Cond) (a : Addr) (h0 : Heap) (n0 : Nat) (O0 : Old Z n0 h0) (Ea : Exa Z h0 a "java/util/ArrayList") (Fm : Fld Z h0 a "java/util/AbstractList" "modCount" "I" (.int 0)) (Fe : Fld Z h0 a "java/util/ArrayList" "elementData" "[Ljava/lang/Object;" .null) (Fs : Fld Z h0 a "java/util/ArrayList" "size" "I" (.int 0)) (ga : n0 ≤ a) :
    MetFree l own_y11 (head1 (Jvm.Cond.code own_y11 jdk_39_method_1_code 1 none :: ws) ({ frames := 2, cells := 0, slots := 0, locals := 24 } : Room)) (fun aq_ Uq_ => aq_ = #[(.ref a)] ∧ Z.Warmed39 Uq_.vm ∧ Uq_.heap = h0) (fun _ _ _ _ _ => True) (fun _ Uq_ oq_ Ur_ => ∃ vq_ Lq_, oq_ = .returned vq_ ∧ Q_ablinit Z a h0 n0 vq_ Ur_.heap Lq_ ∧ FrameEnd Uq_ oq_ Ur_ Lq_ ({ frames := 2, cells := 0, slots := 0, locals := 24 } : Room).cells ({ frames := 2, cells := 0, slots := 0, locals := 24 } : Room).slots) := by
  refine MetFree.of_bodySF (plainFor_of_name pn_java_2futil_2fAbstractList) hisR ?_
  intro p e s m args below meth c s₁ Bd hml0 hP hK
  obtain ⟨rfl, hZ, hh⟩ := hP
  have W_ : ∀ {d : Jvm.Cond} (i : Nat), tables_1[i]? = some d → d.before a0 Z = true := fun i h => hw _ (List.mem_of_getElem? h)
  have hx := Bd.exec
  have hby := Bd.bytes
  have hml : c.maxLocals = 1 := hml0
  have hown : s.vm.findClass "java/util/AbstractList" = some m.cls := findClass_of_methodNamed Bd.named
  have hnm := (name_of_methodNamed Bd.named Bd.method).1
  have X0 : Stand p l e ({ frames := 2, cells := 0, slots := 0, locals := 24 } : Room) s m #[(.ref a)] below meth c s₁ [] 0 0 := Stand.of_body Bd
  have e0 : s₁.heap = h0 := by rw [← hh, Bd.state]; rfl
  have N0 := Fr.nil n0
  have K0 := Keep.refl h0 [a]
  refine own_G.start (Q := Q_ablinit Z a h0 n0) (ef_ablinit m a) ?_
  refine own_G.sk 1 [(.ref a)] (fun _ kq => XS.aloadN X0.here hx rfl (hb hby d15_0) rfl rfl kq) ?_
  obtain ⟨_, _, ⟨T1, L1, k1, n1⟩, -, X1, ⟨Lc1, hQ1, l1, y1, z1⟩, st1⟩ := X0.specialBack hx (y := own_y10) rfl hown (mvT hZ (W_ 94 rfl)) (mvT hZ (W_ 95 rfl)) (mvT hZ (W_ 99 rfl)) (by decide) (backOf (W := 0) (rm_acinit l Z a0 hw [] a h0 n0 O0 ) hZ (W_ 99 rfl) (W_ 98 rfl) (by decide) (by decide)) (g := (mkF m 1 #[rv a] [(.ref a)])) rfl (by rw [hml]; rfl) (Steps.refl _) (a := a) (argsL := []) (rest := []) (lenOf pd__28_29V rfl) rfl (by show 2 * 0 + _ ≤ _; exact Nat.le_of_eq rfl) (hb hby d15_1) (fun _ _ => ⟨rfl, e0, (by decide : 0 + 0 ≤ _), (by decide : 0 + 0 ≤ _)⟩)
  dsimp only [Pt.U, Pt.locs, Pt.cells, Pt.slots] at X1 l1 y1 z1 st1 hQ1
  subst l1 y1 z1
  obtain ⟨rfl, Nq1, P2⟩ := hQ1
  have N1 := Fr.app N0 Nq1
  refine own_G.st (T' := T1) 4 [] (fun _ kq => st1.trans kq) ?_
  refine own_G.sk 5 [(.ref a)] (fun _ kq => XS.aloadN X1.here hx rfl (hb hby d15_4) rfl rfl kq) ?_
  refine own_G.sk 6 [(.int 0), (.ref a)] (fun _ kq => XS.iconst X1.here hx rfl (hb hby d15_5) kq) ?_
  obtain ⟨T3, h3, X3, e3, W3, st3⟩ := putF X1 hx hZ hown (host := "") (Or.inl (W_ 101 rfl)) Via.refl P2 Fm Ea (Or.inl (W_ 102 rfl)) (W_ 83 rfl) (ty := .int) (by decide) rfl rfl (g := (mkF m 6 #[rv a] [(.int 0), (.ref a)])) rfl rfl (hb hby d15_6)
  have N3 := Fr.snoc X3 N1 ga
  have F4 := Ea.wr W3
  have F5 := Fm.same W3
  have F6 := Fe.other W3 (Or.inr (slot_ne (Or.inl (W_ 105 rfl)) (Or.inl (W_ 102 rfl)) (by decide) (t := (.array (.object "java/lang/Object"))) (t' := .int) (by decide) (by decide)))
  have F7 := Fs.other W3 (Or.inr (slot_ne (Or.inl (W_ 120 rfl)) (Or.inl (W_ 102 rfl)) (by decide) (t := .int) (t' := .int) (by decide) (by decide)))
  have O8 := O0.wr W3 ga
  have K9 := K0.wr W3 (Or.inl (List.mem_of_getElem? (i := 0) rfl))
  refine own_G.st (T' := T3) 9 [] st3 ?_
  exact own_ret X3 e3 (v := none) (fun _ => rfl) Bd.notSynchronized ⟨rfl, N3, K9, F4, F5, F6, F7⟩ (by decide) (by decide) (fun fs hr => X3.returnOut hx Bd.returns (hb hby d15_9) hr)
theorem d14_0 : decode jdk_38_method_2_code 0 = .ok (.aload_n 0, 1) := by decide +kernel
theorem d14_1 : decode jdk_38_method_2_code 1 = .ok (.invokespecial 1, 3) := by decide +kernel
theorem d14_4 : decode jdk_38_method_2_code 4 = .ok (.aload_n 0, 1) := by decide +kernel
theorem d14_5 : decode jdk_38_method_2_code 5 = .ok (.getstatic 39, 3) := by decide +kernel
theorem d14_8 : decode jdk_38_method_2_code 8 = .ok (.putfield 9, 3) := by decide +kernel
theorem d14_11 : decode jdk_38_method_2_code 11 = .ok (.return_, 1) := by decide +kernel
theorem pn_java_2futil_2fArrayList : plainName "java/util/ArrayList" = true := by first | (simp [plainName, overriddenIn]; done) | decide +kernel
theorem ef_alinit (m : MethodId) (a : Addr) : entryFrame m #[(.ref a)] 1 = mkF m 0 #[rv a] [] := by
  first | (simp [entryFrame, mkF, argsToLocals, Value.category]; done) | rfl
def Q_alinit (Z : State) (a : Addr) (dc : Addr) (h0 : Heap) (n0 : Nat) (v : Option Value) (h : Heap) (L : List Loc) : Prop := v = none ∧ Fr n0 L ∧ Keep h0 h [a] ∧ Exa Z h a "java/util/ArrayList" ∧ Fld Z h a "java/util/AbstractList" "modCount" "I" (.int 0) ∧ Fld Z h a "java/util/ArrayList" "size" "I" (.int 0)
set_option maxRecDepth 65536 in
set_option maxHeartbeats 40000000 in
theorem rm_alinit (l : Launch) (Z : State) (a0 : Array Value) (hw : ∀ d ∈ tables_1, d.before a0 Z = true) (ws : List Jvm.Cond) (a : Addr) (dc : Addr) (h0 : Heap) (n0 : Nat) (O0 : Old Z n0 h0) (S_DC : Sta Z Z.heap "java/util/ArrayList" "DEFAULTCAPACITY_EMPTY_ELEMENTDATA" "[Ljava/lang/Object;" (.ref dc)) (Ea : Exa Z h0 a "java/util/ArrayList") (Fm : Fld Z h0 a "java/util/AbstractList" "modCount" "I" (.int 0)) (Fe : Fld Z h0 a "java/util/ArrayList" "elementData" "[Ljava/lang/Object;" .null) (Fs : Fld Z h0 a "java/util/ArrayList" "size" "I" (.int 0)) (ga : n0 ≤ a) :
    MetFree l own_y12 (head1 (Jvm.Cond.code own_y12 jdk_38_method_2_code 1 none :: ws) ({ frames := 3, cells := 0, slots := 0, locals := 36 } : Room)) (fun aq_ Uq_ => aq_ = #[(.ref a)] ∧ Z.Warmed39 Uq_.vm ∧ Uq_.heap = h0) (fun _ _ _ _ _ => True) (fun _ Uq_ oq_ Ur_ => ∃ vq_ Lq_, oq_ = .returned vq_ ∧ Q_alinit Z a dc h0 n0 vq_ Ur_.heap Lq_ ∧ FrameEnd Uq_ oq_ Ur_ Lq_ ({ frames := 3, cells := 0, slots := 0, locals := 36 } : Room).cells ({ frames := 3, cells := 0, slots := 0, locals := 36 } : Room).slots) := by
  refine MetFree.of_bodySF (plainFor_of_name pn_java_2futil_2fArrayList) hisR ?_
  intro p e s m args below meth c s₁ Bd hml0 hP hK
  obtain ⟨rfl, hZ, hh⟩ := hP
  have W_ : ∀ {d : Jvm.Cond} (i : Nat), tables_1[i]? = some d → d.before a0 Z = true := fun i h => hw _ (List.mem_of_getElem? h)
  have hx := Bd.exec
  have hby := Bd.bytes
  have hml : c.maxLocals = 1 := hml0
  have hown : s.vm.findClass "java/util/ArrayList" = some m.cls := findClass_of_methodNamed Bd.named
  have hnm := (name_of_methodNamed Bd.named Bd.method).1
  have X0 : Stand p l e ({ frames := 3, cells := 0, slots := 0, locals := 36 } : Room) s m #[(.ref a)] below meth c s₁ [] 0 0 := Stand.of_body Bd
  have e0 : s₁.heap = h0 := by rw [← hh, Bd.state]; rfl
  have N0 := Fr.nil n0
  have K0 := Keep.refl h0 [a]
  refine own_G.start (Q := Q_alinit Z a dc h0 n0) (ef_alinit m a) ?_
  refine own_G.sk 1 [(.ref a)] (fun _ kq => XS.aloadN X0.here hx rfl (hb hby d14_0) rfl rfl kq) ?_
  obtain ⟨_, _, ⟨T1, L1, k1, n1⟩, -, X1, ⟨Lc1, hQ1, l1, y1, z1⟩, st1⟩ := X0.specialBack hx (y := own_y11) rfl hown (mvT hZ (W_ 88 rfl)) (mvT hZ (W_ 89 rfl)) (mvT hZ (W_ 93 rfl)) (by decide) (backOf (W := 0) (rm_ablinit l Z a0 hw [] a h0 n0 O0 Ea Fm Fe Fs ga) hZ (W_ 93 rfl) (W_ 92 rfl) (by decide) (by decide)) (g := (mkF m 1 #[rv a] [(.ref a)])) rfl (by rw [hml]; rfl) (Steps.refl _) (a := a) (argsL := []) (rest := []) (lenOf pd__28_29V rfl) rfl (by show 2 * 0 + _ ≤ _; exact Nat.le_of_eq rfl) (hb hby d14_1) (fun _ _ => ⟨rfl, e0, (by decide : 0 + 0 ≤ _), (by decide : 0 + 0 ≤ _)⟩)
  dsimp only [Pt.U, Pt.locs, Pt.cells, Pt.slots] at X1 l1 y1 z1 st1 hQ1
  subst l1 y1 z1
  obtain ⟨rfl, Nq1, P2, P3, P4, P5, P6⟩ := hQ1
  have N1 := Fr.app N0 Nq1
  have F7 := Ea.keep P2
  have O8 := O0.keep P2 (allS ga all0)
  have K9 := K0.trans P2 (allS (Or.inl (List.mem_of_getElem? (i := 0) rfl)) all0)
  refine own_G.st (T' := T1) 4 [] (fun _ kq => st1.trans kq) ?_
  refine own_G.sk 5 [(.ref a)] (fun _ kq => XS.aloadN X1.here hx rfl (hb hby d14_4) rfl rfl kq) ?_
  obtain ⟨T10, X10, e10, st10⟩ := getS2 X1 hx hZ hown (host := "") (Or.inl (W_ 103 rfl)) Via.refl rfl (Sta.ext O8.2 S_DC) (g := (mkF m 5 #[rv a] [(.ref a)])) rfl (hb hby d14_5)
  refine own_G.st (T' := T10) 8 [(.ref dc), (.ref a)] st10 ?_
  obtain ⟨T11, h11, X11, e11, W11, st11⟩ := putF X10 hx hZ hown (host := "") (Or.inl (W_ 104 rfl)) Via.refl e10 P5 P3 (Or.inl (W_ 105 rfl)) (W_ 83 rfl) (ty := (.array (.object "java/lang/Object"))) (by decide) rfl rfl (g := (mkF m 8 #[rv a] [(.ref dc), (.ref a)])) rfl rfl (hb hby d14_8)
  have N11 := Fr.snoc X11 N1 ga
  have F12 := P3.wr W11
  have F13 := P4.other W11 (Or.inr (slot_ne (Or.inl (W_ 102 rfl)) (Or.inl (W_ 105 rfl)) (by decide) (t := .int) (t' := (.array (.object "java/lang/Object"))) (by decide) (by decide)))
  have F14 := P5.same W11
  have F15 := P6.other W11 (Or.inr (slot_ne (Or.inl (W_ 120 rfl)) (Or.inl (W_ 105 rfl)) (by decide) (t := .int) (t' := (.array (.object "java/lang/Object"))) (by decide) (by decide)))
  have O16 := O8.wr W11 ga
  have K17 := K9.wr W11 (Or.inl (List.mem_of_getElem? (i := 0) rfl))
  refine own_G.st (T' := T11) 11 [] st11 ?_
  exact own_ret X11 e11 (v := none) (fun _ => rfl) Bd.notSynchronized ⟨rfl, N11, K17, F12, F13, F15⟩ (by decide) (by decide) (fun fs hr => X11.returnOut hx Bd.returns (hb hby d14_11) hr)
theorem d18_0 : decode jdk_38_method_8_code 0 = .ok (.aload_n 0, 1) := by decide +kernel
theorem d18_1 : decode jdk_38_method_8_code 1 = .ok (.getfield 48, 3) := by decide +kernel
theorem d18_4 : decode jdk_38_method_8_code 4 = .ok (.ireturn, 1) := by decide +kernel
theorem ef_alsize (m : MethodId) (a : Addr) : entryFrame m #[(.ref a)] 1 = mkF m 0 #[rv a] [] := by
  first | (simp [entryFrame, mkF, argsToLocals, Value.category]; done) | rfl
def Q_alsize (Z : State) (a : Addr) (h0 : Heap) (n0 : Nat) (v : Option Value) (h : Heap) (L : List Loc) : Prop := v = some (.int 0) ∧ Fr n0 L ∧ h = h0
set_option maxRecDepth 65536 in
set_option maxHeartbeats 40000000 in
theorem rm_alsize (l : Launch) (Z : State) (a0 : Array Value) (hw : ∀ d ∈ tables_1, d.before a0 Z = true) (ws : List Jvm.Cond) (a : Addr) (h0 : Heap) (n0 : Nat) (O0 : Old Z n0 h0) (Fs : Fld Z h0 a "java/util/ArrayList" "size" "I" (.int 0)) :
    MetFree l own_y13 (head1 (Jvm.Cond.code own_y13 jdk_38_method_8_code 1 (some .int) :: ws) ({ frames := 0, cells := 0, slots := 0, locals := 0 } : Room)) (fun aq_ Uq_ => aq_ = #[(.ref a)] ∧ Z.Warmed39 Uq_.vm ∧ Uq_.heap = h0) (fun _ _ _ _ _ => True) (fun _ Uq_ oq_ Ur_ => ∃ vq_ Lq_, oq_ = .returned vq_ ∧ Q_alsize Z a h0 n0 vq_ Ur_.heap Lq_ ∧ FrameEnd Uq_ oq_ Ur_ Lq_ ({ frames := 0, cells := 0, slots := 0, locals := 0 } : Room).cells ({ frames := 0, cells := 0, slots := 0, locals := 0 } : Room).slots) := by
  refine MetFree.of_bodySF (plainFor_of_name pn_java_2futil_2fArrayList) hisR ?_
  intro p e s m args below meth c s₁ Bd hml0 hP hK
  obtain ⟨rfl, hZ, hh⟩ := hP
  have W_ : ∀ {d : Jvm.Cond} (i : Nat), tables_1[i]? = some d → d.before a0 Z = true := fun i h => hw _ (List.mem_of_getElem? h)
  have hx := Bd.exec
  have hby := Bd.bytes
  have hml : c.maxLocals = 1 := hml0
  have hown : s.vm.findClass "java/util/ArrayList" = some m.cls := findClass_of_methodNamed Bd.named
  have hnm := (name_of_methodNamed Bd.named Bd.method).1
  have X0 : Stand p l e ({ frames := 0, cells := 0, slots := 0, locals := 0 } : Room) s m #[(.ref a)] below meth c s₁ [] 0 0 := Stand.of_body Bd
  have e0 : s₁.heap = h0 := by rw [← hh, Bd.state]; rfl
  have N0 := Fr.nil n0
  have K0 := Keep.refl h0 []
  refine own_G.start (Q := Q_alsize Z a h0 n0) (ef_alsize m a) ?_
  refine own_G.sk 1 [(.ref a)] (fun _ kq => XS.aloadN X0.here hx rfl (hb hby d18_0) rfl rfl kq) ?_
  obtain ⟨T1, X1, e1, st1⟩ := getF X0 hx hZ hown (host := "") (Or.inl (W_ 119 rfl)) Via.refl e0 Fs (g := (mkF m 1 #[rv a] [(.ref a)])) rfl rfl (hb hby d18_1)
  refine own_G.st (T' := T1) 4 [(.int 0)] st1 ?_
  exact own_ret X1 e1 (v := some (.int 0)) (fun h => by rw [Bd.returns] at h; cases h) Bd.notSynchronized ⟨rfl, N0, rfl⟩ (by decide) (by decide) (fun fs hr => retI X1 hx Bd.returns (hb hby d18_4) hr)
theorem pd__28_29I : parseMethodDescriptor "()I" = some ⟨[], some .int⟩ := by decide +kernel
theorem d17_0 : decode jdk_79_method_11_code 0 = .ok (.aload_n 0, 1) := by decide +kernel
theorem d17_1 : decode jdk_79_method_11_code 1 = .ok (.invokeinterface 15 1, 5) := by decide +kernel
theorem d17_6 : decode jdk_79_method_11_code 6 = .ok (.istore_n 1, 1) := by decide +kernel
theorem d17_7 : decode jdk_79_method_11_code 7 = .ok (.iload_n 1, 1) := by decide +kernel
theorem d17_8 : decode jdk_79_method_11_code 8 = .ok (.bipush 18, 2) := by decide +kernel
theorem d17_10 : decode jdk_79_method_11_code 10 = .ok (.if_icmp .lt 10, 3) := by decide +kernel
theorem d17_20 : decode jdk_79_method_11_code 20 = .ok (.iconst 0, 1) := by decide +kernel
theorem d17_21 : decode jdk_79_method_11_code 21 = .ok (.istore_n 2, 1) := by decide +kernel
theorem d17_22 : decode jdk_79_method_11_code 22 = .ok (.iload_n 1, 1) := by decide +kernel
theorem d17_23 : decode jdk_79_method_11_code 23 = .ok (.iconst 1, 1) := by decide +kernel
theorem d17_24 : decode jdk_79_method_11_code 24 = .ok (.ishr, 1) := by decide +kernel
theorem d17_25 : decode jdk_79_method_11_code 25 = .ok (.istore_n 3, 1) := by decide +kernel
theorem d17_26 : decode jdk_79_method_11_code 26 = .ok (.iload_n 1, 1) := by decide +kernel
theorem d17_27 : decode jdk_79_method_11_code 27 = .ok (.iconst 1, 1) := by decide +kernel
theorem d17_28 : decode jdk_79_method_11_code 28 = .ok (.isub, 1) := by decide +kernel
theorem d17_29 : decode jdk_79_method_11_code 29 = .ok (.istore 4, 2) := by decide +kernel
theorem d17_31 : decode jdk_79_method_11_code 31 = .ok (.iload_n 2, 1) := by decide +kernel
theorem d17_32 : decode jdk_79_method_11_code 32 = .ok (.iload_n 3, 1) := by decide +kernel
theorem d17_33 : decode jdk_79_method_11_code 33 = .ok (.if_icmp .ge 19, 3) := by decide +kernel
theorem d17_52 : decode jdk_79_method_11_code 52 = .ok (.goto 72, 3) := by decide +kernel
theorem d17_124 : decode jdk_79_method_11_code 124 = .ok (.return_, 1) := by decide +kernel
theorem pn_java_2futil_2fCollections : plainName "java/util/Collections" = true := by first | (simp [plainName, overriddenIn]; done) | decide +kernel
theorem ef_reverse (m : MethodId) (a : Addr) : entryFrame m #[(.ref a)] 7 = mkF m 0 #[rv a, .unset, .unset, .unset, .unset, .unset, .unset] [] := by
  first | (simp [entryFrame, mkF, argsToLocals, Value.category]; done) | rfl
def Q_reverse (Z : State) (a : Addr) (h0 : Heap) (n0 : Nat) (v : Option Value) (h : Heap) (L : List Loc) : Prop := v = none ∧ Fr n0 L ∧ h = h0
set_option maxRecDepth 65536 in
set_option maxHeartbeats 40000000 in
theorem rm_reverse (l : Launch) (Z : State) (a0 : Array Value) (hw : ∀ d ∈ tables_1, d.before a0 Z = true) (ws : List Jvm.Cond) (a : Addr) (h0 : Heap) (n0 : Nat) (O0 : Old Z n0 h0) (Ea : Exa Z h0 a "java/util/ArrayList") (Fs : Fld Z h0 a "java/util/ArrayList" "size" "I" (.int 0)) :
    MetFree l own_y14 (head1 (Jvm.Cond.code own_y14 jdk_79_method_11_code 7 none :: ws) ({ frames := 1, cells := 0, slots := 0, locals := 12 } : Room)) (fun aq_ Uq_ => aq_ = #[(.ref a)] ∧ Z.Warmed39 Uq_.vm ∧ Uq_.heap = h0) (fun _ _ _ _ _ => True) (fun _ Uq_ oq_ Ur_ => ∃ vq_ Lq_, oq_ = .returned vq_ ∧ Q_reverse Z a h0 n0 vq_ Ur_.heap Lq_ ∧ FrameEnd Uq_ oq_ Ur_ Lq_ ({ frames := 1, cells := 0, slots := 0, locals := 12 } : Room).cells ({ frames := 1, cells := 0, slots := 0, locals := 12 } : Room).slots) := by
  refine MetFree.of_bodySF (plainFor_of_name pn_java_2futil_2fCollections) hisR ?_
  intro p e s m args below meth c s₁ Bd hml0 hP hK
  obtain ⟨rfl, hZ, hh⟩ := hP
  have W_ : ∀ {d : Jvm.Cond} (i : Nat), tables_1[i]? = some d → d.before a0 Z = true := fun i h => hw _ (List.mem_of_getElem? h)
  have hx := Bd.exec
  have hby := Bd.bytes
  have hml : c.maxLocals = 7 := hml0
  have hown : s.vm.findClass "java/util/Collections" = some m.cls := findClass_of_methodNamed Bd.named
  have hnm := (name_of_methodNamed Bd.named Bd.method).1
  have X0 : Stand p l e ({ frames := 1, cells := 0, slots := 0, locals := 12 } : Room) s m #[(.ref a)] below meth c s₁ [] 0 0 := Stand.of_body Bd
  have e0 : s₁.heap = h0 := by rw [← hh, Bd.state]; rfl
  have N0 := Fr.nil n0
  have K0 := Keep.refl h0 []
  refine own_G.start (Q := Q_reverse Z a h0 n0) (ef_reverse m a) ?_
  refine own_G.sk 1 [(.ref a)] (fun _ kq => XS.aloadN X0.here hx rfl (hb hby d17_0) rfl rfl kq) ?_
  obtain ⟨cq1, kq1, q1a, q1b, q1c⟩ := isOf hZ e0 Ea
  obtain ⟨_, _, ⟨T1, L1, k1, n1⟩, -, X1, ⟨Lc1, hQ1, l1, y1, z1⟩, st1⟩ := X0.interfaceBack hx (xi := (⟨"java/util/List", "size", "()I"⟩ : MethodName)) (y := own_y13) hown (mvT hZ (W_ 110 rfl)) (mvT hZ (W_ 111 rfl)) (mvT hZ (W_ 112 rfl)) (mvT hZ (W_ 113 rfl)) (mvT hZ (W_ 114 rfl)) (mvT hZ (W_ 115 rfl)) (mvT hZ (W_ 116 rfl)) (mvT hZ (W_ 117 rfl)) (by decide) (backOf (W := 0) (rm_alsize l Z a0 hw [] a h0 n0 O0 Fs) hZ (W_ 118 rfl) (W_ 84 rfl) (by decide) (by decide)) q1a q1b q1c (g := (mkF m 1 #[rv a, .unset, .unset, .unset, .unset, .unset, .unset] [(.ref a)])) rfl (by rw [hml]; rfl) (Steps.refl _) (argsL := []) (rest := []) (lenOf pd__28_29I rfl) rfl (by show 2 * 0 + _ ≤ _; exact Nat.le_of_eq rfl) (hb hby d17_1) (fun _ _ => ⟨rfl, e0, (by decide : 0 + 0 ≤ _), (by decide : 0 + 0 ≤ _)⟩)
  dsimp only [Pt.U, Pt.locs, Pt.cells, Pt.slots] at X1 l1 y1 z1 st1 hQ1
  subst l1 y1 z1
  obtain ⟨rfl, Nq1, P2⟩ := hQ1
  have N1 := Fr.app N0 Nq1
  refine own_G.st (T' := T1) 6 [(.int 0)] (fun _ kq => st1.trans kq) ?_
  refine own_G.si 7 [] (fun _ kq => XS.istoreN X1.here hx rfl (hb hby d17_6) rfl (l' := #[rv a, iv 0, .unset, .unset, .unset, .unset, .unset]) rfl kq) ?_
  refine own_G.sk 8 [(.int 0)] (fun _ kq => XS.iloadN X1.here hx rfl (hb hby d17_7) rfl kq) ?_
  refine own_G.sk 10 [(.int 18), (.int 0)] (fun _ kq => XS.bipush X1.here hx rfl (hb hby d17_8) kq) ?_
  have hc10 : (0 : Int32) < (18 : Int32) := (by decide)
  refine own_G.sk 20 [] (fun _ kq => XS.icmpYes X1.here hx rfl (pc0 := 10) (pc' := 20) rfl (hb hby d17_10) rfl (tlt hc10).1 (by decide) (by decide) kq) ?_
  refine own_G.sk 21 [(.int 0)] (fun _ kq => XS.iconst X1.here hx rfl (hb hby d17_20) kq) ?_
  refine own_G.si 22 [] (fun _ kq => XS.istoreN X1.here hx rfl (hb hby d17_21) rfl (l' := #[rv a, iv 0, iv 0, .unset, .unset, .unset, .unset]) rfl kq) ?_
  refine own_G.sk 23 [(.int 0)] (fun _ kq => XS.iloadN X1.here hx rfl (hb hby d17_22) rfl kq) ?_
  refine own_G.sk 24 [(.int 1), (.int 0)] (fun _ kq => XS.iconst X1.here hx rfl (hb hby d17_23) kq) ?_
  refine own_G.sk 25 [(.int ((0 : Int32) >>> ((1 : Int32) &&& 31)))] (fun _ kq => XS.ishr X1.here hx rfl (hb hby d17_24) rfl kq) ?_
  refine own_G.si 26 [] (fun _ kq => XS.istoreN X1.here hx rfl (hb hby d17_25) rfl (l' := #[rv a, iv 0, iv 0, .val (.int ((0 : Int32) >>> ((1 : Int32) &&& 31))), .unset, .unset, .unset]) rfl kq) ?_
  refine own_G.sk 27 [(.int 0)] (fun _ kq => XS.iloadN X1.here hx rfl (hb hby d17_26) rfl kq) ?_
  refine own_G.sk 28 [(.int 1), (.int 0)] (fun _ kq => XS.iconst X1.here hx rfl (hb hby d17_27) kq) ?_
  refine own_G.sk 29 [(.int ((0 : Int32) - (1 : Int32)))] (fun _ kq => XS.isub X1.here hx rfl (hb hby d17_28) rfl kq) ?_
  refine own_G.si 31 [] (fun _ kq => XS.istore X1.here hx rfl (hb hby d17_29) rfl (l' := #[rv a, iv 0, iv 0, .val (.int ((0 : Int32) >>> ((1 : Int32) &&& 31))), .val (.int ((0 : Int32) - (1 : Int32))), .unset, .unset]) rfl kq) ?_
  refine own_G.sk 32 [(.int 0)] (fun _ kq => XS.iloadN X1.here hx rfl (hb hby d17_31) rfl kq) ?_
  refine own_G.sk 33 [(.int ((0 : Int32) >>> ((1 : Int32) &&& 31))), (.int 0)] (fun _ kq => XS.iloadN X1.here hx rfl (hb hby d17_32) rfl kq) ?_
  have hc33 : ¬ ((0 : Int32) < ((0 : Int32) >>> ((1 : Int32) &&& 31))) := (by decide)
  refine own_G.sk 52 [] (fun _ kq => XS.icmpYes X1.here hx rfl (pc0 := 33) (pc' := 52) rfl (hb hby d17_33) rfl (flt hc33).2.1 (by decide) (by decide) kq) ?_
  refine own_G.sk 124 [] (fun _ kq => XS.goto X1.here hx rfl (pc0 := 52) (pc' := 124) rfl (hb hby d17_52) (by decide) (by decide) kq) ?_
  exact own_ret X1 P2 (v := none) (fun _ => rfl) Bd.notSynchronized ⟨rfl, N1, rfl⟩ (by decide) (by decide) (fun fs hr => X1.returnOut hx Bd.returns (hb hby d17_124) hr)
theorem d22_0 : decode jdk_49_method_1_code 0 = .ok (.aload_n 0, 1) := by decide +kernel
theorem d22_1 : decode jdk_49_method_1_code 1 = .ok (.aload_n 1, 1) := by decide +kernel
theorem d22_2 : decode jdk_49_method_1_code 2 = .ok (.putfield 1, 3) := by decide +kernel
theorem d22_5 : decode jdk_49_method_1_code 5 = .ok (.aload_n 0, 1) := by decide +kernel
theorem d22_6 : decode jdk_49_method_1_code 6 = .ok (.invokespecial 7, 3) := by decide +kernel
theorem d22_9 : decode jdk_49_method_1_code 9 = .ok (.aload_n 0, 1) := by decide +kernel
theorem d22_10 : decode jdk_49_method_1_code 10 = .ok (.iconst (-1), 1) := by decide +kernel
theorem d22_11 : decode jdk_49_method_1_code 11 = .ok (.putfield 13, 3) := by decide +kernel
theorem d22_14 : decode jdk_49_method_1_code 14 = .ok (.aload_n 0, 1) := by decide +kernel
theorem d22_15 : decode jdk_49_method_1_code 15 = .ok (.aload_n 0, 1) := by decide +kernel
theorem d22_16 : decode jdk_49_method_1_code 16 = .ok (.getfield 1, 3) := by decide +kernel
theorem d22_19 : decode jdk_49_method_1_code 19 = .ok (.getfield 17, 3) := by decide +kernel
theorem d22_22 : decode jdk_49_method_1_code 22 = .ok (.putfield 22, 3) := by decide +kernel
theorem d22_25 : decode jdk_49_method_1_code 25 = .ok (.return_, 1) := by decide +kernel
theorem pn_java_2futil_2fArrayList_24Itr : plainName "java/util/ArrayList$Itr" = true := by first | (simp [plainName, overriddenIn]; done) | decide +kernel
theorem ef_itinit (m : MethodId) (i : Addr) (a : Addr) : entryFrame m #[(.ref i), (.ref a)] 2 = mkF m 0 #[rv i, rv a] [] := by
  first | (simp [entryFrame, mkF, argsToLocals, Value.category]; done) | rfl
def Q_itinit (Z : State) (i : Addr) (a : Addr) (h0 : Heap) (n0 : Nat) (v : Option Value) (h : Heap) (L : List Loc) : Prop := v = none ∧ Fr n0 L ∧ Keep h0 h [i] ∧ Exa Z h i "java/util/ArrayList$Itr" ∧ Fld Z h i "java/util/ArrayList$Itr" "this$0" "Ljava/util/ArrayList;" (.ref a) ∧ Fld Z h i "java/util/ArrayList$Itr" "cursor" "I" (.int 0)
set_option maxRecDepth 65536 in
set_option maxHeartbeats 40000000 in
theorem rm_itinit (l : Launch) (Z : State) (a0 : Array Value) (hw : ∀ d ∈ tables_1, d.before a0 Z = true) (ws : List Jvm.Cond) (i : Addr) (a : Addr) (h0 : Heap) (n0 : Nat) (O0 : Old Z n0 h0) (Ei : Exa Z h0 i "java/util/ArrayList$Itr") (I_this0 : Fld Z h0 i "java/util/ArrayList$Itr" "this$0" "Ljava/util/ArrayList;" .null) (I_lastRet : Fld Z h0 i "java/util/ArrayList$Itr" "lastRet" "I" (.int 0)) (I_expectedModCount : Fld Z h0 i "java/util/ArrayList$Itr" "expectedModCount" "I" (.int 0)) (I_cursor : Fld Z h0 i "java/util/ArrayList$Itr" "cursor" "I" (.int 0)) (Fm : Fld Z h0 a "java/util/AbstractList" "modCount" "I" (.int 0)) (gi : n0 ≤ i) (nia : i ≠ a) :
    MetFree l own_y16 (head1 (Jvm.Cond.code own_y16 jdk_49_method_1_code 2 none :: ws) ({ frames := 1, cells := 0, slots := 0, locals := 12 } : Room)) (fun aq_ Uq_ => aq_ = #[(.ref i), (.ref a)] ∧ Z.Warmed39 Uq_.vm ∧ Uq_.heap = h0) (fun _ _ _ _ _ => True) (fun _ Uq_ oq_ Ur_ => ∃ vq_ Lq_, oq_ = .returned vq_ ∧ Q_itinit Z i a h0 n0 vq_ Ur_.heap Lq_ ∧ FrameEnd Uq_ oq_ Ur_ Lq_ ({ frames := 1, cells := 0, slots := 0, locals := 12 } : Room).cells ({ frames := 1, cells := 0, slots := 0, locals := 12 } : Room).slots) := by
  refine MetFree.of_bodySF (plainFor_of_name pn_java_2futil_2fArrayList_24Itr) hisR ?_
  intro p e s m args below meth c s₁ Bd hml0 hP hK
  obtain ⟨rfl, hZ, hh⟩ := hP
  have W_ : ∀ {d : Jvm.Cond} (i : Nat), tables_1[i]? = some d → d.before a0 Z = true := fun i h => hw _ (List.mem_of_getElem? h)
  have hx := Bd.exec
  have hby := Bd.bytes
  have hml : c.maxLocals = 2 := hml0
  have hown : s.vm.findClass "java/util/ArrayList$Itr" = some m.cls := findClass_of_methodNamed Bd.named
  have hnm := (name_of_methodNamed Bd.named Bd.method).1
  have X0 : Stand p l e ({ frames := 1, cells := 0, slots := 0, locals := 12 } : Room) s m #[(.ref i), (.ref a)] below meth c s₁ [] 0 0 := Stand.of_body Bd
  have e0 : s₁.heap = h0 := by rw [← hh, Bd.state]; rfl
  have N0 := Fr.nil n0
  have K0 := Keep.refl h0 [i]
  refine own_G.start (Q := Q_itinit Z i a h0 n0) (ef_itinit m i a) ?_
  refine own_G.sk 1 [(.ref i)] (fun _ kq => XS.aloadN X0.here hx rfl (hb hby d22_0) rfl rfl kq) ?_
  refine own_G.sk 2 [(.ref a), (.ref i)] (fun _ kq => XS.aloadN X0.here hx rfl (hb hby d22_1) rfl rfl kq) ?_
  obtain ⟨T1, h1, X1, e1, W1, st1⟩ := putF X0 hx hZ hown (host := "") (Or.inl (W_ 154 rfl)) Via.refl e0 I_this0 Ei (Or.inr ⟨(W_ 155 rfl), rfl, hnm⟩) (W_ 148 rfl) (ty := (.object "java/util/ArrayList")) (by decide) rfl rfl (g := (mkF m 2 #[rv i, rv a] [(.ref a), (.ref i)])) rfl rfl (hb hby d22_2)
  have N1 := Fr.snoc X1 N0 gi
  have F2 := Ei.wr W1
  have F3 := I_this0.same W1
  have F4 := I_lastRet.other W1 (Or.inr (slot_ne (Or.inl (W_ 158 rfl)) (Or.inr (W_ 155 rfl)) (by decide) (t := .int) (t' := (.object "java/util/ArrayList")) (by decide) (by decide)))
  have F5 := I_expectedModCount.other W1 (Or.inr (slot_ne (Or.inl (W_ 162 rfl)) (Or.inr (W_ 155 rfl)) (by decide) (t := .int) (t' := (.object "java/util/ArrayList")) (by decide) (by decide)))
  have F6 := I_cursor.other W1 (Or.inr (slot_ne (Or.inl (W_ 173 rfl)) (Or.inr (W_ 155 rfl)) (by decide) (t := .int) (t' := (.object "java/util/ArrayList")) (by decide) (by decide)))
  have F7 := Fm.other W1 (Or.inl (Ne.symm nia))
  have O8 := O0.wr W1 gi
  have K9 := K0.wr W1 (Or.inl (List.mem_of_getElem? (i := 0) rfl))
  refine own_G.st (T' := T1) 5 [] st1 ?_
  refine own_G.sk 6 [(.ref i)] (fun _ kq => XS.aloadN X1.here hx rfl (hb hby d22_5) rfl rfl kq) ?_
  obtain ⟨T10, X10, e10, st10⟩ := initO X1 hx hZ hown (W_ 156 rfl) (W_ 16 rfl) (W_ 17 rfl) e1 (g := (mkF m 6 #[rv i, rv a] [(.ref i)])) rfl (by rw [hml]; rfl) rfl (hb hby d22_6) (by decide) (W := 0) (by show 2 * 0 + _ ≤ _; exact Nat.le_of_eq rfl) (by decide)
  refine own_G.st (T' := T10) 9 [] st10 ?_
  refine own_G.sk 10 [(.ref i)] (fun _ kq => XS.aloadN X10.here hx rfl (hb hby d22_9) rfl rfl kq) ?_
  refine own_G.sk 11 [(.int (-1 : Int32)), (.ref i)] (fun _ kq => XS.iconst X10.here hx rfl (hb hby d22_10) kq) ?_
  obtain ⟨T11, h11, X11, e11, W11, st11⟩ := putF X10 hx hZ hown (host := "") (Or.inl (W_ 157 rfl)) Via.refl e10 F4 F2 (Or.inl (W_ 158 rfl)) (W_ 148 rfl) (ty := .int) (by decide) rfl rfl (g := (mkF m 11 #[rv i, rv a] [(.int (-1 : Int32)), (.ref i)])) rfl rfl (hb hby d22_11)
  have N11 := Fr.snoc X11 N1 gi
  have F12 := F2.wr W11
  have F13 := F3.other W11 (Or.inr (slot_ne (Or.inr (W_ 155 rfl)) (Or.inl (W_ 158 rfl)) (by decide) (t := (.object "java/util/ArrayList")) (t' := .int) (by decide) (by decide)))
  have F14 := F4.same W11
  have F15 := F5.other W11 (Or.inr (slot_ne (Or.inl (W_ 162 rfl)) (Or.inl (W_ 158 rfl)) (by decide) (t := .int) (t' := .int) (by decide) (by decide)))
  have F16 := F6.other W11 (Or.inr (slot_ne (Or.inl (W_ 173 rfl)) (Or.inl (W_ 158 rfl)) (by decide) (t := .int) (t' := .int) (by decide) (by decide)))
  have F17 := F7.other W11 (Or.inl (Ne.symm nia))
  have O18 := O8.wr W11 gi
  have K19 := K9.wr W11 (Or.inl (List.mem_of_getElem? (i := 0) rfl))
  refine own_G.st (T' := T11) 14 [] st11 ?_
  refine own_G.sk 15 [(.ref i)] (fun _ kq => XS.aloadN X11.here hx rfl (hb hby d22_14) rfl rfl kq) ?_
  refine own_G.sk 16 [(.ref i), (.ref i)] (fun _ kq => XS.aloadN X11.here hx rfl (hb hby d22_15) rfl rfl kq) ?_
  obtain ⟨T20, X20, e20, st20⟩ := getF X11 hx hZ hown (host := "") (Or.inl (W_ 154 rfl)) Via.refl e11 F13 (g := (mkF m 16 #[rv i, rv a] [(.ref i), (.ref i)])) rfl rfl (hb hby d22_16)
  refine own_G.st (T' := T20) 19 [(.ref a), (.ref i)] st20 ?_
  obtain ⟨T21, X21, e21, st21⟩ := getF X20 hx hZ hown (host := "") (Or.inl (W_ 159 rfl)) (Via.of (W_ 160 rfl)) e20 F17 (g := (mkF m 19 #[rv i, rv a] [(.ref a), (.ref i)])) rfl rfl (hb hby d22_19)
  refine own_G.st (T' := T21) 22 [(.int 0), (.ref i)] st21 ?_
  obtain ⟨T22, h22, X22, e22, W22, st22⟩ := putF X21 hx hZ hown (host := "") (Or.inl (W_ 161 rfl)) Via.refl e21 F15 F12 (Or.inl (W_ 162 rfl)) (W_ 148 rfl) (ty := .int) (by decide) rfl rfl (g := (mkF m 22 #[rv i, rv a] [(.int 0), (.ref i)])) rfl rfl (hb hby d22_22)
  have N22 := Fr.snoc X22 N11 gi
  have F23 := F12.wr W22
  have F24 := F13.other W22 (Or.inr (slot_ne (Or.inr (W_ 155 rfl)) (Or.inl (W_ 162 rfl)) (by decide) (t := (.object "java/util/ArrayList")) (t' := .int) (by decide) (by decide)))
  have F25 := F14.other W22 (Or.inr (slot_ne (Or.inl (W_ 158 rfl)) (Or.inl (W_ 162 rfl)) (by decide) (t := .int) (t' := .int) (by decide) (by decide)))
  have F26 := F15.same W22
  have F27 := F16.other W22 (Or.inr (slot_ne (Or.inl (W_ 173 rfl)) (Or.inl (W_ 162 rfl)) (by decide) (t := .int) (t' := .int) (by decide) (by decide)))
  have F28 := F17.other W22 (Or.inl (Ne.symm nia))
  have O29 := O18.wr W22 gi
  have K30 := K19.wr W22 (Or.inl (List.mem_of_getElem? (i := 0) rfl))
  refine own_G.st (T' := T22) 25 [] st22 ?_
  exact own_ret X22 e22 (v := none) (fun _ => rfl) Bd.notSynchronized ⟨rfl, N22, K30, F23, F24, F27⟩ (by decide) (by decide) (fun fs hr => X22.returnOut hx Bd.returns (hb hby d22_25) hr)
theorem pd__28Ljava_2futil_2fArrayList_3b_29V : parseMethodDescriptor "(Ljava/util/ArrayList;)V" = some ⟨[(.object "java/util/ArrayList")], none⟩ := by decide +kernel
theorem d21_0 : decode jdk_38_method_55_code 0 = .ok (.new 267, 3) := by decide +kernel
theorem d21_3 : decode jdk_38_method_55_code 3 = .ok (.dup, 1) := by decide +kernel
theorem d21_4 : decode jdk_38_method_55_code 4 = .ok (.aload_n 0, 1) := by decide +kernel
theorem d21_5 : decode jdk_38_method_55_code 5 = .ok (.invokespecial 269, 3) := by decide +kernel
theorem d21_8 : decode jdk_38_method_55_code 8 = .ok (.areturn, 1) := by decide +kernel
theorem ef_aliter (m : MethodId) (a : Addr) : entryFrame m #[(.ref a)] 1 = mkF m 0 #[rv a] [] := by
  first | (simp [entryFrame, mkF, argsToLocals, Value.category]; done) | rfl
def Q_aliter (Z : State) (a : Addr) (h0 : Heap) (n0 : Nat) (v : Option Value) (h : Heap) (L : List Loc) : Prop := ∃ (i : Addr), v = some (.ref i) ∧ Fr n0 L ∧ Keep h0 h [] ∧ h0.size ≤ i ∧ Exa Z h i "java/util/ArrayList$Itr" ∧ Fld Z h i "java/util/ArrayList$Itr" "this$0" "Ljava/util/ArrayList;" (.ref a) ∧ Fld Z h i "java/util/ArrayList$Itr" "cursor" "I" (.int 0)
set_option maxRecDepth 65536 in
set_option maxHeartbeats 40000000 in
theorem rm_aliter (l : Launch) (Z : State) (a0 : Array Value) (hw : ∀ d ∈ tables_1, d.before a0 Z = true) (ws : List Jvm.Cond) (a : Addr) (h0 : Heap) (n0 : Nat) (O0 : Old Z n0 h0) (Fm : Fld Z h0 a "java/util/AbstractList" "modCount" "I" (.int 0)) :
    MetFree l own_y17 (head1 (Jvm.Cond.code own_y17 jdk_38_method_55_code 1 (some (.object "java/util/Iterator")) :: ws) ({ frames := 2, cells := 1, slots := 4, locals := 26 } : Room)) (fun aq_ Uq_ => aq_ = #[(.ref a)] ∧ Z.Warmed39 Uq_.vm ∧ Uq_.heap = h0) (fun _ _ _ _ _ => True) (fun _ Uq_ oq_ Ur_ => ∃ vq_ Lq_, oq_ = .returned vq_ ∧ Q_aliter Z a h0 n0 vq_ Ur_.heap Lq_ ∧ FrameEnd Uq_ oq_ Ur_ Lq_ ({ frames := 2, cells := 1, slots := 4, locals := 26 } : Room).cells ({ frames := 2, cells := 1, slots := 4, locals := 26 } : Room).slots) := by
  refine MetFree.of_bodySF (plainFor_of_name pn_java_2futil_2fArrayList) hisR ?_
  intro p e s m args below meth c s₁ Bd hml0 hP hK
  obtain ⟨rfl, hZ, hh⟩ := hP
  have W_ : ∀ {d : Jvm.Cond} (i : Nat), tables_1[i]? = some d → d.before a0 Z = true := fun i h => hw _ (List.mem_of_getElem? h)
  have hx := Bd.exec
  have hby := Bd.bytes
  have hml : c.maxLocals = 1 := hml0
  have hown : s.vm.findClass "java/util/ArrayList" = some m.cls := findClass_of_methodNamed Bd.named
  have hnm := (name_of_methodNamed Bd.named Bd.method).1
  have X0 : Stand p l e ({ frames := 2, cells := 1, slots := 4, locals := 26 } : Room) s m #[(.ref a)] below meth c s₁ [] 0 0 := Stand.of_body Bd
  have e0 : s₁.heap = h0 := by rw [← hh, Bd.state]; rfl
  have N0 := Fr.nil n0
  have K0 := Keep.refl h0 []
  refine own_G.start (Q := Q_aliter Z a h0 n0) (ef_aliter m a) ?_
  obtain ⟨T1, h1, X1, e1, E1, A1, D1, -, st1⟩ := newO X0 hx hZ hown (W_ 147 rfl) (W_ 148 rfl) (W_ 149 rfl) e0 (g := (mkF m 0 #[rv a] [])) rfl (hb hby d21_0) (by decide) (by decide)
  obtain ⟨b1, g1⟩ : ∃ z, z = h0.size := ⟨_, rfl⟩
  rw [← g1] at A1 D1 st1
  have ne2 : a ≠ b1 := Nat.ne_of_lt (Nat.lt_of_lt_of_le Fm.lt (Nat.le_of_eq g1.symm))
  have g3 : n0 ≤ b1 := Nat.le_trans O0.le (Nat.le_of_eq g1.symm)
  have z4 : h0.size ≤ b1 := Nat.le_trans K0.1 (Nat.le_of_eq g1.symm)
  have F5 := Fm.ext E1
  have O6 := O0.ext E1
  have K7 := K0.ext E1
  have F8 : Fld Z h1 b1 "java/util/ArrayList$Itr" "this$0" "Ljava/util/ArrayList;" .null := D1 (Or.inr (W_ 155 rfl)) (ty := (.object "java/util/ArrayList")) (by decide)
  have F9 : Fld Z h1 b1 "java/util/ArrayList$Itr" "lastRet" "I" (.int 0) := D1 (Or.inl (W_ 158 rfl)) (ty := .int) (by decide)
  have F10 : Fld Z h1 b1 "java/util/ArrayList$Itr" "expectedModCount" "I" (.int 0) := D1 (Or.inl (W_ 162 rfl)) (ty := .int) (by decide)
  have F11 : Fld Z h1 b1 "java/util/ArrayList$Itr" "cursor" "I" (.int 0) := D1 (Or.inl (W_ 173 rfl)) (ty := .int) (by decide)
  refine own_G.st (T' := T1) 3 [(.ref b1)] st1 ?_
  refine own_G.sk 4 [(.ref b1), (.ref b1)] (fun _ kq => XS.dup X1.here hx rfl (hb hby d21_3) rfl rfl kq) ?_
  refine own_G.sk 5 [(.ref a), (.ref b1), (.ref b1)] (fun _ kq => XS.aloadN X1.here hx rfl (hb hby d21_4) rfl rfl kq) ?_
  obtain ⟨_, _, ⟨T12, L12, k12, n12⟩, -, X12, ⟨Lc12, hQ12, l12, y12, z12⟩, st12⟩ := X1.specialBack hx (y := own_y16) rfl hown (mvT hZ (W_ 150 rfl)) (mvT hZ (W_ 151 rfl)) (mvT hZ (W_ 153 rfl)) (by decide) (backOf (W := 1) (rm_itinit l Z a0 hw [] b1 a h1 n0 O6 A1 F8 F9 F10 F11 F5 g3 (Ne.symm ne2)) hZ (W_ 153 rfl) (W_ 149 rfl) (by decide) (by decide)) (g := (mkF m 5 #[rv a] [(.ref a), (.ref b1), (.ref b1)])) rfl (by rw [hml]; rfl) (Steps.refl _) (a := b1) (argsL := [(.ref a)]) (rest := [(.ref b1)]) (lenOf pd__28Ljava_2futil_2fArrayList_3b_29V rfl) rfl (by show 2 * 0 + _ ≤ _; exact Nat.le_of_eq rfl) (hb hby d21_5) (fun _ _ => ⟨rfl, e1, (by decide : 1 + 0 ≤ _), (by decide : 4 + 0 ≤ _)⟩)
  dsimp only [Pt.U, Pt.locs, Pt.cells, Pt.slots] at X12 l12 y12 z12 st12 hQ12
  subst l12 y12 z12
  obtain ⟨rfl, Nq12, P13, P14, P15, P16⟩ := hQ12
  have N12 := Fr.app N0 Nq12
  have F17 := F5.keep P13 (ninS ne2 nin0)
  have F18 := A1.keep P13
  have O19 := O6.keep P13 (allS g3 all0)
  have K20 := K7.trans P13 (allS (Or.inr z4) all0)
  refine own_G.st (T' := T12) 8 [(.ref b1)] (fun _ kq => st12.trans kq) ?_
  exact own_ret X12 rfl (v := some (.ref b1)) (fun h => by rw [Bd.returns] at h; cases h) Bd.notSynchronized ⟨b1, rfl, N12, K20, z4, P14, P15, P16⟩ (by decide) (by decide) (fun fs hr => own_retR X12 hx Bd.returns rfl rfl (hb hby d21_8) hr)
theorem d23_0 : decode jdk_49_method_2_code 0 = .ok (.aload_n 0, 1) := by decide +kernel
theorem d23_1 : decode jdk_49_method_2_code 1 = .ok (.getfield 25, 3) := by decide +kernel
theorem d23_4 : decode jdk_49_method_2_code 4 = .ok (.aload_n 0, 1) := by decide +kernel
theorem d23_5 : decode jdk_49_method_2_code 5 = .ok (.getfield 1, 3) := by decide +kernel
theorem d23_8 : decode jdk_49_method_2_code 8 = .ok (.getfield 28, 3) := by decide +kernel
theorem d23_11 : decode jdk_49_method_2_code 11 = .ok (.if_icmp .eq 7, 3) := by decide +kernel
theorem d23_18 : decode jdk_49_method_2_code 18 = .ok (.iconst 0, 1) := by decide +kernel
theorem d23_19 : decode jdk_49_method_2_code 19 = .ok (.ireturn, 1) := by decide +kernel
theorem ef_hasnext (m : MethodId) (i : Addr) : entryFrame m #[(.ref i)] 1 = mkF m 0 #[rv i] [] := by
  first | (simp [entryFrame, mkF, argsToLocals, Value.category]; done) | rfl
def Q_hasnext (Z : State) (i : Addr) (a : Addr) (h0 : Heap) (n0 : Nat) (v : Option Value) (h : Heap) (L : List Loc) : Prop := v = some (.int 0) ∧ Fr n0 L ∧ h = h0
set_option maxRecDepth 65536 in
set_option maxHeartbeats 40000000 in
theorem rm_hasnext (l : Launch) (Z : State) (a0 : Array Value) (hw : ∀ d ∈ tables_1, d.before a0 Z = true) (ws : List Jvm.Cond) (i : Addr) (a : Addr) (h0 : Heap) (n0 : Nat) (O0 : Old Z n0 h0) (It : Fld Z h0 i "java/util/ArrayList$Itr" "this$0" "Ljava/util/ArrayList;" (.ref a)) (Ic : Fld Z h0 i "java/util/ArrayList$Itr" "cursor" "I" (.int 0)) (Fs : Fld Z h0 a "java/util/ArrayList" "size" "I" (.int 0)) :
    MetFree l own_y18 (head1 (Jvm.Cond.code own_y18 jdk_49_method_2_code 1 (some .boolean) :: ws) ({ frames := 0, cells := 0, slots := 0, locals := 0 } : Room)) (fun aq_ Uq_ => aq_ = #[(.ref i)] ∧ Z.Warmed39 Uq_.vm ∧ Uq_.heap = h0) (fun _ _ _ _ _ => True) (fun _ Uq_ oq_ Ur_ => ∃ vq_ Lq_, oq_ = .returned vq_ ∧ Q_hasnext Z i a h0 n0 vq_ Ur_.heap Lq_ ∧ FrameEnd Uq_ oq_ Ur_ Lq_ ({ frames := 0, cells := 0, slots := 0, locals := 0 } : Room).cells ({ frames := 0, cells := 0, slots := 0, locals := 0 } : Room).slots) := by
  refine MetFree.of_bodySF (plainFor_of_name pn_java_2futil_2fArrayList_24Itr) hisR ?_
  intro p e s m args below meth c s₁ Bd hml0 hP hK
  obtain ⟨rfl, hZ, hh⟩ := hP
  have W_ : ∀ {d : Jvm.Cond} (i : Nat), tables_1[i]? = some d → d.before a0 Z = true := fun i h => hw _ (List.mem_of_getElem? h)
  have hx := Bd.exec
  have hby := Bd.bytes
  have hml : c.maxLocals = 1 := hml0
  have hown : s.vm.findClass "java/util/ArrayList$Itr" = some m.cls := findClass_of_methodNamed Bd.named
  have hnm := (name_of_methodNamed Bd.named Bd.method).1
  have X0 : Stand p l e ({ frames := 0, cells := 0, slots := 0, locals := 0 } : Room) s m #[(.ref i)] below meth c s₁ [] 0 0 := Stand.of_body Bd
  have e0 : s₁.heap = h0 := by rw [← hh, Bd.state]; rfl
  have N0 := Fr.nil n0
  have K0 := Keep.refl h0 []
  refine own_G.start (Q := Q_hasnext Z i a h0 n0) (ef_hasnext m i) ?_
  refine own_G.sk 1 [(.ref i)] (fun _ kq => XS.aloadN X0.here hx rfl (hb hby d23_0) rfl rfl kq) ?_
  obtain ⟨T1, X1, e1, st1⟩ := getF X0 hx hZ hown (host := "") (Or.inl (W_ 172 rfl)) Via.refl e0 Ic (g := (mkF m 1 #[rv i] [(.ref i)])) rfl rfl (hb hby d23_1)
  refine own_G.st (T' := T1) 4 [(.int 0)] st1 ?_
  refine own_G.sk 5 [(.ref i), (.int 0)] (fun _ kq => XS.aloadN X1.here hx rfl (hb hby d23_4) rfl rfl kq) ?_
  obtain ⟨T2, X2, e2, st2⟩ := getF X1 hx hZ hown (host := "") (Or.inl (W_ 154 rfl)) Via.refl e1 It (g := (mkF m 5 #[rv i] [(.ref i), (.int 0)])) rfl rfl (hb hby d23_5)
  refine own_G.st (T' := T2) 8 [(.ref a), (.int 0)] st2 ?_
  obtain ⟨T3, X3, e3, st3⟩ := getF X2 hx hZ hown (Or.inr (W_ 174 rfl)) Via.refl e2 Fs (g := (mkF m 8 #[rv i] [(.ref a), (.int 0)])) rfl rfl (hb hby d23_8)
  refine own_G.st (T' := T3) 11 [(.int 0), (.int 0)] st3 ?_
  have hc11 : (0 : Int32) = (0 : Int32) := (by decide)
  refine own_G.sk 18 [] (fun _ kq => XS.icmpYes X3.here hx rfl (pc0 := 11) (pc' := 18) rfl (hb hby d23_11) rfl (teq hc11).1 (by decide) (by decide) kq) ?_
  refine own_G.sk 19 [(.int 0)] (fun _ kq => XS.iconst X3.here hx rfl (hb hby d23_18) kq) ?_
  exact own_ret X3 e3 (v := some (.int 0)) (fun h => by rw [Bd.returns] at h; cases h) Bd.notSynchronized ⟨rfl, N0, rfl⟩ (by decide) (by decide) (fun fs hr => retN X3 hx (t := .boolean) Bd.returns (by simp) (hb hby d23_19) hr)
theorem d20_0 : decode jdk_68_method_2_code 0 = .ok (.aload_n 0, 1) := by decide +kernel
theorem d20_1 : decode jdk_68_method_2_code 1 = .ok (.invokespecial 3, 3) := by decide +kernel
theorem d20_4 : decode jdk_68_method_2_code 4 = .ok (.getstatic 18, 3) := by decide +kernel
theorem d20_7 : decode jdk_68_method_2_code 7 = .ok (.ifCond .eq 18, 3) := by decide +kernel
theorem d20_10 : decode jdk_68_method_2_code 10 = .ok (.aload_n 0, 1) := by decide +kernel
theorem d20_11 : decode jdk_68_method_2_code 11 = .ok (.iload_n 1, 1) := by decide +kernel
theorem d20_12 : decode jdk_68_method_2_code 12 = .ok (.newarray .byte, 2) := by decide +kernel
theorem d20_14 : decode jdk_68_method_2_code 14 = .ok (.putfield 15, 3) := by decide +kernel
theorem d20_17 : decode jdk_68_method_2_code 17 = .ok (.aload_n 0, 1) := by decide +kernel
theorem d20_18 : decode jdk_68_method_2_code 18 = .ok (.iconst 0, 1) := by decide +kernel
theorem d20_19 : decode jdk_68_method_2_code 19 = .ok (.putfield 22, 3) := by decide +kernel
theorem d20_22 : decode jdk_68_method_2_code 22 = .ok (.goto 16, 3) := by decide +kernel
theorem d20_38 : decode jdk_68_method_2_code 38 = .ok (.return_, 1) := by decide +kernel
theorem pn_java_2flang_2fAbstractStringBuilder : plainName "java/lang/AbstractStringBuilder" = true := by first | (simp [plainName, overriddenIn]; done) | decide +kernel
theorem ef_asbinit (m : MethodId) (a : Addr) : entryFrame m #[(.ref a), (.int 16)] 2 = mkF m 0 #[rv a, iv 16] [] := by
  first | (simp [entryFrame, mkF, argsToLocals, Value.category]; done) | rfl
def Q_asbinit (Z : State) (a : Addr) (csz : Int32) (h0 : Heap) (n0 : Nat) (v : Option Value) (h : Heap) (L : List Loc) : Prop := ∃ (t : Addr), ∃ (kb : ClassId), v = none ∧ Fr n0 L ∧ Keep h0 h [a] ∧ h0.size ≤ t ∧ Exa Z h a "java/lang/StringBuilder" ∧ Fld Z h a "java/lang/AbstractStringBuilder" "value" "[B" (.ref t) ∧ Fld Z h a "java/lang/AbstractStringBuilder" "coder" "B" (.int 0) ∧ Fld Z h a "java/lang/AbstractStringBuilder" "count" "I" (.int 0) ∧ Arv Z h t kb .byte (16 : Int32) [(.int 0), (.int 0), (.int 0), (.int 0), (.int 0), (.int 0), (.int 0), (.int 0), (.int 0), (.int 0), (.int 0), (.int 0), (.int 0), (.int 0), (.int 0), (.int 0)] (.int 0)
set_option maxRecDepth 65536 in
set_option maxHeartbeats 40000000 in
theorem rm_asbinit (l : Launch) (Z : State) (a0 : Array Value) (hw : ∀ d ∈ tables_1, d.before a0 Z = true) (ws : List Jvm.Cond) (a : Addr) (csz : Int32) (h0 : Heap) (n0 : Nat) (O0 : Old Z n0 h0) (S_CS : Sta Z Z.heap "java/lang/String" "COMPACT_STRINGS" "Z" (.int csz)) (hcs : ¬ csz = (0 : Int32)) (Ea : Exa Z h0 a "java/lang/StringBuilder") (Fv : Fld Z h0 a "java/lang/AbstractStringBuilder" "value" "[B" .null) (Fc : Fld Z h0 a "java/lang/AbstractStringBuilder" "coder" "B" (.int 0)) (Fn : Fld Z h0 a "java/lang/AbstractStringBuilder" "count" "I" (.int 0)) (ga : n0 ≤ a) :
    MetFree l own_y19 (head1 (Jvm.Cond.code own_y19 jdk_68_method_2_code 2 none :: ws) ({ frames := 1, cells := 1, slots := 16, locals := 12 } : Room)) (fun aq_ Uq_ => aq_ = #[(.ref a), (.int 16)] ∧ Z.Warmed39 Uq_.vm ∧ Uq_.heap = h0) (fun _ _ _ _ _ => True) (fun _ Uq_ oq_ Ur_ => ∃ vq_ Lq_, oq_ = .returned vq_ ∧ Q_asbinit Z a csz h0 n0 vq_ Ur_.heap Lq_ ∧ FrameEnd Uq_ oq_ Ur_ Lq_ ({ frames := 1, cells := 1, slots := 16, locals := 12 } : Room).cells ({ frames := 1, cells := 1, slots := 16, locals := 12 } : Room).slots) := by
  refine MetFree.of_bodySF (plainFor_of_name pn_java_2flang_2fAbstractStringBuilder) hisR ?_
  intro p e s m args below meth c s₁ Bd hml0 hP hK
  obtain ⟨rfl, hZ, hh⟩ := hP
  have W_ : ∀ {d : Jvm.Cond} (i : Nat), tables_1[i]? = some d → d.before a0 Z = true := fun i h => hw _ (List.mem_of_getElem? h)
  have hx := Bd.exec
  have hby := Bd.bytes
  have hml : c.maxLocals = 2 := hml0
  have hown : s.vm.findClass "java/lang/AbstractStringBuilder" = some m.cls := findClass_of_methodNamed Bd.named
  have hnm := (name_of_methodNamed Bd.named Bd.method).1
  have X0 : Stand p l e ({ frames := 1, cells := 1, slots := 16, locals := 12 } : Room) s m #[(.ref a), (.int 16)] below meth c s₁ [] 0 0 := Stand.of_body Bd
  have e0 : s₁.heap = h0 := by rw [← hh, Bd.state]; rfl
  have N0 := Fr.nil n0
  have K0 := Keep.refl h0 [a]
  refine own_G.start (Q := Q_asbinit Z a csz h0 n0) (ef_asbinit m a) ?_
  refine own_G.sk 1 [(.ref a)] (fun _ kq => XS.aloadN X0.here hx rfl (hb hby d20_0) rfl rfl kq) ?_
  obtain ⟨T1, X1, e1, st1⟩ := initO X0 hx hZ hown (W_ 133 rfl) (W_ 16 rfl) (W_ 17 rfl) e0 (g := (mkF m 1 #[rv a, iv 16] [(.ref a)])) rfl (by rw [hml]; rfl) rfl (hb hby d20_1) (by decide) (W := 0) (by show 2 * 0 + _ ≤ _; exact Nat.le_of_eq rfl) (by decide)
  refine own_G.st (T' := T1) 4 [] st1 ?_
  obtain ⟨T2, X2, e2, st2⟩ := getS2 X1 hx hZ hown (host := "") (Or.inl (W_ 134 rfl)) Via.refl e1 (Sta.ext O0.2 S_CS) (g := (mkF m 4 #[rv a, iv 16] [])) rfl (hb hby d20_4)
  refine own_G.st (T' := T2) 7 [(.int csz)] st2 ?_
  have hc7 : ¬ (csz = (0 : Int32)) := hcs
  refine own_G.sk 10 [] (fun _ kq => XS.ifNo X2.here hx rfl (hb hby d20_7) rfl ((if0 _ _).trans (feq hc7).1) kq) ?_
  refine own_G.sk 11 [(.ref a)] (fun _ kq => XS.aloadN X2.here hx rfl (hb hby d20_10) rfl rfl kq) ?_
  refine own_G.sk 12 [(.int 16), (.ref a)] (fun _ kq => XS.iloadN X2.here hx rfl (hb hby d20_11) rfl kq) ?_
  obtain ⟨T3, h3, k3, X3, e3, E3, A3, st3⟩ := newP X2 hx hZ (W_ 19 rfl) e2 (g := (mkF m 12 #[rv a, iv 16] [(.int 16), (.ref a)])) rfl (hb hby d20_12) rfl (by decide) (cap := 16) (by decide) (by decide) (by decide) (by decide)
  obtain ⟨b3, g3⟩ : ∃ z, z = h0.size := ⟨_, rfl⟩
  rw [← g3] at A3 st3
  have ne4 : a ≠ b3 := Nat.ne_of_lt (Nat.lt_of_lt_of_le Ea.lt (Nat.le_of_eq g3.symm))
  have g5 : n0 ≤ b3 := Nat.le_trans O0.le (Nat.le_of_eq g3.symm)
  have z6 : h0.size ≤ b3 := Nat.le_trans K0.1 (Nat.le_of_eq g3.symm)
  have F7 := Ea.ext E3
  have F8 := Fv.ext E3
  have F9 := Fc.ext E3
  have F10 := Fn.ext E3
  have O11 := O0.ext E3
  have K12 := K0.ext E3
  have F13 : Arv Z h3 b3 k3 .byte (16 : Int32) [(.int 0), (.int 0), (.int 0), (.int 0), (.int 0), (.int 0), (.int 0), (.int 0), (.int 0), (.int 0), (.int 0), (.int 0), (.int 0), (.int 0), (.int 0), (.int 0)] (.int 0) := (Arv.new A3 (by decide)).pad (pad_rep [] (.int 0) 16)
  refine own_G.st (T' := T3) 14 [(.ref b3), (.ref a)] st3 ?_
  obtain ⟨T14, h14, X14, e14, W14, st14⟩ := putF X3 hx hZ hown (host := "") (Or.inl (W_ 135 rfl)) Via.refl e3 F8 F7 (Or.inl (W_ 136 rfl)) (W_ 122 rfl) (ty := (.array .byte)) (by decide) rfl rfl (g := (mkF m 14 #[rv a, iv 16] [(.ref b3), (.ref a)])) rfl rfl (hb hby d20_14)
  have N14 := Fr.snoc X14 N0 ga
  have F15 := F7.wr W14
  have F16 := F8.same W14
  have F17 := F9.other W14 (Or.inr (slot_ne (Or.inl (W_ 138 rfl)) (Or.inl (W_ 136 rfl)) (by decide) (t := .byte) (t' := (.array .byte)) (by decide) (by decide)))
  have F18 := F10.other W14 (Or.inr (slot_ne (Or.inl (W_ 202 rfl)) (Or.inl (W_ 136 rfl)) (by decide) (t := .int) (t' := (.array .byte)) (by decide) (by decide)))
  have F19 := F13.other W14 (Ne.symm ne4)
  have O20 := O11.wr W14 ga
  have K21 := K12.wr W14 (Or.inl (List.mem_of_getElem? (i := 0) rfl))
  refine own_G.st (T' := T14) 17 [] st14 ?_
  refine own_G.sk 18 [(.ref a)] (fun _ kq => XS.aloadN X14.here hx rfl (hb hby d20_17) rfl rfl kq) ?_
  refine own_G.sk 19 [(.int 0), (.ref a)] (fun _ kq => XS.iconst X14.here hx rfl (hb hby d20_18) kq) ?_
  obtain ⟨T22, h22, X22, e22, W22, st22⟩ := putFN X14 hx hZ hown (W_ 137 rfl) Via.refl e14 F17 F15 (Or.inl (W_ 138 rfl)) (W_ 122 rfl) (ty := .byte) (v' := (.int (nar .byte (0 : Int32)))) (by decide) rfl (fits_nar_byte _) (g := (mkF m 19 #[rv a, iv 16] [(.int 0), (.ref a)])) rfl rfl (hb hby d20_19)
  have N22 := Fr.snoc X22 N14 ga
  have F23 := F15.wr W22
  have F24 := F16.other W22 (Or.inr (slot_ne (Or.inl (W_ 136 rfl)) (Or.inl (W_ 138 rfl)) (by decide) (t := (.array .byte)) (t' := .byte) (by decide) (by decide)))
  have F25 := F17.same W22
  have F26 := F18.other W22 (Or.inr (slot_ne (Or.inl (W_ 202 rfl)) (Or.inl (W_ 138 rfl)) (by decide) (t := .int) (t' := .byte) (by decide) (by decide)))
  have F27 := F19.other W22 (Ne.symm ne4)
  have O28 := O20.wr W22 ga
  have K29 := K21.wr W22 (Or.inl (List.mem_of_getElem? (i := 0) rfl))
  refine own_G.st (T' := T22) 22 [] st22 ?_
  refine own_G.sk 38 [] (fun _ kq => XS.goto X22.here hx rfl (pc0 := 22) (pc' := 38) rfl (hb hby d20_22) (by decide) (by decide) kq) ?_
  exact own_ret X22 e22 (v := none) (fun _ => rfl) Bd.notSynchronized ⟨b3, k3, rfl, N22, K29, z6, F23, F24, F25, F26, F27⟩ (by decide) (by decide) (fun fs hr => X22.returnOut hx Bd.returns (hb hby d20_38) hr)
theorem pd__28I_29V : parseMethodDescriptor "(I)V" = some ⟨[.int], none⟩ := by decide +kernel
theorem d19_0 : decode jdk_67_method_1_code 0 = .ok (.aload_n 0, 1) := by decide +kernel
theorem d19_1 : decode jdk_67_method_1_code 1 = .ok (.bipush 16, 2) := by decide +kernel
theorem d19_3 : decode jdk_67_method_1_code 3 = .ok (.invokespecial 1, 3) := by decide +kernel
theorem d19_6 : decode jdk_67_method_1_code 6 = .ok (.return_, 1) := by decide +kernel
theorem pn_java_2flang_2fStringBuilder : plainName "java/lang/StringBuilder" = true := by first | (simp [plainName, overriddenIn]; done) | decide +kernel
theorem ef_sbinit (m : MethodId) (a : Addr) : entryFrame m #[(.ref a)] 1 = mkF m 0 #[rv a] [] := by
  first | (simp [entryFrame, mkF, argsToLocals, Value.category]; done) | rfl
def Q_sbinit (Z : State) (a : Addr) (csz : Int32) (h0 : Heap) (n0 : Nat) (v : Option Value) (h : Heap) (L : List Loc) : Prop := ∃ (t : Addr), ∃ (kb : ClassId), v = none ∧ Fr n0 L ∧ Keep h0 h [a] ∧ h0.size ≤ t ∧ Exa Z h a "java/lang/StringBuilder" ∧ Fld Z h a "java/lang/AbstractStringBuilder" "value" "[B" (.ref t) ∧ Fld Z h a "java/lang/AbstractStringBuilder" "coder" "B" (.int 0) ∧ Fld Z h a "java/lang/AbstractStringBuilder" "count" "I" (.int 0) ∧ Arv Z h t kb .byte (16 : Int32) [(.int 0), (.int 0), (.int 0), (.int 0), (.int 0), (.int 0), (.int 0), (.int 0), (.int 0), (.int 0), (.int 0), (.int 0), (.int 0), (.int 0), (.int 0), (.int 0)] (.int 0)
set_option maxRecDepth 65536 in
set_option maxHeartbeats 40000000 in
theorem rm_sbinit (l : Launch) (Z : State) (a0 : Array Value) (hw : ∀ d ∈ tables_1, d.before a0 Z = true) (ws : List Jvm.Cond) (a : Addr) (csz : Int32) (h0 : Heap) (n0 : Nat) (O0 : Old Z n0 h0) (S_CS : Sta Z Z.heap "java/lang/String" "COMPACT_STRINGS" "Z" (.int csz)) (hcs : ¬ csz = (0 : Int32)) (Ea : Exa Z h0 a "java/lang/StringBuilder") (Fv : Fld Z h0 a "java/lang/AbstractStringBuilder" "value" "[B" .null) (Fc : Fld Z h0 a "java/lang/AbstractStringBuilder" "coder" "B" (.int 0)) (Fn : Fld Z h0 a "java/lang/AbstractStringBuilder" "count" "I" (.int 0)) (ga : n0 ≤ a) :
    MetFree l own_y20 (head1 (Jvm.Cond.code own_y20 jdk_67_method_1_code 1 none :: ws) ({ frames := 2, cells := 1, slots := 16, locals := 25 } : Room)) (fun aq_ Uq_ => aq_ = #[(.ref a)] ∧ Z.Warmed39 Uq_.vm ∧ Uq_.heap = h0) (fun _ _ _ _ _ => True) (fun _ Uq_ oq_ Ur_ => ∃ vq_ Lq_, oq_ = .returned vq_ ∧ Q_sbinit Z a csz h0 n0 vq_ Ur_.heap Lq_ ∧ FrameEnd Uq_ oq_ Ur_ Lq_ ({ frames := 2, cells := 1, slots := 16, locals := 25 } : Room).cells ({ frames := 2, cells := 1, slots := 16, locals := 25 } : Room).slots) := by
  refine MetFree.of_bodySF (plainFor_of_name pn_java_2flang_2fStringBuilder) hisR ?_
  intro p e s m args below meth c s₁ Bd hml0 hP hK
  obtain ⟨rfl, hZ, hh⟩ := hP
  have W_ : ∀ {d : Jvm.Cond} (i : Nat), tables_1[i]? = some d → d.before a0 Z = true := fun i h => hw _ (List.mem_of_getElem? h)
  have hx := Bd.exec
  have hby := Bd.bytes
  have hml : c.maxLocals = 1 := hml0
  have hown : s.vm.findClass "java/lang/StringBuilder" = some m.cls := findClass_of_methodNamed Bd.named
  have hnm := (name_of_methodNamed Bd.named Bd.method).1
  have X0 : Stand p l e ({ frames := 2, cells := 1, slots := 16, locals := 25 } : Room) s m #[(.ref a)] below meth c s₁ [] 0 0 := Stand.of_body Bd
  have e0 : s₁.heap = h0 := by rw [← hh, Bd.state]; rfl
  have N0 := Fr.nil n0
  have K0 := Keep.refl h0 [a]
  refine own_G.start (Q := Q_sbinit Z a csz h0 n0) (ef_sbinit m a) ?_
  refine own_G.sk 1 [(.ref a)] (fun _ kq => XS.aloadN X0.here hx rfl (hb hby d19_0) rfl rfl kq) ?_
  refine own_G.sk 3 [(.int 16), (.ref a)] (fun _ kq => XS.bipush X0.here hx rfl (hb hby d19_1) kq) ?_
  obtain ⟨_, _, ⟨T1, L1, k1, n1⟩, -, X1, ⟨Lc1, hQ1, l1, y1, z1⟩, st1⟩ := X0.specialBack hx (y := own_y19) rfl hown (mvT hZ (W_ 127 rfl)) (mvT hZ (W_ 128 rfl)) (mvT hZ (W_ 132 rfl)) (by decide) (backOf (W := 0) (rm_asbinit l Z a0 hw [] a csz h0 n0 O0 S_CS hcs Ea Fv Fc Fn ga) hZ (W_ 132 rfl) (W_ 131 rfl) (by decide) (by decide)) (g := (mkF m 3 #[rv a] [(.int 16), (.ref a)])) rfl (by rw [hml]; rfl) (Steps.refl _) (a := a) (argsL := [(.int 16)]) (rest := []) (lenOf pd__28I_29V rfl) rfl (by show 2 * 0 + _ ≤ _; exact Nat.le_of_eq rfl) (hb hby d19_3) (fun _ _ => ⟨rfl, e0, (by decide : 0 + 1 ≤ _), (by decide : 0 + 16 ≤ _)⟩)
  dsimp only [Pt.U, Pt.locs, Pt.cells, Pt.slots] at X1 l1 y1 z1 st1 hQ1
  subst l1 y1 z1
  obtain ⟨b2, x3, rfl, Nq1, P4, P5, P6, P7, P8, P9, P10⟩ := hQ1
  have N1 := Fr.app N0 Nq1
  have ne11 : a ≠ b2 := Nat.ne_of_lt (Nat.lt_of_lt_of_le Ea.lt P5)
  have g12 : n0 ≤ b2 := Nat.le_trans O0.le P5
  have z13 : h0.size ≤ b2 := Nat.le_trans K0.1 P5
  have F14 := Ea.keep P4
  have O15 := O0.keep P4 (allS ga all0)
  have K16 := K0.trans P4 (allS (Or.inl (List.mem_of_getElem? (i := 0) rfl)) all0)
  refine own_G.st (T' := T1) 6 [] (fun _ kq => st1.trans kq) ?_
  exact own_ret X1 rfl (v := none) (fun _ => rfl) Bd.notSynchronized ⟨b2, x3, rfl, N1, K16, z13, P6, P7, P8, P9, P10⟩ (by decide) (by decide) (fun fs hr => X1.returnOut hx Bd.returns (hb hby d19_6) hr)
theorem d27_0 : decode jdk_68_method_64_code 0 = .ok (.aload_n 0, 1) := by decide +kernel
theorem d27_1 : decode jdk_68_method_64_code 1 = .ok (.getfield 15, 3) := by decide +kernel
theorem d27_4 : decode jdk_68_method_64_code 4 = .ok (.areturn, 1) := by decide +kernel
theorem ef_getval (m : MethodId) (a : Addr) : entryFrame m #[(.ref a)] 1 = mkF m 0 #[rv a] [] := by
  first | (simp [entryFrame, mkF, argsToLocals, Value.category]; done) | rfl
def Q_getval (Z : State) (a : Addr) (t : Addr) (h0 : Heap) (n0 : Nat) (v : Option Value) (h : Heap) (L : List Loc) : Prop := v = some (.ref t) ∧ Fr n0 L ∧ h = h0
set_option maxRecDepth 65536 in
set_option maxHeartbeats 40000000 in
theorem rm_getval (l : Launch) (Z : State) (a0 : Array Value) (hw : ∀ d ∈ tables_1, d.before a0 Z = true) (ws : List Jvm.Cond) (a : Addr) (t : Addr) (h0 : Heap) (n0 : Nat) (O0 : Old Z n0 h0) (Gv : Fld Z h0 a "java/lang/AbstractStringBuilder" "value" "[B" (.ref t)) :
    MetFree l own_y21 (head1 (Jvm.Cond.code own_y21 jdk_68_method_64_code 1 (some (.array .byte)) :: ws) ({ frames := 0, cells := 0, slots := 0, locals := 0 } : Room)) (fun aq_ Uq_ => aq_ = #[(.ref a)] ∧ Z.Warmed39 Uq_.vm ∧ Uq_.heap = h0) (fun _ _ _ _ _ => True) (fun _ Uq_ oq_ Ur_ => ∃ vq_ Lq_, oq_ = .returned vq_ ∧ Q_getval Z a t h0 n0 vq_ Ur_.heap Lq_ ∧ FrameEnd Uq_ oq_ Ur_ Lq_ ({ frames := 0, cells := 0, slots := 0, locals := 0 } : Room).cells ({ frames := 0, cells := 0, slots := 0, locals := 0 } : Room).slots) := by
  refine MetFree.of_bodySF (plainFor_of_name pn_java_2flang_2fAbstractStringBuilder) hisR ?_
  intro p e s m args below meth c s₁ Bd hml0 hP hK
  obtain ⟨rfl, hZ, hh⟩ := hP
  have W_ : ∀ {d : Jvm.Cond} (i : Nat), tables_1[i]? = some d → d.before a0 Z = true := fun i h => hw _ (List.mem_of_getElem? h)
  have hx := Bd.exec
  have hby := Bd.bytes
  have hml : c.maxLocals = 1 := hml0
  have hown : s.vm.findClass "java/lang/AbstractStringBuilder" = some m.cls := findClass_of_methodNamed Bd.named
  have hnm := (name_of_methodNamed Bd.named Bd.method).1
  have X0 : Stand p l e ({ frames := 0, cells := 0, slots := 0, locals := 0 } : Room) s m #[(.ref a)] below meth c s₁ [] 0 0 := Stand.of_body Bd
  have e0 : s₁.heap = h0 := by rw [← hh, Bd.state]; rfl
  have N0 := Fr.nil n0
  have K0 := Keep.refl h0 []
  refine own_G.start (Q := Q_getval Z a t h0 n0) (ef_getval m a) ?_
  refine own_G.sk 1 [(.ref a)] (fun _ kq => XS.aloadN X0.here hx rfl (hb hby d27_0) rfl rfl kq) ?_
  obtain ⟨T1, X1, e1, st1⟩ := getF X0 hx hZ hown (host := "") (Or.inl (W_ 135 rfl)) Via.refl e0 Gv (g := (mkF m 1 #[rv a] [(.ref a)])) rfl rfl (hb hby d27_1)
  refine own_G.st (T' := T1) 4 [(.ref t)] st1 ?_
  exact own_ret X1 e1 (v := some (.ref t)) (fun h => by rw [Bd.returns] at h; cases h) Bd.notSynchronized ⟨rfl, N0, rfl⟩ (by decide) (by decide) (fun fs hr => own_retR X1 hx Bd.returns rfl rfl (hb hby d27_4) hr)
theorem d29_0 : decode jdk_68_method_6_code 0 = .ok (.aload_n 0, 1) := by decide +kernel
theorem d29_1 : decode jdk_68_method_6_code 1 = .ok (.getfield 79, 3) := by decide +kernel
theorem d29_4 : decode jdk_68_method_6_code 4 = .ok (.ireturn, 1) := by decide +kernel
theorem ef_asblen (m : MethodId) (a : Addr) : entryFrame m #[(.ref a)] 1 = mkF m 0 #[rv a] [] := by
  first | (simp [entryFrame, mkF, argsToLocals, Value.category]; done) | rfl
def Q_asblen (Z : State) (a : Addr) (n : Int32) (h0 : Heap) (n0 : Nat) (v : Option Value) (h : Heap) (L : List Loc) : Prop := v = some (.int n) ∧ Fr n0 L ∧ h = h0
set_option maxRecDepth 65536 in
set_option maxHeartbeats 40000000 in
theorem rm_asblen (l : Launch) (Z : State) (a0 : Array Value) (hw : ∀ d ∈ tables_1, d.before a0 Z = true) (ws : List Jvm.Cond) (a : Addr) (n : Int32) (h0 : Heap) (n0 : Nat) (O0 : Old Z n0 h0) (Gn : Fld Z h0 a "java/lang/AbstractStringBuilder" "count" "I" (.int n)) :
    MetFree l own_y22 (head1 (Jvm.Cond.code own_y22 jdk_68_method_6_code 1 (some .int) :: ws) ({ frames := 0, cells := 0, slots := 0, locals := 0 } : Room)) (fun aq_ Uq_ => aq_ = #[(.ref a)] ∧ Z.Warmed39 Uq_.vm ∧ Uq_.heap = h0) (fun _ _ _ _ _ => True) (fun _ Uq_ oq_ Ur_ => ∃ vq_ Lq_, oq_ = .returned vq_ ∧ Q_asblen Z a n h0 n0 vq_ Ur_.heap Lq_ ∧ FrameEnd Uq_ oq_ Ur_ Lq_ ({ frames := 0, cells := 0, slots := 0, locals := 0 } : Room).cells ({ frames := 0, cells := 0, slots := 0, locals := 0 } : Room).slots) := by
  refine MetFree.of_bodySF (plainFor_of_name pn_java_2flang_2fAbstractStringBuilder) hisR ?_
  intro p e s m args below meth c s₁ Bd hml0 hP hK
  obtain ⟨rfl, hZ, hh⟩ := hP
  have W_ : ∀ {d : Jvm.Cond} (i : Nat), tables_1[i]? = some d → d.before a0 Z = true := fun i h => hw _ (List.mem_of_getElem? h)
  have hx := Bd.exec
  have hby := Bd.bytes
  have hml : c.maxLocals = 1 := hml0
  have hown : s.vm.findClass "java/lang/AbstractStringBuilder" = some m.cls := findClass_of_methodNamed Bd.named
  have hnm := (name_of_methodNamed Bd.named Bd.method).1
  have X0 : Stand p l e ({ frames := 0, cells := 0, slots := 0, locals := 0 } : Room) s m #[(.ref a)] below meth c s₁ [] 0 0 := Stand.of_body Bd
  have e0 : s₁.heap = h0 := by rw [← hh, Bd.state]; rfl
  have N0 := Fr.nil n0
  have K0 := Keep.refl h0 []
  refine own_G.start (Q := Q_asblen Z a n h0 n0) (ef_asblen m a) ?_
  refine own_G.sk 1 [(.ref a)] (fun _ kq => XS.aloadN X0.here hx rfl (hb hby d29_0) rfl rfl kq) ?_
  obtain ⟨T1, X1, e1, st1⟩ := getF X0 hx hZ hown (host := "") (Or.inl (W_ 201 rfl)) Via.refl e0 Gn (g := (mkF m 1 #[rv a] [(.ref a)])) rfl rfl (hb hby d29_1)
  refine own_G.st (T' := T1) 4 [(.int n)] st1 ?_
  exact own_ret X1 e1 (v := some (.int n)) (fun h => by rw [Bd.returns] at h; cases h) Bd.notSynchronized ⟨rfl, N0, rfl⟩ (by decide) (by decide) (fun fs hr => retI X1 hx Bd.returns (hb hby d29_4) hr)
theorem d28_0 : decode jdk_67_method_93_code 0 = .ok (.aload_n 0, 1) := by decide +kernel
theorem d28_1 : decode jdk_67_method_93_code 1 = .ok (.invokespecial 343, 3) := by decide +kernel
theorem d28_4 : decode jdk_67_method_93_code 4 = .ok (.ireturn, 1) := by decide +kernel
theorem ef_sblen (m : MethodId) (a : Addr) : entryFrame m #[(.ref a)] 1 = mkF m 0 #[rv a] [] := by
  first | (simp [entryFrame, mkF, argsToLocals, Value.category]; done) | rfl
def Q_sblen (Z : State) (a : Addr) (n : Int32) (h0 : Heap) (n0 : Nat) (v : Option Value) (h : Heap) (L : List Loc) : Prop := v = some (.int n) ∧ Fr n0 L ∧ h = h0
set_option maxRecDepth 65536 in
set_option maxHeartbeats 40000000 in
theorem rm_sblen (l : Launch) (Z : State) (a0 : Array Value) (hw : ∀ d ∈ tables_1, d.before a0 Z = true) (ws : List Jvm.Cond) (a : Addr) (n : Int32) (h0 : Heap) (n0 : Nat) (O0 : Old Z n0 h0) (Ea : Exa Z h0 a "java/lang/StringBuilder") (Gn : Fld Z h0 a "java/lang/AbstractStringBuilder" "count" "I" (.int n)) :
    MetFree l own_y23 (head1 (Jvm.Cond.code own_y23 jdk_67_method_93_code 1 (some .int) :: ws) ({ frames := 1, cells := 0, slots := 0, locals := 12 } : Room)) (fun aq_ Uq_ => aq_ = #[(.ref a)] ∧ Z.Warmed39 Uq_.vm ∧ Uq_.heap = h0) (fun _ _ _ _ _ => True) (fun _ Uq_ oq_ Ur_ => ∃ vq_ Lq_, oq_ = .returned vq_ ∧ Q_sblen Z a n h0 n0 vq_ Ur_.heap Lq_ ∧ FrameEnd Uq_ oq_ Ur_ Lq_ ({ frames := 1, cells := 0, slots := 0, locals := 12 } : Room).cells ({ frames := 1, cells := 0, slots := 0, locals := 12 } : Room).slots) := by
  refine MetFree.of_bodySF (plainFor_of_name pn_java_2flang_2fStringBuilder) hisR ?_
  intro p e s m args below meth c s₁ Bd hml0 hP hK
  obtain ⟨rfl, hZ, hh⟩ := hP
  have W_ : ∀ {d : Jvm.Cond} (i : Nat), tables_1[i]? = some d → d.before a0 Z = true := fun i h => hw _ (List.mem_of_getElem? h)
  have hx := Bd.exec
  have hby := Bd.bytes
  have hml : c.maxLocals = 1 := hml0
  have hown : s.vm.findClass "java/lang/StringBuilder" = some m.cls := findClass_of_methodNamed Bd.named
  have hnm := (name_of_methodNamed Bd.named Bd.method).1
  have X0 : Stand p l e ({ frames := 1, cells := 0, slots := 0, locals := 12 } : Room) s m #[(.ref a)] below meth c s₁ [] 0 0 := Stand.of_body Bd
  have e0 : s₁.heap = h0 := by rw [← hh, Bd.state]; rfl
  have N0 := Fr.nil n0
  have K0 := Keep.refl h0 []
  refine own_G.start (Q := Q_sblen Z a n h0 n0) (ef_sblen m a) ?_
  refine own_G.sk 1 [(.ref a)] (fun _ kq => XS.aloadN X0.here hx rfl (hb hby d28_0) rfl rfl kq) ?_
  obtain ⟨_, _, ⟨T1, L1, k1, n1⟩, -, X1, ⟨Lc1, hQ1, l1, y1, z1⟩, st1⟩ := superBack X0 hx hZ (y := own_y22) hown (W_ 198 rfl) (own_same (W_ 193 rfl) (W_ 190 rfl) rfl (by decide)) (W_ 194 rfl) (W_ 199 rfl) (by decide) (backOf (W := 0) (rm_asblen l Z a0 hw [] a n h0 n0 O0 Gn) hZ (W_ 200 rfl) (W_ 131 rfl) (by decide) (by decide)) e0 (Ins.self Ea) (g := (mkF m 1 #[rv a] [(.ref a)])) rfl (by rw [hml]; rfl) (W_ 200 rfl) (argsL := []) (rest := []) (lenOf pd__28_29I rfl) rfl (by show 2 * 0 + _ ≤ _; exact Nat.le_of_eq rfl) (hb hby d28_1) (fun _ _ => ⟨rfl, e0, (by decide : 0 + 0 ≤ _), (by decide : 0 + 0 ≤ _)⟩)
  dsimp only [Pt.U, Pt.locs, Pt.cells, Pt.slots] at X1 l1 y1 z1 st1 hQ1
  subst l1 y1 z1
  obtain ⟨rfl, Nq1, P2⟩ := hQ1
  have N1 := Fr.app N0 Nq1
  refine own_G.st (T' := T1) 4 [(.int n)] (fun _ kq => st1.trans kq) ?_
  exact own_ret X1 P2 (v := some (.int n)) (fun h => by rw [Bd.returns] at h; cases h) Bd.notSynchronized ⟨rfl, N1, rfl⟩ (by decide) (by decide) (fun fs hr => retI X1 hx Bd.returns (hb hby d28_4) hr)
theorem d30_0 : decode jdk_68_method_68_code 0 = .ok (.getstatic 18, 3) := by decide +kernel
theorem d30_3 : decode jdk_68_method_68_code 3 = .ok (.ifCond .eq 14, 3) := by decide +kernel
theorem d30_6 : decode jdk_68_method_68_code 6 = .ok (.aload_n 0, 1) := by decide +kernel
theorem d30_7 : decode jdk_68_method_68_code 7 = .ok (.getfield 22, 3) := by decide +kernel
theorem d30_10 : decode jdk_68_method_68_code 10 = .ok (.ifCond .ne 7, 3) := by decide +kernel
theorem d30_13 : decode jdk_68_method_68_code 13 = .ok (.iconst 1, 1) := by decide +kernel
theorem d30_14 : decode jdk_68_method_68_code 14 = .ok (.goto 4, 3) := by decide +kernel
theorem d30_18 : decode jdk_68_method_68_code 18 = .ok (.ireturn, 1) := by decide +kernel
theorem ef_asblat (m : MethodId) (a : Addr) : entryFrame m #[(.ref a)] 1 = mkF m 0 #[rv a] [] := by
  first | (simp [entryFrame, mkF, argsToLocals, Value.category]; done) | rfl
def Q_asblat (Z : State) (a : Addr) (csz : Int32) (h0 : Heap) (n0 : Nat) (v : Option Value) (h : Heap) (L : List Loc) : Prop := v = some (.int 1) ∧ Fr n0 L ∧ h = h0
set_option maxRecDepth 65536 in
set_option maxHeartbeats 40000000 in
theorem rm_asblat (l : Launch) (Z : State) (a0 : Array Value) (hw : ∀ d ∈ tables_1, d.before a0 Z = true) (ws : List Jvm.Cond) (a : Addr) (csz : Int32) (h0 : Heap) (n0 : Nat) (O0 : Old Z n0 h0) (S_CS : Sta Z Z.heap "java/lang/String" "COMPACT_STRINGS" "Z" (.int csz)) (hcs : ¬ csz = (0 : Int32)) (Gc : Fld Z h0 a "java/lang/AbstractStringBuilder" "coder" "B" (.int 0)) :
    MetFree l own_y24 (head1 (Jvm.Cond.code own_y24 jdk_68_method_68_code 1 (some .boolean) :: ws) ({ frames := 0, cells := 0, slots := 0, locals := 0 } : Room)) (fun aq_ Uq_ => aq_ = #[(.ref a)] ∧ Z.Warmed39 Uq_.vm ∧ Uq_.heap = h0) (fun _ _ _ _ _ => True) (fun _ Uq_ oq_ Ur_ => ∃ vq_ Lq_, oq_ = .returned vq_ ∧ Q_asblat Z a csz h0 n0 vq_ Ur_.heap Lq_ ∧ FrameEnd Uq_ oq_ Ur_ Lq_ ({ frames := 0, cells := 0, slots := 0, locals := 0 } : Room).cells ({ frames := 0, cells := 0, slots := 0, locals := 0 } : Room).slots) := by
  refine MetFree.of_bodySF (plainFor_of_name pn_java_2flang_2fAbstractStringBuilder) hisR ?_
  intro p e s m args below meth c s₁ Bd hml0 hP hK
  obtain ⟨rfl, hZ, hh⟩ := hP
  have W_ : ∀ {d : Jvm.Cond} (i : Nat), tables_1[i]? = some d → d.before a0 Z = true := fun i h => hw _ (List.mem_of_getElem? h)
  have hx := Bd.exec
  have hby := Bd.bytes
  have hml : c.maxLocals = 1 := hml0
  have hown : s.vm.findClass "java/lang/AbstractStringBuilder" = some m.cls := findClass_of_methodNamed Bd.named
  have hnm := (name_of_methodNamed Bd.named Bd.method).1
  have X0 : Stand p l e ({ frames := 0, cells := 0, slots := 0, locals := 0 } : Room) s m #[(.ref a)] below meth c s₁ [] 0 0 := Stand.of_body Bd
  have e0 : s₁.heap = h0 := by rw [← hh, Bd.state]; rfl
  have N0 := Fr.nil n0
  have K0 := Keep.refl h0 []
  refine own_G.start (Q := Q_asblat Z a csz h0 n0) (ef_asblat m a) ?_
  obtain ⟨T1, X1, e1, st1⟩ := getS2 X0 hx hZ hown (host := "") (Or.inl (W_ 134 rfl)) Via.refl e0 (Sta.ext O0.2 S_CS) (g := (mkF m 0 #[rv a] [])) rfl (hb hby d30_0)
  refine own_G.st (T' := T1) 3 [(.int csz)] st1 ?_
  have hc3 : ¬ (csz = (0 : Int32)) := hcs
  refine own_G.sk 6 [] (fun _ kq => XS.ifNo X1.here hx rfl (hb hby d30_3) rfl ((if0 _ _).trans (feq hc3).1) kq) ?_
  refine own_G.sk 7 [(.ref a)] (fun _ kq => XS.aloadN X1.here hx rfl (hb hby d30_6) rfl rfl kq) ?_
  obtain ⟨T2, X2, e2, st2⟩ := getF X1 hx hZ hown (host := "") (Or.inl (W_ 137 rfl)) Via.refl e1 Gc (g := (mkF m 7 #[rv a] [(.ref a)])) rfl rfl (hb hby d30_7)
  refine own_G.st (T' := T2) 10 [(.int 0)] st2 ?_
  have hc10 : (0 : Int32) = (0 : Int32) := rfl
  refine own_G.sk 13 [] (fun _ kq => XS.ifNo X2.here hx rfl (hb hby d30_10) rfl ((if0 _ _).trans (teq hc10).2) kq) ?_
  refine own_G.sk 14 [(.int 1)] (fun _ kq => XS.iconst X2.here hx rfl (hb hby d30_13) kq) ?_
  refine own_G.sk 18 [(.int 1)] (fun _ kq => XS.goto X2.here hx rfl (pc0 := 14) (pc' := 18) rfl (hb hby d30_14) (by decide) (by decide) kq) ?_
  exact own_ret X2 e2 (v := some (.int 1)) (fun h => by rw [Bd.returns] at h; cases h) Bd.notSynchronized ⟨rfl, N0, rfl⟩ (by decide) (by decide) (fun fs hr => retN X2 hx (t := .boolean) Bd.returns (by simp) (hb hby d30_18) hr)
theorem d34_0 : decode jdk_29_method_69_code 0 = .ok (.iload_n 0, 1) := by decide +kernel
theorem d34_1 : decode jdk_29_method_69_code 1 = .ok (.iload_n 1, 1) := by decide +kernel
theorem d34_2 : decode jdk_29_method_69_code 2 = .ok (.if_icmp .gt 7, 3) := by decide +kernel
theorem d34_5 : decode jdk_29_method_69_code 5 = .ok (.iload_n 0, 1) := by decide +kernel
theorem d34_6 : decode jdk_29_method_69_code 6 = .ok (.goto 4, 3) := by decide +kernel
theorem d34_9 : decode jdk_29_method_69_code 9 = .ok (.iload_n 1, 1) := by decide +kernel
theorem d34_10 : decode jdk_29_method_69_code 10 = .ok (.ireturn, 1) := by decide +kernel
theorem ef_min (m : MethodId) (x : Int32) (y : Int32) : entryFrame m #[(.int x), (.int y)] 2 = mkF m 0 #[iv x, iv y] [] := by
  first | (simp [entryFrame, mkF, argsToLocals, Value.category]; done) | rfl
def Q_min (Z : State) (x : Int32) (y : Int32) (h0 : Heap) (n0 : Nat) (v : Option Value) (h : Heap) (L : List Loc) : Prop := v = some (.int (own_min x y)) ∧ Fr n0 L ∧ h = h0
set_option maxRecDepth 65536 in
set_option maxHeartbeats 40000000 in
theorem rm_min (l : Launch) (Z : State) (a0 : Array Value) (hw : ∀ d ∈ tables_1, d.before a0 Z = true) (ws : List Jvm.Cond) (x : Int32) (y : Int32) (h0 : Heap) (n0 : Nat) (O0 : Old Z n0 h0) :
    MetFree l own_y25 (head1 (Jvm.Cond.code own_y25 jdk_29_method_69_code 2 (some .int) :: ws) ({ frames := 0, cells := 0, slots := 0, locals := 0 } : Room)) (fun aq_ Uq_ => aq_ = #[(.int x), (.int y)] ∧ Z.Warmed39 Uq_.vm ∧ Uq_.heap = h0) (fun _ _ _ _ _ => True) (fun _ Uq_ oq_ Ur_ => ∃ vq_ Lq_, oq_ = .returned vq_ ∧ Q_min Z x y h0 n0 vq_ Ur_.heap Lq_ ∧ FrameEnd Uq_ oq_ Ur_ Lq_ ({ frames := 0, cells := 0, slots := 0, locals := 0 } : Room).cells ({ frames := 0, cells := 0, slots := 0, locals := 0 } : Room).slots) := by
  refine MetFree.of_bodySF (Jvm.Free.JP.mathPlain rfl (by decide +kernel)) hisR ?_
  intro p e s m args below meth c s₁ Bd hml0 hP hK
  obtain ⟨rfl, hZ, hh⟩ := hP
  have W_ : ∀ {d : Jvm.Cond} (i : Nat), tables_1[i]? = some d → d.before a0 Z = true := fun i h => hw _ (List.mem_of_getElem? h)
  have hx := Bd.exec
  have hby := Bd.bytes
  have hml : c.maxLocals = 2 := hml0
  have hown : s.vm.findClass "java/lang/Math" = some m.cls := findClass_of_methodNamed Bd.named
  have hnm := (name_of_methodNamed Bd.named Bd.method).1
  have X0 : Stand p l e ({ frames := 0, cells := 0, slots := 0, locals := 0 } : Room) s m #[(.int x), (.int y)] below meth c s₁ [] 0 0 := Stand.of_body Bd
  have e0 : s₁.heap = h0 := by rw [← hh, Bd.state]; rfl
  have N0 := Fr.nil n0
  have K0 := Keep.refl h0 []
  refine own_G.start (Q := Q_min Z x y h0 n0) (ef_min m x y) ?_
  refine own_G.sk 1 [(.int x)] (fun _ kq => XS.iloadN X0.here hx rfl (hb hby d34_0) rfl kq) ?_
  refine own_G.sk 2 [(.int y), (.int x)] (fun _ kq => XS.iloadN X0.here hx rfl (hb hby d34_1) rfl kq) ?_
  rcases Classical.em (y < x) with hc2 | hc2
  · refine own_G.sk 9 [] (fun _ kq => XS.icmpYes X0.here hx rfl (pc0 := 2) (pc' := 9) rfl (hb hby d34_2) rfl (tlt hc2).2.2.1 (by decide) (by decide) kq) ?_
    refine own_G.sk 10 [(.int y)] (fun _ kq => XS.iloadN X0.here hx rfl (hb hby d34_9) rfl kq) ?_
    exact own_ret X0 e0 (v := some (.int y)) (fun h => by rw [Bd.returns] at h; cases h) Bd.notSynchronized ⟨(by simp [own_min, hc2]), N0, rfl⟩ (by decide) (by decide) (fun fs hr => retI X0 hx Bd.returns (hb hby d34_10) hr)
  · refine own_G.sk 5 [] (fun _ kq => XS.icmpNo X0.here hx rfl (hb hby d34_2) rfl (flt hc2).2.2.1 kq) ?_
    refine own_G.sk 6 [(.int x)] (fun _ kq => XS.iloadN X0.here hx rfl (hb hby d34_5) rfl kq) ?_
    refine own_G.sk 10 [(.int x)] (fun _ kq => XS.goto X0.here hx rfl (pc0 := 6) (pc' := 10) rfl (hb hby d34_6) (by decide) (by decide) kq) ?_
    exact own_ret X0 e0 (v := some (.int x)) (fun h => by rw [Bd.returns] at h; cases h) Bd.notSynchronized ⟨(by simp [own_min, hc2]), N0, rfl⟩ (by decide) (by decide) (fun fs hr => retI X0 hx Bd.returns (hb hby d34_10) hr)
theorem d33_0 : decode jdk_65_method_131_code 0 = .ok (.iload_n 1, 1) := by decide +kernel
theorem d33_1 : decode jdk_65_method_131_code 1 = .ok (.iload_n 0, 1) := by decide +kernel
theorem d33_2 : decode jdk_65_method_131_code 2 = .ok (.if_icmp .ge 35, 3) := by decide +kernel
theorem d33_37 : decode jdk_65_method_131_code 37 = .ok (.return_, 1) := by decide +kernel
theorem pn_java_2futil_2fArrays : plainName "java/util/Arrays" = true := by first | (simp [plainName, overriddenIn]; done) | decide +kernel
theorem ef_chklen (m : MethodId) (x : Int32) (y : Int32) : entryFrame m #[(.int x), (.int y)] 2 = mkF m 0 #[iv x, iv y] [] := by
  first | (simp [entryFrame, mkF, argsToLocals, Value.category]; done) | rfl
def Q_chklen (Z : State) (x : Int32) (y : Int32) (h0 : Heap) (n0 : Nat) (v : Option Value) (h : Heap) (L : List Loc) : Prop := v = none ∧ Fr n0 L ∧ h = h0
set_option maxRecDepth 65536 in
set_option maxHeartbeats 40000000 in
theorem rm_chklen (l : Launch) (Z : State) (a0 : Array Value) (hw : ∀ d ∈ tables_1, d.before a0 Z = true) (ws : List Jvm.Cond) (x : Int32) (y : Int32) (h0 : Heap) (n0 : Nat) (O0 : Old Z n0 h0) (h1 : ¬ y < x) :
    MetFree l own_y26 (head1 (Jvm.Cond.code own_y26 jdk_65_method_131_code 2 none :: ws) ({ frames := 0, cells := 0, slots := 0, locals := 0 } : Room)) (fun aq_ Uq_ => aq_ = #[(.int x), (.int y)] ∧ Z.Warmed39 Uq_.vm ∧ Uq_.heap = h0) (fun _ _ _ _ _ => True) (fun _ Uq_ oq_ Ur_ => ∃ vq_ Lq_, oq_ = .returned vq_ ∧ Q_chklen Z x y h0 n0 vq_ Ur_.heap Lq_ ∧ FrameEnd Uq_ oq_ Ur_ Lq_ ({ frames := 0, cells := 0, slots := 0, locals := 0 } : Room).cells ({ frames := 0, cells := 0, slots := 0, locals := 0 } : Room).slots) := by
  refine MetFree.of_bodySF (plainFor_of_name pn_java_2futil_2fArrays) hisR ?_
  intro p e s m args below meth c s₁ Bd hml0 hP hK
  obtain ⟨rfl, hZ, hh⟩ := hP
  have W_ : ∀ {d : Jvm.Cond} (i : Nat), tables_1[i]? = some d → d.before a0 Z = true := fun i h => hw _ (List.mem_of_getElem? h)
  have hx := Bd.exec
  have hby := Bd.bytes
  have hml : c.maxLocals = 2 := hml0
  have hown : s.vm.findClass "java/util/Arrays" = some m.cls := findClass_of_methodNamed Bd.named
  have hnm := (name_of_methodNamed Bd.named Bd.method).1
  have X0 : Stand p l e ({ frames := 0, cells := 0, slots := 0, locals := 0 } : Room) s m #[(.int x), (.int y)] below meth c s₁ [] 0 0 := Stand.of_body Bd
  have e0 : s₁.heap = h0 := by rw [← hh, Bd.state]; rfl
  have N0 := Fr.nil n0
  have K0 := Keep.refl h0 []
  refine own_G.start (Q := Q_chklen Z x y h0 n0) (ef_chklen m x y) ?_
  refine own_G.sk 1 [(.int y)] (fun _ kq => XS.iloadN X0.here hx rfl (hb hby d33_0) rfl kq) ?_
  refine own_G.sk 2 [(.int x), (.int y)] (fun _ kq => XS.iloadN X0.here hx rfl (hb hby d33_1) rfl kq) ?_
  have hc2 : ¬ (y < x) := h1
  refine own_G.sk 37 [] (fun _ kq => XS.icmpYes X0.here hx rfl (pc0 := 2) (pc' := 37) rfl (hb hby d33_2) rfl (flt hc2).2.1 (by decide) (by decide) kq) ?_
  exact own_ret X0 e0 (v := none) (fun _ => rfl) Bd.notSynchronized ⟨rfl, N0, rfl⟩ (by decide) (by decide) (fun fs hr => X0.returnOut hx Bd.returns (hb hby d33_37) hr)
theorem pd__28II_29V : parseMethodDescriptor "(II)V" = some ⟨[.int, .int], none⟩ := by decide +kernel
theorem pd__28II_29I : parseMethodDescriptor "(II)I" = some ⟨[.int, .int], some .int⟩ := by decide +kernel
theorem d32_0 : decode jdk_65_method_133_code 0 = .ok (.iload_n 1, 1) := by decide +kernel
theorem d32_1 : decode jdk_65_method_133_code 1 = .ok (.iload_n 2, 1) := by decide +kernel
theorem d32_2 : decode jdk_65_method_133_code 2 = .ok (.invokestatic 343, 3) := by decide +kernel
theorem d32_5 : decode jdk_65_method_133_code 5 = .ok (.iload_n 2, 1) := by decide +kernel
theorem d32_6 : decode jdk_65_method_133_code 6 = .ok (.iload_n 1, 1) := by decide +kernel
theorem d32_7 : decode jdk_65_method_133_code 7 = .ok (.isub, 1) := by decide +kernel
theorem d32_8 : decode jdk_65_method_133_code 8 = .ok (.istore_n 3, 1) := by decide +kernel
theorem d32_9 : decode jdk_65_method_133_code 9 = .ok (.iload_n 3, 1) := by decide +kernel
theorem d32_10 : decode jdk_65_method_133_code 10 = .ok (.newarray .byte, 2) := by decide +kernel
theorem d32_12 : decode jdk_65_method_133_code 12 = .ok (.astore 4, 2) := by decide +kernel
theorem d32_14 : decode jdk_65_method_133_code 14 = .ok (.aload_n 0, 1) := by decide +kernel
theorem d32_15 : decode jdk_65_method_133_code 15 = .ok (.iload_n 1, 1) := by decide +kernel
theorem d32_16 : decode jdk_65_method_133_code 16 = .ok (.aload 4, 2) := by decide +kernel
theorem d32_18 : decode jdk_65_method_133_code 18 = .ok (.iconst 0, 1) := by decide +kernel
theorem d32_19 : decode jdk_65_method_133_code 19 = .ok (.aload_n 0, 1) := by decide +kernel
theorem d32_20 : decode jdk_65_method_133_code 20 = .ok (.arraylength, 1) := by decide +kernel
theorem d32_21 : decode jdk_65_method_133_code 21 = .ok (.iload_n 1, 1) := by decide +kernel
theorem d32_22 : decode jdk_65_method_133_code 22 = .ok (.isub, 1) := by decide +kernel
theorem d32_23 : decode jdk_65_method_133_code 23 = .ok (.iload_n 3, 1) := by decide +kernel
theorem d32_24 : decode jdk_65_method_133_code 24 = .ok (.invokestatic 304, 3) := by decide +kernel
theorem d32_27 : decode jdk_65_method_133_code 27 = .ok (.invokestatic 150, 3) := by decide +kernel
theorem d32_30 : decode jdk_65_method_133_code 30 = .ok (.aload 4, 2) := by decide +kernel
theorem d32_32 : decode jdk_65_method_133_code 32 = .ok (.areturn, 1) := by decide +kernel
theorem ef_corb (m : MethodId) (t : Addr) : entryFrame m #[(.ref t), (.int 0), (.int 0)] 5 = mkF m 0 #[rv t, iv 0, iv 0, .unset, .unset] [] := by
  first | (simp [entryFrame, mkF, argsToLocals, Value.category]; done) | rfl
def Q_corb (Z : State) (t : Addr) (kb : ClassId) (h0 : Heap) (n0 : Nat) (v : Option Value) (h : Heap) (L : List Loc) : Prop := ∃ (r : Addr), ∃ (kr : ClassId), v = some (.ref r) ∧ Fr n0 L ∧ Keep h0 h [] ∧ h0.size ≤ r ∧ Arv Z h r kr .byte (0 : Int32) [] (.int 0)
set_option maxRecDepth 65536 in
set_option maxHeartbeats 40000000 in
theorem rm_corb (l : Launch) (Z : State) (a0 : Array Value) (hw : ∀ d ∈ tables_1, d.before a0 Z = true) (ws : List Jvm.Cond) (t : Addr) (kb : ClassId) (h0 : Heap) (n0 : Nat) (O0 : Old Z n0 h0) (At : Arv Z h0 t kb .byte (16 : Int32) [(.int 0), (.int 0), (.int 0), (.int 0), (.int 0), (.int 0), (.int 0), (.int 0), (.int 0), (.int 0), (.int 0), (.int 0), (.int 0), (.int 0), (.int 0), (.int 0)] (.int 0)) :
    MetFree l own_y27 (head1 (Jvm.Cond.code own_y27 jdk_65_method_133_code 5 (some (.array .byte)) :: ws) ({ frames := 1, cells := 1, slots := 0, locals := 18 } : Room)) (fun aq_ Uq_ => aq_ = #[(.ref t), (.int 0), (.int 0)] ∧ Z.Warmed39 Uq_.vm ∧ Uq_.heap = h0) (fun _ _ _ _ _ => True) (fun _ Uq_ oq_ Ur_ => ∃ vq_ Lq_, oq_ = .returned vq_ ∧ Q_corb Z t kb h0 n0 vq_ Ur_.heap Lq_ ∧ FrameEnd Uq_ oq_ Ur_ Lq_ ({ frames := 1, cells := 1, slots := 0, locals := 18 } : Room).cells ({ frames := 1, cells := 1, slots := 0, locals := 18 } : Room).slots) := by
  refine MetFree.of_bodySF (plainFor_of_name pn_java_2futil_2fArrays) hisR ?_
  intro p e s m args below meth c s₁ Bd hml0 hP hK
  obtain ⟨rfl, hZ, hh⟩ := hP
  have W_ : ∀ {d : Jvm.Cond} (i : Nat), tables_1[i]? = some d → d.before a0 Z = true := fun i h => hw _ (List.mem_of_getElem? h)
  have hx := Bd.exec
  have hby := Bd.bytes
  have hml : c.maxLocals = 5 := hml0
  have hown : s.vm.findClass "java/util/Arrays" = some m.cls := findClass_of_methodNamed Bd.named
  have hnm := (name_of_methodNamed Bd.named Bd.method).1
  have X0 : Stand p l e ({ frames := 1, cells := 1, slots := 0, locals := 18 } : Room) s m #[(.ref t), (.int 0), (.int 0)] below meth c s₁ [] 0 0 := Stand.of_body Bd
  have e0 : s₁.heap = h0 := by rw [← hh, Bd.state]; rfl
  have N0 := Fr.nil n0
  have K0 := Keep.refl h0 []
  refine own_G.start (Q := Q_corb Z t kb h0 n0) (ef_corb m t) ?_
  refine own_G.sk 1 [(.int 0)] (fun _ kq => XS.iloadN X0.here hx rfl (hb hby d32_0) rfl kq) ?_
  refine own_G.sk 2 [(.int 0), (.int 0)] (fun _ kq => XS.iloadN X0.here hx rfl (hb hby d32_1) rfl kq) ?_
  obtain ⟨_, _, ⟨T1, L1, k1, n1⟩, -, X1, ⟨Lc1, hQ1, l1, y1, z1⟩, st1⟩ := Jvm.LawKit.callS X0 hx (y := own_y26) hown (mvT hZ (W_ 215 rfl)) (mvT hZ (W_ 216 rfl)) (mvT hZ (W_ 210 rfl)) (mvT hZ (W_ 217 rfl)) (by decide) (backOf (W := 0) (rm_chklen l Z a0 hw [] (0 : Int32) (0 : Int32) h0 n0 O0 (by decide)) hZ (W_ 217 rfl) (W_ 210 rfl) (by decide) (by decide)) (g := (mkF m 2 #[rv t, iv 0, iv 0, .unset, .unset] [(.int 0), (.int 0)])) rfl (by rw [hml]; rfl) (argsL := [(.int 0), (.int 0)]) (rest := []) (lenOf pd__28II_29V rfl) rfl (by show 2 * 0 + _ ≤ _; exact Nat.le_of_eq rfl) (hb hby d32_2) (fun _ _ => ⟨rfl, e0, (by decide : 0 + 0 ≤ _), (by decide : 0 + 0 ≤ _)⟩)
  dsimp only [Pt.U, Pt.locs, Pt.cells, Pt.slots] at X1 l1 y1 z1 st1 hQ1
  subst l1 y1 z1
  obtain ⟨rfl, Nq1, P2⟩ := hQ1
  have N1 := Fr.app N0 Nq1
  refine own_G.st (T' := T1) 5 [] (fun _ kq => st1 _ kq) ?_
  refine own_G.sk 6 [(.int 0)] (fun _ kq => XS.iloadN X1.here hx rfl (hb hby d32_5) rfl kq) ?_
  refine own_G.sk 7 [(.int 0), (.int 0)] (fun _ kq => XS.iloadN X1.here hx rfl (hb hby d32_6) rfl kq) ?_
  refine own_G.sk 8 [(.int ((0 : Int32) - (0 : Int32)))] (fun _ kq => XS.isub X1.here hx rfl (hb hby d32_7) rfl kq) ?_
  refine own_G.si 9 [] (fun _ kq => XS.istoreN X1.here hx rfl (hb hby d32_8) rfl (l' := #[rv t, iv 0, iv 0, .val (.int ((0 : Int32) - (0 : Int32))), .unset]) rfl kq) ?_
  have hl3 : ((0 : Int32) - (0 : Int32)) = (0 : Int32) := by decide
  refine own_G.cast (g' := (mkF m 9 #[rv t, iv 0, iv 0, iv 0, .unset] [])) (by rw [hl3]) ?_
  refine own_G.sk 10 [(.int 0)] (fun _ kq => XS.iloadN X1.here hx rfl (hb hby d32_9) rfl kq) ?_
  obtain ⟨T4, h4, k4, X4, e4, E4, A4, st4⟩ := newP X1 hx hZ (W_ 19 rfl) P2 (g := (mkF m 10 #[rv t, iv 0, iv 0, iv 0, .unset] [(.int 0)])) rfl (hb hby d32_10) rfl (by decide) (cap := 0) (by decide) (by decide) (by decide) (by decide)
  obtain ⟨b4, g4⟩ : ∃ z, z = h0.size := ⟨_, rfl⟩
  rw [← g4] at A4 st4
  have ne5 : t ≠ b4 := Nat.ne_of_lt (Nat.lt_of_lt_of_le At.lt (Nat.le_of_eq g4.symm))
  have g6 : n0 ≤ b4 := Nat.le_trans O0.le (Nat.le_of_eq g4.symm)
  have z7 : h0.size ≤ b4 := Nat.le_trans K0.1 (Nat.le_of_eq g4.symm)
  have F8 := At.ext E4
  have O9 := O0.ext E4
  have K10 := K0.ext E4
  have F11 : Arv Z h4 b4 k4 .byte (0 : Int32) [] (.int 0) := (Arv.new A4 (by decide)).pad (pad_rep [] (.int 0) 0)
  refine own_G.st (T' := T4) 12 [(.ref b4)] st4 ?_
  refine own_G.si 14 [] (fun _ kq => XS.astore X4.here hx rfl (hb hby d32_12) rfl rfl (l' := #[rv t, iv 0, iv 0, iv 0, rv b4]) rfl kq) ?_
  refine own_G.sk 15 [(.ref t)] (fun _ kq => XS.aloadN X4.here hx rfl (hb hby d32_14) rfl rfl kq) ?_
  refine own_G.sk 16 [(.int 0), (.ref t)] (fun _ kq => XS.iloadN X4.here hx rfl (hb hby d32_15) rfl kq) ?_
  refine own_G.sk 18 [(.ref b4), (.int 0), (.ref t)] (fun _ kq => XS.aload X4.here hx rfl (hb hby d32_16) rfl rfl kq) ?_
  refine own_G.sk 19 [(.int 0), (.ref b4), (.int 0), (.ref t)] (fun _ kq => XS.iconst X4.here hx rfl (hb hby d32_18) kq) ?_
  refine own_G.sk 20 [(.ref t), (.int 0), (.ref b4), (.int 0), (.ref t)] (fun _ kq => XS.aloadN X4.here hx rfl (hb hby d32_19) rfl rfl kq) ?_
  obtain ⟨cl12, Ar12, -, Sz12, Nz12, -, -⟩ := id F8
  refine own_G.step (g' := (mkF m 21 #[rv t, iv 0, iv 0, iv 0, rv b4] [(.int 16), (.int 0), (.ref b4), (.int 0), (.ref t)])) (fun tq_ kq_ => X4.arraylength hx (by rw [e4]; exact Ar12.1) (State.isArrayOf_alike hZ.alike Ar12.2.1) (g := (mkF m 20 #[rv t, iv 0, iv 0, iv 0, rv b4] [(.ref t), (.int 0), (.ref b4), (.int 0), (.ref t)])) rfl rfl (hb hby d32_20) _ (by rw [len_of Sz12 Nz12]; exact kq_)) ?_
  refine own_G.sk 22 [(.int 0), (.int 16), (.int 0), (.ref b4), (.int 0), (.ref t)] (fun _ kq => XS.iloadN X4.here hx rfl (hb hby d32_21) rfl kq) ?_
  refine own_G.sk 23 [(.int ((16 : Int32) - (0 : Int32))), (.int 0), (.ref b4), (.int 0), (.ref t)] (fun _ kq => XS.isub X4.here hx rfl (hb hby d32_22) rfl kq) ?_
  refine own_G.sk 24 [(.int 0), (.int ((16 : Int32) - (0 : Int32))), (.int 0), (.ref b4), (.int 0), (.ref t)] (fun _ kq => XS.iloadN X4.here hx rfl (hb hby d32_23) rfl kq) ?_
  obtain ⟨_, _, ⟨T13, L13, k13, n13⟩, -, X13, ⟨Lc13, hQ13, l13, y13, z13⟩, st13⟩ := Jvm.LawKit.callS X4 hx (y := own_y25) hown (mvT hZ (W_ 218 rfl)) (mvT hZ (W_ 219 rfl)) (mvT hZ (W_ 220 rfl)) (mvT hZ (W_ 221 rfl)) (by decide) (backOf (W := 4) (rm_min l Z a0 hw [] ((16 : Int32) - (0 : Int32)) (0 : Int32) h4 n0 O9 ) hZ (W_ 221 rfl) (W_ 220 rfl) (by decide) (by decide)) (g := (mkF m 24 #[rv t, iv 0, iv 0, iv 0, rv b4] [(.int 0), (.int ((16 : Int32) - (0 : Int32))), (.int 0), (.ref b4), (.int 0), (.ref t)])) rfl (by rw [hml]; rfl) (argsL := [(.int ((16 : Int32) - (0 : Int32))), (.int 0)]) (rest := [(.int 0), (.ref b4), (.int 0), (.ref t)]) (lenOf pd__28II_29I rfl) rfl (by show 2 * 0 + _ ≤ _; exact Nat.le_of_eq rfl) (hb hby d32_24) (fun _ _ => ⟨rfl, e4, (by decide : 1 + 0 ≤ _), (by decide : 0 + 0 ≤ _)⟩)
  dsimp only [Pt.U, Pt.locs, Pt.cells, Pt.slots] at X13 l13 y13 z13 st13 hQ13
  subst l13 y13 z13
  obtain ⟨rfl, Nq13, P14⟩ := hQ13
  have N13 := Fr.app N1 Nq13
  refine own_G.st (T' := T13) 27 [(.int (own_min ((16 : Int32) - (0 : Int32)) (0 : Int32))), (.int 0), (.ref b4), (.int 0), (.ref t)] (fun _ kq => st13 _ kq) ?_
  have hl15 : (own_min ((16 : Int32) - (0 : Int32)) (0 : Int32)) = (0 : Int32) := by decide
  refine own_G.cast (g' := (mkF m 27 #[rv t, iv 0, iv 0, iv 0, rv b4] [(.int 0), (.int 0), (.ref b4), (.int 0), (.ref t)])) (by rw [hl15]) ?_
  obtain ⟨T16, h16, L16, X16, e16, N16, K16, A16, st16⟩ := cpA X13 hx hZ hown (W_ 222 rfl) (W_ 225 rfl) (W_ 223 rfl) (W_ 224 rfl) P14 F8 F11 (Or.inl ⟨rfl, rfl⟩) (by decide) (by decide) (by decide) (by decide) (by decide) rfl (by decide) N13 g6 (g := (mkF m 27 #[rv t, iv 0, iv 0, iv 0, rv b4] [(.int 0), (.int 0), (.ref b4), (.int 0), (.ref t)])) rfl (by rw [hml]; rfl) rfl (hb hby d32_27) (by decide) (W := 0) (by show 2 * 0 + _ ≤ _; exact Nat.le_of_eq rfl) (by decide)
  have F17 := F8.keep K16 (ninS ne5 nin0)
  have O18 := O9.keep K16 (allS g6 all0)
  have K19 := K10.trans K16 (allS (Or.inr z7) all0)
  have F20 : Arv Z h16 b4 k4 .byte (0 : Int32) [] (.int 0) := A16
  refine own_G.st (T' := T16) 30 [] st16 ?_
  refine own_G.sk 32 [(.ref b4)] (fun _ kq => XS.aload X16.here hx rfl (hb hby d32_30) rfl rfl kq) ?_
  exact own_ret X16 e16 (v := some (.ref b4)) (fun h => by rw [Bd.returns] at h; cases h) Bd.notSynchronized ⟨b4, k4, rfl, N16, K19, z7, F20⟩ (by decide) (by decide) (fun fs hr => own_retR X16 hx Bd.returns rfl rfl (hb hby d32_32) hr)
theorem pd__28_5bBII_29_5bB : parseMethodDescriptor "([BII)[B" = some ⟨[(.array .byte), .int, .int], some (.array .byte)⟩ := by decide +kernel
theorem d31_0 : decode jdk_65_method_132_code 0 = .ok (.iload_n 1, 1) := by decide +kernel
theorem d31_1 : decode jdk_65_method_132_code 1 = .ok (.ifCond .ne 9, 3) := by decide +kernel
theorem d31_4 : decode jdk_65_method_132_code 4 = .ok (.iload_n 2, 1) := by decide +kernel
theorem d31_5 : decode jdk_65_method_132_code 5 = .ok (.aload_n 0, 1) := by decide +kernel
theorem d31_6 : decode jdk_65_method_132_code 6 = .ok (.arraylength, 1) := by decide +kernel
theorem d31_7 : decode jdk_65_method_132_code 7 = .ok (.if_icmp .eq 10, 3) := by decide +kernel
theorem d31_10 : decode jdk_65_method_132_code 10 = .ok (.aload_n 0, 1) := by decide +kernel
theorem d31_11 : decode jdk_65_method_132_code 11 = .ok (.iload_n 1, 1) := by decide +kernel
theorem d31_12 : decode jdk_65_method_132_code 12 = .ok (.iload_n 2, 1) := by decide +kernel
theorem d31_13 : decode jdk_65_method_132_code 13 = .ok (.invokestatic 339, 3) := by decide +kernel
theorem d31_16 : decode jdk_65_method_132_code 16 = .ok (.areturn, 1) := by decide +kernel
theorem ef_cor (m : MethodId) (t : Addr) : entryFrame m #[(.ref t), (.int 0), (.int 0)] 3 = mkF m 0 #[rv t, iv 0, iv 0] [] := by
  first | (simp [entryFrame, mkF, argsToLocals, Value.category]; done) | rfl
def Q_cor (Z : State) (t : Addr) (kb : ClassId) (h0 : Heap) (n0 : Nat) (v : Option Value) (h : Heap) (L : List Loc) : Prop := ∃ (r : Addr), ∃ (kr : ClassId), v = some (.ref r) ∧ Fr n0 L ∧ Keep h0 h [] ∧ h0.size ≤ r ∧ Arv Z h r kr .byte (0 : Int32) [] (.int 0)
set_option maxRecDepth 65536 in
set_option maxHeartbeats 40000000 in
theorem rm_cor (l : Launch) (Z : State) (a0 : Array Value) (hw : ∀ d ∈ tables_1, d.before a0 Z = true) (ws : List Jvm.Cond) (t : Addr) (kb : ClassId) (h0 : Heap) (n0 : Nat) (O0 : Old Z n0 h0) (At : Arv Z h0 t kb .byte (16 : Int32) [(.int 0), (.int 0), (.int 0), (.int 0), (.int 0), (.int 0), (.int 0), (.int 0), (.int 0), (.int 0), (.int 0), (.int 0), (.int 0), (.int 0), (.int 0), (.int 0)] (.int 0)) :
    MetFree l own_y28 (head1 (Jvm.Cond.code own_y28 jdk_65_method_132_code 3 (some (.array .byte)) :: ws) ({ frames := 2, cells := 1, slots := 0, locals := 34 } : Room)) (fun aq_ Uq_ => aq_ = #[(.ref t), (.int 0), (.int 0)] ∧ Z.Warmed39 Uq_.vm ∧ Uq_.heap = h0) (fun _ _ _ _ _ => True) (fun _ Uq_ oq_ Ur_ => ∃ vq_ Lq_, oq_ = .returned vq_ ∧ Q_cor Z t kb h0 n0 vq_ Ur_.heap Lq_ ∧ FrameEnd Uq_ oq_ Ur_ Lq_ ({ frames := 2, cells := 1, slots := 0, locals := 34 } : Room).cells ({ frames := 2, cells := 1, slots := 0, locals := 34 } : Room).slots) := by
  refine MetFree.of_bodySF (plainFor_of_name pn_java_2futil_2fArrays) hisR ?_
  intro p e s m args below meth c s₁ Bd hml0 hP hK
  obtain ⟨rfl, hZ, hh⟩ := hP
  have W_ : ∀ {d : Jvm.Cond} (i : Nat), tables_1[i]? = some d → d.before a0 Z = true := fun i h => hw _ (List.mem_of_getElem? h)
  have hx := Bd.exec
  have hby := Bd.bytes
  have hml : c.maxLocals = 3 := hml0
  have hown : s.vm.findClass "java/util/Arrays" = some m.cls := findClass_of_methodNamed Bd.named
  have hnm := (name_of_methodNamed Bd.named Bd.method).1
  have X0 : Stand p l e ({ frames := 2, cells := 1, slots := 0, locals := 34 } : Room) s m #[(.ref t), (.int 0), (.int 0)] below meth c s₁ [] 0 0 := Stand.of_body Bd
  have e0 : s₁.heap = h0 := by rw [← hh, Bd.state]; rfl
  have N0 := Fr.nil n0
  have K0 := Keep.refl h0 []
  refine own_G.start (Q := Q_cor Z t kb h0 n0) (ef_cor m t) ?_
  refine own_G.sk 1 [(.int 0)] (fun _ kq => XS.iloadN X0.here hx rfl (hb hby d31_0) rfl kq) ?_
  have hc1 : (0 : Int32) = (0 : Int32) := (by decide)
  refine own_G.sk 4 [] (fun _ kq => XS.ifNo X0.here hx rfl (hb hby d31_1) rfl ((if0 _ _).trans (teq hc1).2) kq) ?_
  refine own_G.sk 5 [(.int 0)] (fun _ kq => XS.iloadN X0.here hx rfl (hb hby d31_4) rfl kq) ?_
  refine own_G.sk 6 [(.ref t), (.int 0)] (fun _ kq => XS.aloadN X0.here hx rfl (hb hby d31_5) rfl rfl kq) ?_
  obtain ⟨cl1, Ar1, -, Sz1, Nz1, -, -⟩ := id At
  refine own_G.step (g' := (mkF m 7 #[rv t, iv 0, iv 0] [(.int 16), (.int 0)])) (fun tq_ kq_ => X0.arraylength hx (by rw [e0]; exact Ar1.1) (State.isArrayOf_alike hZ.alike Ar1.2.1) (g := (mkF m 6 #[rv t, iv 0, iv 0] [(.ref t), (.int 0)])) rfl rfl (hb hby d31_6) _ (by rw [len_of Sz1 Nz1]; exact kq_)) ?_
  have hc7 : ¬ ((0 : Int32) = (16 : Int32)) := (by decide)
  refine own_G.sk 10 [] (fun _ kq => XS.icmpNo X0.here hx rfl (hb hby d31_7) rfl (feq hc7).1 kq) ?_
  refine own_G.sk 11 [(.ref t)] (fun _ kq => XS.aloadN X0.here hx rfl (hb hby d31_10) rfl rfl kq) ?_
  refine own_G.sk 12 [(.int 0), (.ref t)] (fun _ kq => XS.iloadN X0.here hx rfl (hb hby d31_11) rfl kq) ?_
  refine own_G.sk 13 [(.int 0), (.int 0), (.ref t)] (fun _ kq => XS.iloadN X0.here hx rfl (hb hby d31_12) rfl kq) ?_
  obtain ⟨_, _, ⟨T2, L2, k2, n2⟩, -, X2, ⟨Lc2, hQ2, l2, y2, z2⟩, st2⟩ := Jvm.LawKit.callS X0 hx (y := own_y27) hown (mvT hZ (W_ 212 rfl)) (mvT hZ (W_ 213 rfl)) (mvT hZ (W_ 210 rfl)) (mvT hZ (W_ 214 rfl)) (by decide) (backOf (W := 0) (rm_corb l Z a0 hw [] t kb h0 n0 O0 At) hZ (W_ 214 rfl) (W_ 210 rfl) (by decide) (by decide)) (g := (mkF m 13 #[rv t, iv 0, iv 0] [(.int 0), (.int 0), (.ref t)])) rfl (by rw [hml]; rfl) (argsL := [(.ref t), (.int 0), (.int 0)]) (rest := []) (lenOf pd__28_5bBII_29_5bB rfl) rfl (by show 2 * 0 + _ ≤ _; exact Nat.le_of_eq rfl) (hb hby d31_13) (fun _ _ => ⟨rfl, e0, (by decide : 0 + 1 ≤ _), (by decide : 0 + 0 ≤ _)⟩)
  dsimp only [Pt.U, Pt.locs, Pt.cells, Pt.slots] at X2 l2 y2 z2 st2 hQ2
  subst l2 y2 z2
  obtain ⟨b3, x4, rfl, Nq2, P5, P6, P7⟩ := hQ2
  have N2 := Fr.app N0 Nq2
  have ne8 : t ≠ b3 := Nat.ne_of_lt (Nat.lt_of_lt_of_le At.lt P6)
  have g9 : n0 ≤ b3 := Nat.le_trans O0.le P6
  have z10 : h0.size ≤ b3 := Nat.le_trans K0.1 P6
  have F11 := At.keep P5 nin0
  have O12 := O0.keep P5 all0
  have K13 := K0.trans P5 all0
  refine own_G.st (T' := T2) 16 [(.ref b3)] (fun _ kq => st2 _ kq) ?_
  exact own_ret X2 rfl (v := some (.ref b3)) (fun h => by rw [Bd.returns] at h; cases h) Bd.notSynchronized ⟨b3, x4, rfl, N2, K13, z10, P7⟩ (by decide) (by decide) (fun fs hr => own_retR X2 hx Bd.returns rfl rfl (hb hby d31_16) hr)
theorem pd__28_29_5bB : parseMethodDescriptor "()[B" = some ⟨[], some (.array .byte)⟩ := by decide +kernel
theorem pd__28_29Z : parseMethodDescriptor "()Z" = some ⟨[], some .boolean⟩ := by decide +kernel
theorem d26_0 : decode jdk_42_method_150_code 0 = .ok (.aload_n 0, 1) := by decide +kernel
theorem d26_1 : decode jdk_42_method_150_code 1 = .ok (.invokespecial 1, 3) := by decide +kernel
theorem d26_4 : decode jdk_42_method_150_code 4 = .ok (.aload_n 1, 1) := by decide +kernel
theorem d26_5 : decode jdk_42_method_150_code 5 = .ok (.invokevirtual 552, 3) := by decide +kernel
theorem d26_8 : decode jdk_42_method_150_code 8 = .ok (.astore_n 3, 1) := by decide +kernel
theorem d26_9 : decode jdk_42_method_150_code 9 = .ok (.aload_n 1, 1) := by decide +kernel
theorem d26_10 : decode jdk_42_method_150_code 10 = .ok (.invokevirtual 549, 3) := by decide +kernel
theorem d26_13 : decode jdk_42_method_150_code 13 = .ok (.istore 4, 2) := by decide +kernel
theorem d26_15 : decode jdk_42_method_150_code 15 = .ok (.aload_n 1, 1) := by decide +kernel
theorem d26_16 : decode jdk_42_method_150_code 16 = .ok (.invokevirtual 1047, 3) := by decide +kernel
theorem d26_19 : decode jdk_42_method_150_code 19 = .ok (.ifCond .eq 22, 3) := by decide +kernel
theorem d26_22 : decode jdk_42_method_150_code 22 = .ok (.aload_n 0, 1) := by decide +kernel
theorem d26_23 : decode jdk_42_method_150_code 23 = .ok (.iconst 0, 1) := by decide +kernel
theorem d26_24 : decode jdk_42_method_150_code 24 = .ok (.putfield 15, 3) := by decide +kernel
theorem d26_27 : decode jdk_42_method_150_code 27 = .ok (.aload_n 0, 1) := by decide +kernel
theorem d26_28 : decode jdk_42_method_150_code 28 = .ok (.aload_n 3, 1) := by decide +kernel
theorem d26_29 : decode jdk_42_method_150_code 29 = .ok (.iconst 0, 1) := by decide +kernel
theorem d26_30 : decode jdk_42_method_150_code 30 = .ok (.iload 4, 2) := by decide +kernel
theorem d26_32 : decode jdk_42_method_150_code 32 = .ok (.invokestatic 54, 3) := by decide +kernel
theorem d26_35 : decode jdk_42_method_150_code 35 = .ok (.putfield 9, 3) := by decide +kernel
theorem d26_38 : decode jdk_42_method_150_code 38 = .ok (.goto 59, 3) := by decide +kernel
theorem d26_97 : decode jdk_42_method_150_code 97 = .ok (.return_, 1) := by decide +kernel
theorem ef_strasb (m : MethodId) (a : Addr) (sb : Addr) : entryFrame m #[(.ref a), (.ref sb), .null] 5 = mkF m 0 #[rv a, rv sb, .val .null, .unset, .unset] [] := by
  first | (simp [entryFrame, mkF, argsToLocals, Value.category]; done) | rfl
def Q_strasb (Z : State) (a : Addr) (sb : Addr) (csz : Int32) (t : Addr) (kb : ClassId) (h0 : Heap) (n0 : Nat) (v : Option Value) (h : Heap) (L : List Loc) : Prop := ∃ (r : Addr), ∃ (kr : ClassId), v = none ∧ Fr n0 L ∧ Keep h0 h [a] ∧ h0.size ≤ r ∧ Exa Z h a "java/lang/String" ∧ Fld Z h a "java/lang/String" "value" "[B" (.ref r) ∧ Fld Z h a "java/lang/String" "coder" "B" (.int 0) ∧ Arv Z h r kr .byte (0 : Int32) [] (.int 0)
set_option maxRecDepth 65536 in
set_option maxHeartbeats 40000000 in
theorem rm_strasb (l : Launch) (Z : State) (a0 : Array Value) (hw : ∀ d ∈ tables_1, d.before a0 Z = true) (ws : List Jvm.Cond) (a : Addr) (sb : Addr) (csz : Int32) (t : Addr) (kb : ClassId) (h0 : Heap) (n0 : Nat) (O0 : Old Z n0 h0) (S_CS : Sta Z Z.heap "java/lang/String" "COMPACT_STRINGS" "Z" (.int csz)) (hcs : ¬ csz = (0 : Int32)) (Ea : Exa Z h0 a "java/lang/String") (Fv : Fld Z h0 a "java/lang/String" "value" "[B" .null) (Fc : Fld Z h0 a "java/lang/String" "coder" "B" (.int 0)) (ga : n0 ≤ a) (nes : a ≠ sb) (net : a ≠ t) (Es : Exa Z h0 sb "java/lang/StringBuilder") (Gv : Fld Z h0 sb "java/lang/AbstractStringBuilder" "value" "[B" (.ref t)) (Gc : Fld Z h0 sb "java/lang/AbstractStringBuilder" "coder" "B" (.int 0)) (Gn : Fld Z h0 sb "java/lang/AbstractStringBuilder" "count" "I" (.int 0)) (At : Arv Z h0 t kb .byte (16 : Int32) [(.int 0), (.int 0), (.int 0), (.int 0), (.int 0), (.int 0), (.int 0), (.int 0), (.int 0), (.int 0), (.int 0), (.int 0), (.int 0), (.int 0), (.int 0), (.int 0)] (.int 0)) :
    MetFree l own_y29 (head1 (Jvm.Cond.code own_y29 jdk_42_method_150_code 5 none :: ws) ({ frames := 3, cells := 1, slots := 0, locals := 49 } : Room)) (fun aq_ Uq_ => aq_ = #[(.ref a), (.ref sb), .null] ∧ Z.Warmed39 Uq_.vm ∧ Uq_.heap = h0) (fun _ _ _ _ _ => True) (fun _ Uq_ oq_ Ur_ => ∃ vq_ Lq_, oq_ = .returned vq_ ∧ Q_strasb Z a sb csz t kb h0 n0 vq_ Ur_.heap Lq_ ∧ FrameEnd Uq_ oq_ Ur_ Lq_ ({ frames := 3, cells := 1, slots := 0, locals := 49 } : Room).cells ({ frames := 3, cells := 1, slots := 0, locals := 49 } : Room).slots) := by
  refine MetFree.of_bodySF (plainFor_of_name pn_java_2flang_2fString) hisR ?_
  intro p e s m args below meth c s₁ Bd hml0 hP hK
  obtain ⟨rfl, hZ, hh⟩ := hP
  have W_ : ∀ {d : Jvm.Cond} (i : Nat), tables_1[i]? = some d → d.before a0 Z = true := fun i h => hw _ (List.mem_of_getElem? h)
  have hx := Bd.exec
  have hby := Bd.bytes
  have hml : c.maxLocals = 5 := hml0
  have hown : s.vm.findClass "java/lang/String" = some m.cls := findClass_of_methodNamed Bd.named
  have hnm := (name_of_methodNamed Bd.named Bd.method).1
  have X0 : Stand p l e ({ frames := 3, cells := 1, slots := 0, locals := 49 } : Room) s m #[(.ref a), (.ref sb), .null] below meth c s₁ [] 0 0 := Stand.of_body Bd
  have e0 : s₁.heap = h0 := by rw [← hh, Bd.state]; rfl
  have N0 := Fr.nil n0
  have K0 := Keep.refl h0 [a]
  refine own_G.start (Q := Q_strasb Z a sb csz t kb h0 n0) (ef_strasb m a sb) ?_
  refine own_G.sk 1 [(.ref a)] (fun _ kq => XS.aloadN X0.here hx rfl (hb hby d26_0) rfl rfl kq) ?_
  obtain ⟨T1, X1, e1, st1⟩ := initO X0 hx hZ hown (W_ 15 rfl) (W_ 16 rfl) (W_ 17 rfl) e0 (g := (mkF m 1 #[rv a, rv sb, .val .null, .unset, .unset] [(.ref a)])) rfl (by rw [hml]; rfl) rfl (hb hby d26_1) (by decide) (W := 0) (by show 2 * 0 + _ ≤ _; exact Nat.le_of_eq rfl) (by decide)
  refine own_G.st (T' := T1) 4 [] st1 ?_
  refine own_G.sk 5 [(.ref sb)] (fun _ kq => XS.aloadN X1.here hx rfl (hb hby d26_4) rfl rfl kq) ?_
  obtain ⟨cq2, kq2, q2a, q2b, q2c⟩ := isOf hZ e1 Es
  obtain ⟨_, _, ⟨T2, L2, k2, n2⟩, -, X2, ⟨Lc2, hQ2, l2, y2, z2⟩, st2⟩ := X1.virtualBack hx (y := own_y21) (z := own_y21) hown (mvT hZ (W_ 187 rfl)) (mvT hZ (W_ 188 rfl)) (notFace_of_selects (args := #[]) (mvT hZ (W_ 190 rfl))) (mvT hZ (W_ 190 rfl)) (mvT hZ (W_ 189 rfl)) (by decide) (backOf (W := 0) (rm_getval l Z a0 hw [] sb t h0 n0 O0 Gv) hZ (W_ 191 rfl) (W_ 131 rfl) (by decide) (by decide)) q2a q2c (g := (mkF m 5 #[rv a, rv sb, .val .null, .unset, .unset] [(.ref sb)])) rfl (by rw [hml]; rfl) (Steps.refl _) (argsL := []) (rest := []) (lenOf pd__28_29_5bB rfl) rfl (by show 2 * 0 + _ ≤ _; exact Nat.le_of_eq rfl) (hb hby d26_5) (fun _ _ => ⟨rfl, e1, (by decide : 0 + 0 ≤ _), (by decide : 0 + 0 ≤ _)⟩)
  dsimp only [Pt.U, Pt.locs, Pt.cells, Pt.slots] at X2 l2 y2 z2 st2 hQ2
  subst l2 y2 z2
  obtain ⟨rfl, Nq2, P3⟩ := hQ2
  have N2 := Fr.app N0 Nq2
  refine own_G.st (T' := T2) 8 [(.ref t)] (fun _ kq => st2.trans kq) ?_
  refine own_G.si 9 [] (fun _ kq => XS.astoreN X2.here hx rfl (hb hby d26_8) rfl rfl (l' := #[rv a, rv sb, .val .null, rv t, .unset]) rfl kq) ?_
  refine own_G.sk 10 [(.ref sb)] (fun _ kq => XS.aloadN X2.here hx rfl (hb hby d26_9) rfl rfl kq) ?_
  obtain ⟨cq4, kq4, q4a, q4b, q4c⟩ := isOf hZ P3 Es
  obtain ⟨_, _, ⟨T4, L4, k4, n4⟩, -, X4, ⟨Lc4, hQ4, l4, y4, z4⟩, st4⟩ := X2.virtualBack hx (y := own_y22) (z := own_y23) hown (mvT hZ (W_ 192 rfl)) (mvT hZ (W_ 193 rfl)) (own_nf (args := #[]) (mvT hZ (W_ 190 rfl)) rfl) (mvT hZ (W_ 195 rfl)) (mvT hZ (W_ 196 rfl)) (by decide) (backOf (W := 0) (rm_sblen l Z a0 hw [] sb (0 : Int32) h0 n0 O0 Es Gn) hZ (W_ 197 rfl) (W_ 123 rfl) (by decide) (by decide)) q4a q4c (g := (mkF m 10 #[rv a, rv sb, .val .null, rv t, .unset] [(.ref sb)])) rfl (by rw [hml]; rfl) (Steps.refl _) (argsL := []) (rest := []) (lenOf pd__28_29I rfl) rfl (by show 2 * 0 + _ ≤ _; exact Nat.le_of_eq rfl) (hb hby d26_10) (fun _ _ => ⟨rfl, P3, (by decide : 0 + 0 ≤ _), (by decide : 0 + 0 ≤ _)⟩)
  dsimp only [Pt.U, Pt.locs, Pt.cells, Pt.slots] at X4 l4 y4 z4 st4 hQ4
  subst l4 y4 z4
  obtain ⟨rfl, Nq4, P5⟩ := hQ4
  have N4 := Fr.app N2 Nq4
  refine own_G.st (T' := T4) 13 [(.int 0)] (fun _ kq => st4.trans kq) ?_
  refine own_G.si 15 [] (fun _ kq => XS.istore X4.here hx rfl (hb hby d26_13) rfl (l' := #[rv a, rv sb, .val .null, rv t, iv 0]) rfl kq) ?_
  refine own_G.sk 16 [(.ref sb)] (fun _ kq => XS.aloadN X4.here hx rfl (hb hby d26_15) rfl rfl kq) ?_
  obtain ⟨cq6, kq6, q6a, q6b, q6c⟩ := isOf hZ P5 Es
  obtain ⟨_, _, ⟨T6, L6, k6, n6⟩, -, X6, ⟨Lc6, hQ6, l6, y6, z6⟩, st6⟩ := X4.virtualBack hx (y := own_y24) (z := own_y24) hown (mvT hZ (W_ 203 rfl)) (mvT hZ (W_ 204 rfl)) (notFace_of_selects (args := #[]) (mvT hZ (W_ 206 rfl))) (mvT hZ (W_ 206 rfl)) (mvT hZ (W_ 205 rfl)) (by decide) (backOf (W := 0) (rm_asblat l Z a0 hw [] sb csz h0 n0 O0 S_CS hcs Gc) hZ (W_ 207 rfl) (W_ 131 rfl) (by decide) (by decide)) q6a q6c (g := (mkF m 16 #[rv a, rv sb, .val .null, rv t, iv 0] [(.ref sb)])) rfl (by rw [hml]; rfl) (Steps.refl _) (argsL := []) (rest := []) (lenOf pd__28_29Z rfl) rfl (by show 2 * 0 + _ ≤ _; exact Nat.le_of_eq rfl) (hb hby d26_16) (fun _ _ => ⟨rfl, P5, (by decide : 0 + 0 ≤ _), (by decide : 0 + 0 ≤ _)⟩)
  dsimp only [Pt.U, Pt.locs, Pt.cells, Pt.slots] at X6 l6 y6 z6 st6 hQ6
  subst l6 y6 z6
  obtain ⟨rfl, Nq6, P7⟩ := hQ6
  have N6 := Fr.app N4 Nq6
  refine own_G.st (T' := T6) 19 [(.int 1)] (fun _ kq => st6.trans kq) ?_
  have hc19 : ¬ ((1 : Int32) = (0 : Int32)) := (by decide)
  refine own_G.sk 22 [] (fun _ kq => XS.ifNo X6.here hx rfl (hb hby d26_19) rfl ((if0 _ _).trans (feq hc19).1) kq) ?_
  refine own_G.sk 23 [(.ref a)] (fun _ kq => XS.aloadN X6.here hx rfl (hb hby d26_22) rfl rfl kq) ?_
  refine own_G.sk 24 [(.int 0), (.ref a)] (fun _ kq => XS.iconst X6.here hx rfl (hb hby d26_23) kq) ?_
  obtain ⟨T8, h8, X8, e8, W8, st8⟩ := putFN X6 hx hZ hown (W_ 25 rfl) Via.refl P7 Fc Ea (Or.inr ⟨(W_ 21 rfl), rfl, hnm⟩) (W_ 5 rfl) (ty := .byte) (v' := (.int (nar .byte (0 : Int32)))) (by decide) rfl (fits_nar_byte _) (g := (mkF m 24 #[rv a, rv sb, .val .null, rv t, iv 0] [(.int 0), (.ref a)])) rfl rfl (hb hby d26_24)
  have N8 := Fr.snoc X8 N6 ga
  have F9 := Ea.wr W8
  have F10 := Fv.other W8 (Or.inr (slot_ne (Or.inr (W_ 20 rfl)) (Or.inr (W_ 21 rfl)) (by decide) (t := (.array .byte)) (t' := .byte) (by decide) (by decide)))
  have F11 := Fc.same W8
  have F12 := Es.wr W8
  have F13 := Gv.other W8 (Or.inl (Ne.symm nes))
  have F14 := Gc.other W8 (Or.inl (Ne.symm nes))
  have F15 := Gn.other W8 (Or.inl (Ne.symm nes))
  have F16 := At.other W8 (Ne.symm net)
  have O17 := O0.wr W8 ga
  have K18 := K0.wr W8 (Or.inl (List.mem_of_getElem? (i := 0) rfl))
  refine own_G.st (T' := T8) 27 [] st8 ?_
  refine own_G.sk 28 [(.ref a)] (fun _ kq => XS.aloadN X8.here hx rfl (hb hby d26_27) rfl rfl kq) ?_
  refine own_G.sk 29 [(.ref t), (.ref a)] (fun _ kq => XS.aloadN X8.here hx rfl (hb hby d26_28) rfl rfl kq) ?_
  refine own_G.sk 30 [(.int 0), (.ref t), (.ref a)] (fun _ kq => XS.iconst X8.here hx rfl (hb hby d26_29) kq) ?_
  refine own_G.sk 32 [(.int 0), (.int 0), (.ref t), (.ref a)] (fun _ kq => XS.iload X8.here hx rfl (hb hby d26_30) rfl kq) ?_
  obtain ⟨_, _, ⟨T19, L19, k19, n19⟩, -, X19, ⟨Lc19, hQ19, l19, y19, z19⟩, st19⟩ := Jvm.LawKit.callS X8 hx (y := own_y28) hown (mvT hZ (W_ 208 rfl)) (mvT hZ (W_ 209 rfl)) (mvT hZ (W_ 210 rfl)) (mvT hZ (W_ 211 rfl)) (by decide) (backOf (W := 1) (rm_cor l Z a0 hw [] t kb h8 n0 O17 F16) hZ (W_ 211 rfl) (W_ 210 rfl) (by decide) (by decide)) (g := (mkF m 32 #[rv a, rv sb, .val .null, rv t, iv 0] [(.int 0), (.int 0), (.ref t), (.ref a)])) rfl (by rw [hml]; rfl) (argsL := [(.ref t), (.int 0), (.int 0)]) (rest := [(.ref a)]) (lenOf pd__28_5bBII_29_5bB rfl) rfl (by show 2 * 0 + _ ≤ _; exact Nat.le_of_eq rfl) (hb hby d26_32) (fun _ _ => ⟨rfl, e8, (by decide : 0 + 1 ≤ _), (by decide : 0 + 0 ≤ _)⟩)
  dsimp only [Pt.U, Pt.locs, Pt.cells, Pt.slots] at X19 l19 y19 z19 st19 hQ19
  subst l19 y19 z19
  obtain ⟨b20, x21, rfl, Nq19, P22, P23, P24⟩ := hQ19
  have N19 := Fr.app N8 Nq19
  have ne25 : a ≠ b20 := Nat.ne_of_lt (Nat.lt_of_lt_of_le F9.lt P23)
  have ne26 : sb ≠ b20 := Nat.ne_of_lt (Nat.lt_of_lt_of_le F12.lt P23)
  have ne27 : t ≠ b20 := Nat.ne_of_lt (Nat.lt_of_lt_of_le F16.lt P23)
  have g28 : n0 ≤ b20 := Nat.le_trans O17.le P23
  have z29 : h0.size ≤ b20 := Nat.le_trans K18.1 P23
  have F30 := F9.keep P22
  have F31 := F10.keep P22 nin0
  have F32 := F11.keep P22 nin0
  have F33 := F12.keep P22
  have F34 := F13.keep P22 nin0
  have F35 := F14.keep P22 nin0
  have F36 := F15.keep P22 nin0
  have F37 := F16.keep P22 nin0
  have O38 := O17.keep P22 all0
  have K39 := K18.trans P22 all0
  refine own_G.st (T' := T19) 35 [(.ref b20), (.ref a)] (fun _ kq => st19 _ kq) ?_
  obtain ⟨T40, h40, X40, e40, W40, st40⟩ := putF X19 hx hZ hown (host := "") (Or.inl (W_ 24 rfl)) Via.refl rfl F31 F30 (Or.inr ⟨(W_ 20 rfl), rfl, hnm⟩) (W_ 5 rfl) (ty := (.array .byte)) (by decide) rfl rfl (g := (mkF m 35 #[rv a, rv sb, .val .null, rv t, iv 0] [(.ref b20), (.ref a)])) rfl rfl (hb hby d26_35)
  have N40 := Fr.snoc X40 N19 ga
  have F41 := F30.wr W40
  have F42 := F31.same W40
  have F43 := F32.other W40 (Or.inr (slot_ne (Or.inr (W_ 21 rfl)) (Or.inr (W_ 20 rfl)) (by decide) (t := .byte) (t' := (.array .byte)) (by decide) (by decide)))
  have F44 := F33.wr W40
  have F45 := F34.other W40 (Or.inl (Ne.symm nes))
  have F46 := F35.other W40 (Or.inl (Ne.symm nes))
  have F47 := F36.other W40 (Or.inl (Ne.symm nes))
  have F48 := F37.other W40 (Ne.symm net)
  have F49 := P24.other W40 (Ne.symm ne25)
  have O50 := O38.wr W40 ga
  have K51 := K39.wr W40 (Or.inl (List.mem_of_getElem? (i := 0) rfl))
  refine own_G.st (T' := T40) 38 [] st40 ?_
  refine own_G.sk 97 [] (fun _ kq => XS.goto X40.here hx rfl (pc0 := 38) (pc' := 97) rfl (hb hby d26_38) (by decide) (by decide) kq) ?_
  exact own_ret X40 e40 (v := none) (fun _ => rfl) Bd.notSynchronized ⟨b20, x21, rfl, N40, K51, z29, F41, F42, F43, F49⟩ (by decide) (by decide) (fun fs hr => X40.returnOut hx Bd.returns (hb hby d26_97) hr)
theorem pd__28Ljava_2flang_2fAbstractStringBuilder_3bLjava_2flang_2fVoid_3b_29V : parseMethodDescriptor "(Ljava/lang/AbstractStringBuilder;Ljava/lang/Void;)V" = some ⟨[(.object "java/lang/AbstractStringBuilder"), (.object "java/lang/Void")], none⟩ := by decide +kernel
theorem d25_0 : decode jdk_42_method_53_code 0 = .ok (.aload_n 0, 1) := by decide +kernel
theorem d25_1 : decode jdk_42_method_53_code 1 = .ok (.aload_n 1, 1) := by decide +kernel
theorem d25_2 : decode jdk_42_method_53_code 2 = .ok (.aconst_null, 1) := by decide +kernel
theorem d25_3 : decode jdk_42_method_53_code 3 = .ok (.invokespecial 489, 3) := by decide +kernel
theorem d25_6 : decode jdk_42_method_53_code 6 = .ok (.return_, 1) := by decide +kernel
theorem ef_strsb (m : MethodId) (a : Addr) (sb : Addr) : entryFrame m #[(.ref a), (.ref sb)] 2 = mkF m 0 #[rv a, rv sb] [] := by
  first | (simp [entryFrame, mkF, argsToLocals, Value.category]; done) | rfl
def Q_strsb (Z : State) (a : Addr) (sb : Addr) (csz : Int32) (t : Addr) (kb : ClassId) (h0 : Heap) (n0 : Nat) (v : Option Value) (h : Heap) (L : List Loc) : Prop := ∃ (r : Addr), ∃ (kr : ClassId), v = none ∧ Fr n0 L ∧ Keep h0 h [a] ∧ h0.size ≤ r ∧ Exa Z h a "java/lang/String" ∧ Fld Z h a "java/lang/String" "value" "[B" (.ref r) ∧ Fld Z h a "java/lang/String" "coder" "B" (.int 0) ∧ Arv Z h r kr .byte (0 : Int32) [] (.int 0)
set_option maxRecDepth 65536 in
set_option maxHeartbeats 40000000 in
theorem rm_strsb (l : Launch) (Z : State) (a0 : Array Value) (hw : ∀ d ∈ tables_1, d.before a0 Z = true) (ws : List Jvm.Cond) (a : Addr) (sb : Addr) (csz : Int32) (t : Addr) (kb : ClassId) (h0 : Heap) (n0 : Nat) (O0 : Old Z n0 h0) (S_CS : Sta Z Z.heap "java/lang/String" "COMPACT_STRINGS" "Z" (.int csz)) (hcs : ¬ csz = (0 : Int32)) (Ea : Exa Z h0 a "java/lang/String") (Fv : Fld Z h0 a "java/lang/String" "value" "[B" .null) (Fc : Fld Z h0 a "java/lang/String" "coder" "B" (.int 0)) (ga : n0 ≤ a) (nes : a ≠ sb) (net : a ≠ t) (Es : Exa Z h0 sb "java/lang/StringBuilder") (Gv : Fld Z h0 sb "java/lang/AbstractStringBuilder" "value" "[B" (.ref t)) (Gc : Fld Z h0 sb "java/lang/AbstractStringBuilder" "coder" "B" (.int 0)) (Gn : Fld Z h0 sb "java/lang/AbstractStringBuilder" "count" "I" (.int 0)) (At : Arv Z h0 t kb .byte (16 : Int32) [(.int 0), (.int 0), (.int 0), (.int 0), (.int 0), (.int 0), (.int 0), (.int 0), (.int 0), (.int 0), (.int 0), (.int 0), (.int 0), (.int 0), (.int 0), (.int 0)] (.int 0)) :
    MetFree l own_y30 (head1 (Jvm.Cond.code own_y30 jdk_42_method_53_code 2 none :: ws) ({ frames := 4, cells := 1, slots := 0, locals := 65 } : Room)) (fun aq_ Uq_ => aq_ = #[(.ref a), (.ref sb)] ∧ Z.Warmed39 Uq_.vm ∧ Uq_.heap = h0) (fun _ _ _ _ _ => True) (fun _ Uq_ oq_ Ur_ => ∃ vq_ Lq_, oq_ = .returned vq_ ∧ Q_strsb Z a sb csz t kb h0 n0 vq_ Ur_.heap Lq_ ∧ FrameEnd Uq_ oq_ Ur_ Lq_ ({ frames := 4, cells := 1, slots := 0, locals := 65 } : Room).cells ({ frames := 4, cells := 1, slots := 0, locals := 65 } : Room).slots) := by
  refine MetFree.of_bodySF (plainFor_of_name pn_java_2flang_2fString) hisR ?_
  intro p e s m args below meth c s₁ Bd hml0 hP hK
  obtain ⟨rfl, hZ, hh⟩ := hP
  have W_ : ∀ {d : Jvm.Cond} (i : Nat), tables_1[i]? = some d → d.before a0 Z = true := fun i h => hw _ (List.mem_of_getElem? h)
  have hx := Bd.exec
  have hby := Bd.bytes
  have hml : c.maxLocals = 2 := hml0
  have hown : s.vm.findClass "java/lang/String" = some m.cls := findClass_of_methodNamed Bd.named
  have hnm := (name_of_methodNamed Bd.named Bd.method).1
  have X0 : Stand p l e ({ frames := 4, cells := 1, slots := 0, locals := 65 } : Room) s m #[(.ref a), (.ref sb)] below meth c s₁ [] 0 0 := Stand.of_body Bd
  have e0 : s₁.heap = h0 := by rw [← hh, Bd.state]; rfl
  have N0 := Fr.nil n0
  have K0 := Keep.refl h0 [a]
  refine own_G.start (Q := Q_strsb Z a sb csz t kb h0 n0) (ef_strsb m a sb) ?_
  refine own_G.sk 1 [(.ref a)] (fun _ kq => XS.aloadN X0.here hx rfl (hb hby d25_0) rfl rfl kq) ?_
  refine own_G.sk 2 [(.ref sb), (.ref a)] (fun _ kq => XS.aloadN X0.here hx rfl (hb hby d25_1) rfl rfl kq) ?_
  refine own_G.sk 3 [.null, (.ref sb), (.ref a)] (fun _ kq => XS.aconstNull X0.here hx rfl (hb hby d25_2) kq) ?_
  obtain ⟨_, _, ⟨T1, L1, k1, n1⟩, -, X1, ⟨Lc1, hQ1, l1, y1, z1⟩, st1⟩ := X0.specialBack hx (y := own_y29) rfl hown (mvT hZ (W_ 184 rfl)) (mvT hZ (W_ 185 rfl)) (mvT hZ (W_ 186 rfl)) (by decide) (backOf (W := 0) (rm_strasb l Z a0 hw [] a sb csz t kb h0 n0 O0 S_CS hcs Ea Fv Fc ga nes net Es Gv Gc Gn At) hZ (W_ 186 rfl) (W_ 6 rfl) (by decide) (by decide)) (g := (mkF m 3 #[rv a, rv sb] [.null, (.ref sb), (.ref a)])) rfl (by rw [hml]; rfl) (Steps.refl _) (a := a) (argsL := [(.ref sb), .null]) (rest := []) (lenOf pd__28Ljava_2flang_2fAbstractStringBuilder_3bLjava_2flang_2fVoid_3b_29V rfl) rfl (by show 2 * 0 + _ ≤ _; exact Nat.le_of_eq rfl) (hb hby d25_3) (fun _ _ => ⟨rfl, e0, (by decide : 0 + 1 ≤ _), (by decide : 0 + 0 ≤ _)⟩)
  dsimp only [Pt.U, Pt.locs, Pt.cells, Pt.slots] at X1 l1 y1 z1 st1 hQ1
  subst l1 y1 z1
  obtain ⟨b2, x3, rfl, Nq1, P4, P5, P6, P7, P8, P9⟩ := hQ1
  have N1 := Fr.app N0 Nq1
  have ne10 : a ≠ b2 := Nat.ne_of_lt (Nat.lt_of_lt_of_le Ea.lt P5)
  have ne11 : sb ≠ b2 := Nat.ne_of_lt (Nat.lt_of_lt_of_le Es.lt P5)
  have ne12 : t ≠ b2 := Nat.ne_of_lt (Nat.lt_of_lt_of_le At.lt P5)
  have g13 : n0 ≤ b2 := Nat.le_trans O0.le P5
  have z14 : h0.size ≤ b2 := Nat.le_trans K0.1 P5
  have F15 := Ea.keep P4
  have F16 := Es.keep P4
  have F17 := Gv.keep P4 (ninS (Ne.symm nes) nin0)
  have F18 := Gc.keep P4 (ninS (Ne.symm nes) nin0)
  have F19 := Gn.keep P4 (ninS (Ne.symm nes) nin0)
  have F20 := At.keep P4 (ninS (Ne.symm net) nin0)
  have O21 := O0.keep P4 (allS ga all0)
  have K22 := K0.trans P4 (allS (Or.inl (List.mem_of_getElem? (i := 0) rfl)) all0)
  refine own_G.st (T' := T1) 6 [] (fun _ kq => st1.trans kq) ?_
  exact own_ret X1 rfl (v := none) (fun _ => rfl) Bd.notSynchronized ⟨b2, x3, rfl, N1, K22, z14, P6, P7, P8, P9⟩ (by decide) (by decide) (fun fs hr => X1.returnOut hx Bd.returns (hb hby d25_6) hr)
theorem pd__28Ljava_2flang_2fStringBuilder_3b_29V : parseMethodDescriptor "(Ljava/lang/StringBuilder;)V" = some ⟨[(.object "java/lang/StringBuilder")], none⟩ := by decide +kernel
theorem d24_0 : decode jdk_67_method_42_code 0 = .ok (.new 18, 3) := by decide +kernel
theorem d24_3 : decode jdk_67_method_42_code 3 = .ok (.dup, 1) := by decide +kernel
theorem d24_4 : decode jdk_67_method_42_code 4 = .ok (.aload_n 0, 1) := by decide +kernel
theorem d24_5 : decode jdk_67_method_42_code 5 = .ok (.invokespecial 137, 3) := by decide +kernel
theorem d24_8 : decode jdk_67_method_42_code 8 = .ok (.areturn, 1) := by decide +kernel
theorem ef_sbstr (m : MethodId) (sb : Addr) : entryFrame m #[(.ref sb)] 1 = mkF m 0 #[rv sb] [] := by
  first | (simp [entryFrame, mkF, argsToLocals, Value.category]; done) | rfl
def Q_sbstr (Z : State) (sb : Addr) (csz : Int32) (t : Addr) (kb : ClassId) (h0 : Heap) (n0 : Nat) (v : Option Value) (h : Heap) (L : List Loc) : Prop := ∃ (q : Addr), ∃ (r : Addr), ∃ (kr : ClassId), v = some (.ref q) ∧ Fr n0 L ∧ Keep h0 h [] ∧ h0.size ≤ q ∧ h0.size ≤ r ∧ Exa Z h q "java/lang/String" ∧ Fld Z h q "java/lang/String" "value" "[B" (.ref r) ∧ Fld Z h q "java/lang/String" "coder" "B" (.int 0) ∧ Arv Z h r kr .byte (0 : Int32) [] (.int 0)
set_option maxRecDepth 65536 in
set_option maxHeartbeats 40000000 in
theorem rm_sbstr (l : Launch) (Z : State) (a0 : Array Value) (hw : ∀ d ∈ tables_1, d.before a0 Z = true) (ws : List Jvm.Cond) (sb : Addr) (csz : Int32) (t : Addr) (kb : ClassId) (h0 : Heap) (n0 : Nat) (O0 : Old Z n0 h0) (S_CS : Sta Z Z.heap "java/lang/String" "COMPACT_STRINGS" "Z" (.int csz)) (hcs : ¬ csz = (0 : Int32)) (Es : Exa Z h0 sb "java/lang/StringBuilder") (Gv : Fld Z h0 sb "java/lang/AbstractStringBuilder" "value" "[B" (.ref t)) (Gc : Fld Z h0 sb "java/lang/AbstractStringBuilder" "coder" "B" (.int 0)) (Gn : Fld Z h0 sb "java/lang/AbstractStringBuilder" "count" "I" (.int 0)) (At : Arv Z h0 t kb .byte (16 : Int32) [(.int 0), (.int 0), (.int 0), (.int 0), (.int 0), (.int 0), (.int 0), (.int 0), (.int 0), (.int 0), (.int 0), (.int 0), (.int 0), (.int 0), (.int 0), (.int 0)] (.int 0)) :
    MetFree l own_y31 (head1 (Jvm.Cond.code own_y31 jdk_67_method_42_code 1 (some (.object "java/lang/String")) :: ws) ({ frames := 5, cells := 2, slots := 4, locals := 79 } : Room)) (fun aq_ Uq_ => aq_ = #[(.ref sb)] ∧ Z.Warmed39 Uq_.vm ∧ Uq_.heap = h0) (fun _ _ _ _ _ => True) (fun _ Uq_ oq_ Ur_ => ∃ vq_ Lq_, oq_ = .returned vq_ ∧ Q_sbstr Z sb csz t kb h0 n0 vq_ Ur_.heap Lq_ ∧ FrameEnd Uq_ oq_ Ur_ Lq_ ({ frames := 5, cells := 2, slots := 4, locals := 79 } : Room).cells ({ frames := 5, cells := 2, slots := 4, locals := 79 } : Room).slots) := by
  refine MetFree.of_bodySF (plainFor_of_name pn_java_2flang_2fStringBuilder) hisR ?_
  intro p e s m args below meth c s₁ Bd hml0 hP hK
  obtain ⟨rfl, hZ, hh⟩ := hP
  have W_ : ∀ {d : Jvm.Cond} (i : Nat), tables_1[i]? = some d → d.before a0 Z = true := fun i h => hw _ (List.mem_of_getElem? h)
  have hx := Bd.exec
  have hby := Bd.bytes
  have hml : c.maxLocals = 1 := hml0
  have hown : s.vm.findClass "java/lang/StringBuilder" = some m.cls := findClass_of_methodNamed Bd.named
  have hnm := (name_of_methodNamed Bd.named Bd.method).1
  have X0 : Stand p l e ({ frames := 5, cells := 2, slots := 4, locals := 79 } : Room) s m #[(.ref sb)] below meth c s₁ [] 0 0 := Stand.of_body Bd
  have e0 : s₁.heap = h0 := by rw [← hh, Bd.state]; rfl
  have N0 := Fr.nil n0
  have K0 := Keep.refl h0 []
  refine own_G.start (Q := Q_sbstr Z sb csz t kb h0 n0) (ef_sbstr m sb) ?_
  obtain ⟨T1, h1, X1, e1, E1, A1, D1, -, st1⟩ := newO X0 hx hZ hown (W_ 180 rfl) (W_ 5 rfl) (W_ 6 rfl) e0 (g := (mkF m 0 #[rv sb] [])) rfl (hb hby d24_0) (by decide) (by decide)
  obtain ⟨b1, g1⟩ : ∃ z, z = h0.size := ⟨_, rfl⟩
  rw [← g1] at A1 D1 st1
  have ne2 : sb ≠ b1 := Nat.ne_of_lt (Nat.lt_of_lt_of_le Es.lt (Nat.le_of_eq g1.symm))
  have ne3 : t ≠ b1 := Nat.ne_of_lt (Nat.lt_of_lt_of_le At.lt (Nat.le_of_eq g1.symm))
  have g4 : n0 ≤ b1 := Nat.le_trans O0.le (Nat.le_of_eq g1.symm)
  have z5 : h0.size ≤ b1 := Nat.le_trans K0.1 (Nat.le_of_eq g1.symm)
  have F6 := Es.ext E1
  have F7 := Gv.ext E1
  have F8 := Gc.ext E1
  have F9 := Gn.ext E1
  have F10 := At.ext E1
  have O11 := O0.ext E1
  have K12 := K0.ext E1
  have F13 : Fld Z h1 b1 "java/lang/String" "value" "[B" .null := D1 (Or.inr (W_ 20 rfl)) (ty := (.array .byte)) (by decide)
  have F14 : Fld Z h1 b1 "java/lang/String" "coder" "B" (.int 0) := D1 (Or.inr (W_ 21 rfl)) (ty := .byte) (by decide)
  refine own_G.st (T' := T1) 3 [(.ref b1)] st1 ?_
  refine own_G.sk 4 [(.ref b1), (.ref b1)] (fun _ kq => XS.dup X1.here hx rfl (hb hby d24_3) rfl rfl kq) ?_
  refine own_G.sk 5 [(.ref sb), (.ref b1), (.ref b1)] (fun _ kq => XS.aloadN X1.here hx rfl (hb hby d24_4) rfl rfl kq) ?_
  obtain ⟨_, _, ⟨T15, L15, k15, n15⟩, -, X15, ⟨Lc15, hQ15, l15, y15, z15⟩, st15⟩ := X1.specialBack hx (y := own_y30) rfl hown (mvT hZ (W_ 181 rfl)) (mvT hZ (W_ 182 rfl)) (mvT hZ (W_ 183 rfl)) (by decide) (backOf (W := 1) (rm_strsb l Z a0 hw [] b1 sb csz t kb h1 n0 O11 S_CS hcs A1 F13 F14 g4 (Ne.symm ne2) (Ne.symm ne3) F6 F7 F8 F9 F10) hZ (W_ 183 rfl) (W_ 6 rfl) (by decide) (by decide)) (g := (mkF m 5 #[rv sb] [(.ref sb), (.ref b1), (.ref b1)])) rfl (by rw [hml]; rfl) (Steps.refl _) (a := b1) (argsL := [(.ref sb)]) (rest := [(.ref b1)]) (lenOf pd__28Ljava_2flang_2fStringBuilder_3b_29V rfl) rfl (by show 2 * 0 + _ ≤ _; exact Nat.le_of_eq rfl) (hb hby d24_5) (fun _ _ => ⟨rfl, e1, (by decide : 1 + 1 ≤ _), (by decide : 4 + 0 ≤ _)⟩)
  dsimp only [Pt.U, Pt.locs, Pt.cells, Pt.slots] at X15 l15 y15 z15 st15 hQ15
  subst l15 y15 z15
  obtain ⟨b16, x17, rfl, Nq15, P18, P19, P20, P21, P22, P23⟩ := hQ15
  have N15 := Fr.app N0 Nq15
  have ne24 : sb ≠ b16 := Nat.ne_of_lt (Nat.lt_of_lt_of_le F6.lt P19)
  have ne25 : t ≠ b16 := Nat.ne_of_lt (Nat.lt_of_lt_of_le F10.lt P19)
  have ne26 : b1 ≠ b16 := Nat.ne_of_lt (Nat.lt_of_lt_of_le A1.lt P19)
  have g27 : n0 ≤ b16 := Nat.le_trans O11.le P19
  have z28 : h0.size ≤ b16 := Nat.le_trans K12.1 P19
  have F29 := F6.keep P18
  have F30 := F7.keep P18 (ninS ne2 nin0)
  have F31 := F8.keep P18 (ninS ne2 nin0)
  have F32 := F9.keep P18 (ninS ne2 nin0)
  have F33 := F10.keep P18 (ninS ne3 nin0)
  have F34 := A1.keep P18
  have O35 := O11.keep P18 (allS g4 all0)
  have K36 := K12.trans P18 (allS (Or.inr z5) all0)
  refine own_G.st (T' := T15) 8 [(.ref b1)] (fun _ kq => st15.trans kq) ?_
  exact own_ret X15 rfl (v := some (.ref b1)) (fun h => by rw [Bd.returns] at h; cases h) Bd.notSynchronized ⟨b1, b16, x17, rfl, N15, K36, z5, z28, P20, P21, P22, P23⟩ (by decide) (by decide) (fun fs hr => own_retR X15 hx Bd.returns rfl rfl (hb hby d24_8) hr)
theorem pd__28Ljava_2futil_2fList_3b_29V : parseMethodDescriptor "(Ljava/util/List;)V" = some ⟨[(.object "java/util/List")], none⟩ := by decide +kernel
theorem pd__28_29Ljava_2futil_2fIterator_3b : parseMethodDescriptor "()Ljava/util/Iterator;" = some ⟨[], some (.object "java/util/Iterator")⟩ := by decide +kernel
theorem pd__28_29Ljava_2flang_2fString_3b : parseMethodDescriptor "()Ljava/lang/String;" = some ⟨[], some (.object "java/lang/String")⟩ := by decide +kernel
theorem d13_0 : decode prog_32_method_7_code 0 = .ok (.new 47, 3) := by decide +kernel
theorem d13_3 : decode prog_32_method_7_code 3 = .ok (.dup, 1) := by decide +kernel
theorem d13_4 : decode prog_32_method_7_code 4 = .ok (.invokespecial 49, 3) := by decide +kernel
theorem d13_7 : decode prog_32_method_7_code 7 = .ok (.astore_n 1, 1) := by decide +kernel
theorem d13_8 : decode prog_32_method_7_code 8 = .ok (.aload_n 0, 1) := by decide +kernel
theorem d13_9 : decode prog_32_method_7_code 9 = .ok (.astore_n 2, 1) := by decide +kernel
theorem d13_10 : decode prog_32_method_7_code 10 = .ok (.aload_n 2, 1) := by decide +kernel
theorem d13_11 : decode prog_32_method_7_code 11 = .ok (.getfield 13, 3) := by decide +kernel
theorem d13_14 : decode prog_32_method_7_code 14 = .ok (.ifnull 19, 3) := by decide +kernel
theorem d13_33 : decode prog_32_method_7_code 33 = .ok (.aload_n 1, 1) := by decide +kernel
theorem d13_34 : decode prog_32_method_7_code 34 = .ok (.invokestatic 56, 3) := by decide +kernel
theorem d13_37 : decode prog_32_method_7_code 37 = .ok (.new 62, 3) := by decide +kernel
theorem d13_40 : decode prog_32_method_7_code 40 = .ok (.dup, 1) := by decide +kernel
theorem d13_41 : decode prog_32_method_7_code 41 = .ok (.invokespecial 64, 3) := by decide +kernel
theorem d13_44 : decode prog_32_method_7_code 44 = .ok (.astore_n 2, 1) := by decide +kernel
theorem d13_45 : decode prog_32_method_7_code 45 = .ok (.aload_n 1, 1) := by decide +kernel
theorem d13_46 : decode prog_32_method_7_code 46 = .ok (.invokeinterface 65 1, 5) := by decide +kernel
theorem d13_51 : decode prog_32_method_7_code 51 = .ok (.astore_n 3, 1) := by decide +kernel
theorem d13_52 : decode prog_32_method_7_code 52 = .ok (.aload_n 3, 1) := by decide +kernel
theorem d13_53 : decode prog_32_method_7_code 53 = .ok (.invokeinterface 69 1, 5) := by decide +kernel
theorem d13_58 : decode prog_32_method_7_code 58 = .ok (.ifCond .eq 119, 3) := by decide +kernel
theorem d13_177 : decode prog_32_method_7_code 177 = .ok (.aload_n 2, 1) := by decide +kernel
theorem d13_178 : decode prog_32_method_7_code 178 = .ok (.invokevirtual 102, 3) := by decide +kernel
theorem d13_181 : decode prog_32_method_7_code 181 = .ok (.areturn, 1) := by decide +kernel
theorem ef_loc (m : MethodId) (a : Addr) : entryFrame m #[(.ref a)] 5 = mkF m 0 #[rv a, .unset, .unset, .unset, .unset] [] := by
  first | (simp [entryFrame, mkF, argsToLocals, Value.category]; done) | rfl
def Q_loc (Z : State) (a : Addr) (csz : Int32) (dc : Addr) (h0 : Heap) (n0 : Nat) (v : Option Value) (h : Heap) (L : List Loc) : Prop := ∃ (q : Addr), ∃ (t : Addr), v = some (.ref q) ∧ Fr n0 L ∧ Keep h0 h [] ∧ h0.size ≤ q ∧ Exa Z h q "java/lang/String" ∧ Fld Z h q "java/lang/String" "value" "[B" (.ref t) ∧ own_Len Z h t (0 : Int32)
set_option maxRecDepth 65536 in
set_option maxHeartbeats 40000000 in
theorem rm_loc (l : Launch) (Z : State) (a0 : Array Value) (hw : ∀ d ∈ tables_1, d.before a0 Z = true) (ws : List Jvm.Cond) (a : Addr) (csz : Int32) (dc : Addr) (h0 : Heap) (n0 : Nat) (O0 : Old Z n0 h0) (S_CS : Sta Z Z.heap "java/lang/String" "COMPACT_STRINGS" "Z" (.int csz)) (hcs : ¬ csz = (0 : Int32)) (S_DC : Sta Z Z.heap "java/util/ArrayList" "DEFAULTCAPACITY_EMPTY_ELEMENTDATA" "[Ljava/lang/Object;" (.ref dc)) (Ea : Exa Z h0 a "com/example/concordant/concordant/rules/SchemaPairs$SchemaPair") (Fh : Fld Z h0 a "com/example/concordant/concordant/rules/SchemaPairs$SchemaPair" "holder" "Lcom/example/concordant/concordant/rules/SchemaPairs$SchemaPair;" .null) :
    MetFree l own_y32 (head1 (Jvm.Cond.code own_y32 prog_32_method_7_code 5 (some (.object "java/lang/String")) :: ws) ({ frames := 6, cells := 6, slots := 31, locals := 91 } : Room)) (fun aq_ Uq_ => aq_ = #[(.ref a)] ∧ Z.Warmed39 Uq_.vm ∧ Uq_.heap = h0) (fun _ _ _ _ _ => True) (fun _ Uq_ oq_ Ur_ => ∃ vq_ Lq_, oq_ = .returned vq_ ∧ Q_loc Z a csz dc h0 n0 vq_ Ur_.heap Lq_ ∧ FrameEnd Uq_ oq_ Ur_ Lq_ ({ frames := 6, cells := 6, slots := 31, locals := 91 } : Room).cells ({ frames := 6, cells := 6, slots := 31, locals := 91 } : Room).slots) := by
  refine MetFree.of_bodySF (plainFor_of_name pn_com_2fexample_2fconcordant_2fconcordant_2frules_2fSchemaPairs_24SchemaPair) hisR ?_
  intro p e s m args below meth c s₁ Bd hml0 hP hK
  obtain ⟨rfl, hZ, hh⟩ := hP
  have W_ : ∀ {d : Jvm.Cond} (i : Nat), tables_1[i]? = some d → d.before a0 Z = true := fun i h => hw _ (List.mem_of_getElem? h)
  have hx := Bd.exec
  have hby := Bd.bytes
  have hml : c.maxLocals = 5 := hml0
  have hown : s.vm.findClass "com/example/concordant/concordant/rules/SchemaPairs$SchemaPair" = some m.cls := findClass_of_methodNamed Bd.named
  have hnm := (name_of_methodNamed Bd.named Bd.method).1
  have X0 : Stand p l e ({ frames := 6, cells := 6, slots := 31, locals := 91 } : Room) s m #[(.ref a)] below meth c s₁ [] 0 0 := Stand.of_body Bd
  have e0 : s₁.heap = h0 := by rw [← hh, Bd.state]; rfl
  have N0 := Fr.nil n0
  have K0 := Keep.refl h0 []
  refine own_G.start (Q := Q_loc Z a csz dc h0 n0) (ef_loc m a) ?_
  obtain ⟨T1, h1, X1, e1, E1, A1, D1, -, st1⟩ := newO X0 hx hZ hown (W_ 82 rfl) (W_ 83 rfl) (W_ 84 rfl) e0 (g := (mkF m 0 #[rv a, .unset, .unset, .unset, .unset] [])) rfl (hb hby d13_0) (by decide) (by decide)
  obtain ⟨b1, g1⟩ : ∃ z, z = h0.size := ⟨_, rfl⟩
  rw [← g1] at A1 D1 st1
  have ne2 : a ≠ b1 := Nat.ne_of_lt (Nat.lt_of_lt_of_le Ea.lt (Nat.le_of_eq g1.symm))
  have g3 : n0 ≤ b1 := Nat.le_trans O0.le (Nat.le_of_eq g1.symm)
  have z4 : h0.size ≤ b1 := Nat.le_trans K0.1 (Nat.le_of_eq g1.symm)
  have F5 := Ea.ext E1
  have F6 := Fh.ext E1
  have O7 := O0.ext E1
  have K8 := K0.ext E1
  have F9 : Fld Z h1 b1 "java/util/AbstractList" "modCount" "I" (.int 0) := D1 (Or.inl (W_ 102 rfl)) (ty := .int) (by decide)
  have F10 : Fld Z h1 b1 "java/util/ArrayList" "elementData" "[Ljava/lang/Object;" .null := D1 (Or.inl (W_ 105 rfl)) (ty := (.array (.object "java/lang/Object"))) (by decide)
  have F11 : Fld Z h1 b1 "java/util/ArrayList" "size" "I" (.int 0) := D1 (Or.inl (W_ 120 rfl)) (ty := .int) (by decide)
  refine own_G.st (T' := T1) 3 [(.ref b1)] st1 ?_
  refine own_G.sk 4 [(.ref b1), (.ref b1)] (fun _ kq => XS.dup X1.here hx rfl (hb hby d13_3) rfl rfl kq) ?_
  obtain ⟨_, _, ⟨T12, L12, k12, n12⟩, -, X12, ⟨Lc12, hQ12, l12, y12, z12⟩, st12⟩ := X1.specialBack hx (y := own_y12) rfl hown (mvT hZ (W_ 85 rfl)) (mvT hZ (W_ 86 rfl)) (mvT hZ (W_ 87 rfl)) (by decide) (backOf (W := 1) (rm_alinit l Z a0 hw [] b1 dc h1 n0 O7 S_DC A1 F9 F10 F11 g3) hZ (W_ 87 rfl) (W_ 84 rfl) (by decide) (by decide)) (g := (mkF m 4 #[rv a, .unset, .unset, .unset, .unset] [(.ref b1), (.ref b1)])) rfl (by rw [hml]; rfl) (Steps.refl _) (a := b1) (argsL := []) (rest := [(.ref b1)]) (lenOf pd__28_29V rfl) rfl (by show 2 * 0 + _ ≤ _; exact Nat.le_of_eq rfl) (hb hby d13_4) (fun _ _ => ⟨rfl, e1, (by decide : 1 + 0 ≤ _), (by decide : 3 + 0 ≤ _)⟩)
  dsimp only [Pt.U, Pt.locs, Pt.cells, Pt.slots] at X12 l12 y12 z12 st12 hQ12
  subst l12 y12 z12
  obtain ⟨rfl, Nq12, P13, P14, P15, P16⟩ := hQ12
  have N12 := Fr.app N0 Nq12
  have F17 := F5.keep P13
  have F18 := F6.keep P13 (ninS ne2 nin0)
  have F19 := A1.keep P13
  have O20 := O7.keep P13 (allS g3 all0)
  have K21 := K8.trans P13 (allS (Or.inr z4) all0)
  refine own_G.st (T' := T12) 7 [(.ref b1)] (fun _ kq => st12.trans kq) ?_
  refine own_G.si 8 [] (fun _ kq => XS.astoreN X12.here hx rfl (hb hby d13_7) rfl rfl (l' := #[rv a, rv b1, .unset, .unset, .unset]) rfl kq) ?_
  refine own_G.sk 9 [(.ref a)] (fun _ kq => XS.aloadN X12.here hx rfl (hb hby d13_8) rfl rfl kq) ?_
  refine own_G.si 10 [] (fun _ kq => XS.astoreN X12.here hx rfl (hb hby d13_9) rfl rfl (l' := #[rv a, rv b1, rv a, .unset, .unset]) rfl kq) ?_
  refine own_G.sk 11 [(.ref a)] (fun _ kq => XS.aloadN X12.here hx rfl (hb hby d13_10) rfl rfl kq) ?_
  obtain ⟨T22, X22, e22, st22⟩ := getF X12 hx hZ hown (host := "") (Or.inl (W_ 53 rfl)) Via.refl rfl F18 (g := (mkF m 11 #[rv a, rv b1, rv a, .unset, .unset] [(.ref a)])) rfl rfl (hb hby d13_11)
  refine own_G.st (T' := T22) 14 [.null] st22 ?_
  refine own_G.sk 33 [] (fun _ kq => XS.ifnullYes X22.here hx rfl (pc0 := 14) (pc' := 33) rfl (hb hby d13_14) rfl (by decide) (by decide) kq) ?_
  refine own_G.sk 34 [(.ref b1)] (fun _ kq => XS.aloadN X22.here hx rfl (hb hby d13_33) rfl rfl kq) ?_
  obtain ⟨_, _, ⟨T23, L23, k23, n23⟩, -, X23, ⟨Lc23, hQ23, l23, y23, z23⟩, st23⟩ := Jvm.LawKit.callS X22 hx (y := own_y14) hown (mvT hZ (W_ 106 rfl)) (mvT hZ (W_ 107 rfl)) (mvT hZ (W_ 108 rfl)) (mvT hZ (W_ 109 rfl)) (by decide) (backOf (W := 0) (rm_reverse l Z a0 hw [] b1 T12.heap n0 O20 P14 P16) hZ (W_ 109 rfl) (W_ 108 rfl) (by decide) (by decide)) (g := (mkF m 34 #[rv a, rv b1, rv a, .unset, .unset] [(.ref b1)])) rfl (by rw [hml]; rfl) (argsL := [(.ref b1)]) (rest := []) (lenOf pd__28Ljava_2futil_2fList_3b_29V rfl) rfl (by show 2 * 0 + _ ≤ _; exact Nat.le_of_eq rfl) (hb hby d13_34) (fun _ _ => ⟨rfl, e22, (by decide : 1 + 0 ≤ _), (by decide : 3 + 0 ≤ _)⟩)
  dsimp only [Pt.U, Pt.locs, Pt.cells, Pt.slots] at X23 l23 y23 z23 st23 hQ23
  subst l23 y23 z23
  obtain ⟨rfl, Nq23, P24⟩ := hQ23
  have N23 := Fr.app N12 Nq23
  refine own_G.st (T' := T23) 37 [] (fun _ kq => st23 _ kq) ?_
  obtain ⟨T25, h25, X25, e25, E25, A25, D25, -, st25⟩ := newO X23 hx hZ hown (W_ 121 rfl) (W_ 122 rfl) (W_ 123 rfl) P24 (g := (mkF m 37 #[rv a, rv b1, rv a, .unset, .unset] [])) rfl (hb hby d13_37) (by decide) (by decide)
  obtain ⟨b25, g25⟩ : ∃ z, z = T12.heap.size := ⟨_, rfl⟩
  rw [← g25] at A25 D25 st25
  have ne26 : a ≠ b25 := Nat.ne_of_lt (Nat.lt_of_lt_of_le F17.lt (Nat.le_of_eq g25.symm))
  have ne27 : b1 ≠ b25 := Nat.ne_of_lt (Nat.lt_of_lt_of_le P14.lt (Nat.le_of_eq g25.symm))
  have g28 : n0 ≤ b25 := Nat.le_trans O20.le (Nat.le_of_eq g25.symm)
  have z29 : h0.size ≤ b25 := Nat.le_trans K21.1 (Nat.le_of_eq g25.symm)
  have F30 := F17.ext E25
  have F31 := F18.ext E25
  have F32 := P14.ext E25
  have F33 := P15.ext E25
  have F34 := P16.ext E25
  have O35 := O20.ext E25
  have K36 := K21.ext E25
  have F37 : Fld Z h25 b25 "java/lang/AbstractStringBuilder" "value" "[B" .null := D25 (Or.inl (W_ 136 rfl)) (ty := (.array .byte)) (by decide)
  have F38 : Fld Z h25 b25 "java/lang/AbstractStringBuilder" "coder" "B" (.int 0) := D25 (Or.inl (W_ 138 rfl)) (ty := .byte) (by decide)
  have F39 : Fld Z h25 b25 "java/lang/AbstractStringBuilder" "count" "I" (.int 0) := D25 (Or.inl (W_ 202 rfl)) (ty := .int) (by decide)
  refine own_G.st (T' := T25) 40 [(.ref b25)] st25 ?_
  refine own_G.sk 41 [(.ref b25), (.ref b25)] (fun _ kq => XS.dup X25.here hx rfl (hb hby d13_40) rfl rfl kq) ?_
  obtain ⟨_, _, ⟨T40, L40, k40, n40⟩, -, X40, ⟨Lc40, hQ40, l40, y40, z40⟩, st40⟩ := X25.specialBack hx (y := own_y20) rfl hown (mvT hZ (W_ 124 rfl)) (mvT hZ (W_ 125 rfl)) (mvT hZ (W_ 126 rfl)) (by decide) (backOf (W := 1) (rm_sbinit l Z a0 hw [] b25 csz h25 n0 O35 S_CS hcs A25 F37 F38 F39 g28) hZ (W_ 126 rfl) (W_ 123 rfl) (by decide) (by decide)) (g := (mkF m 41 #[rv a, rv b1, rv a, .unset, .unset] [(.ref b25), (.ref b25)])) rfl (by rw [hml]; rfl) (Steps.refl _) (a := b25) (argsL := []) (rest := [(.ref b25)]) (lenOf pd__28_29V rfl) rfl (by show 2 * 0 + _ ≤ _; exact Nat.le_of_eq rfl) (hb hby d13_41) (fun _ _ => ⟨rfl, e25, (by decide : 2 + 1 ≤ _), (by decide : 7 + 16 ≤ _)⟩)
  dsimp only [Pt.U, Pt.locs, Pt.cells, Pt.slots] at X40 l40 y40 z40 st40 hQ40
  subst l40 y40 z40
  obtain ⟨b41, x42, rfl, Nq40, P43, P44, P45, P46, P47, P48, P49⟩ := hQ40
  have N40 := Fr.app N23 Nq40
  have ne50 : a ≠ b41 := Nat.ne_of_lt (Nat.lt_of_lt_of_le F30.lt P44)
  have ne51 : b1 ≠ b41 := Nat.ne_of_lt (Nat.lt_of_lt_of_le F32.lt P44)
  have ne52 : b25 ≠ b41 := Nat.ne_of_lt (Nat.lt_of_lt_of_le A25.lt P44)
  have g53 : n0 ≤ b41 := Nat.le_trans O35.le P44
  have z54 : h0.size ≤ b41 := Nat.le_trans K36.1 P44
  have F55 := F30.keep P43
  have F56 := F31.keep P43 (ninS ne26 nin0)
  have F57 := F32.keep P43
  have F58 := F33.keep P43 (ninS ne27 nin0)
  have F59 := F34.keep P43 (ninS ne27 nin0)
  have F60 := A25.keep P43
  have O61 := O35.keep P43 (allS g28 all0)
  have K62 := K36.trans P43 (allS (Or.inr z29) all0)
  refine own_G.st (T' := T40) 44 [(.ref b25)] (fun _ kq => st40.trans kq) ?_
  refine own_G.si 45 [] (fun _ kq => XS.astoreN X40.here hx rfl (hb hby d13_44) rfl rfl (l' := #[rv a, rv b1, rv b25, .unset, .unset]) rfl kq) ?_
  refine own_G.sk 46 [(.ref b1)] (fun _ kq => XS.aloadN X40.here hx rfl (hb hby d13_45) rfl rfl kq) ?_
  obtain ⟨cq63, kq63, q63a, q63b, q63c⟩ := isOf hZ rfl F57
  obtain ⟨_, _, ⟨T63, L63, k63, n63⟩, -, X63, ⟨Lc63, hQ63, l63, y63, z63⟩, st63⟩ := X40.interfaceBack hx (xi := (⟨"java/util/List", "iterator", "()Ljava/util/Iterator;"⟩ : MethodName)) (y := own_y17) hown (mvT hZ (W_ 139 rfl)) (mvT hZ (W_ 140 rfl)) (mvT hZ (W_ 141 rfl)) (mvT hZ (W_ 142 rfl)) (mvT hZ (W_ 143 rfl)) (mvT hZ (W_ 144 rfl)) (mvT hZ (W_ 145 rfl)) (mvT hZ (W_ 117 rfl)) (by decide) (backOf (W := 0) (rm_aliter l Z a0 hw [] b1 T40.heap n0 O61 F58) hZ (W_ 146 rfl) (W_ 84 rfl) (by decide) (by decide)) q63a q63b q63c (g := (mkF m 46 #[rv a, rv b1, rv b25, .unset, .unset] [(.ref b1)])) rfl (by rw [hml]; rfl) (Steps.refl _) (argsL := []) (rest := []) (lenOf pd__28_29Ljava_2futil_2fIterator_3b rfl) rfl (by show 2 * 0 + _ ≤ _; exact Nat.le_of_eq rfl) (hb hby d13_46) (fun _ _ => ⟨rfl, rfl, (by decide : 3 + 1 ≤ _), (by decide : 23 + 4 ≤ _)⟩)
  dsimp only [Pt.U, Pt.locs, Pt.cells, Pt.slots] at X63 l63 y63 z63 st63 hQ63
  subst l63 y63 z63
  obtain ⟨b64, rfl, Nq63, P65, P66, P67, P68, P69⟩ := hQ63
  have N63 := Fr.app N40 Nq63
  have ne70 : a ≠ b64 := Nat.ne_of_lt (Nat.lt_of_lt_of_le F55.lt P66)
  have ne71 : b1 ≠ b64 := Nat.ne_of_lt (Nat.lt_of_lt_of_le F57.lt P66)
  have ne72 : b25 ≠ b64 := Nat.ne_of_lt (Nat.lt_of_lt_of_le P45.lt P66)
  have ne73 : b41 ≠ b64 := Nat.ne_of_lt (Nat.lt_of_lt_of_le P49.lt P66)
  have g74 : n0 ≤ b64 := Nat.le_trans O61.le P66
  have z75 : h0.size ≤ b64 := Nat.le_trans K62.1 P66
  have F76 := F55.keep P65
  have F77 := F56.keep P65 nin0
  have F78 := F57.keep P65
  have F79 := F58.keep P65 nin0
  have F80 := F59.keep P65 nin0
  have F81 := P45.keep P65
  have F82 := P46.keep P65 nin0
  have F83 := P47.keep P65 nin0
  have F84 := P48.keep P65 nin0
  have F85 := P49.keep P65 nin0
  have O86 := O61.keep P65 all0
  have K87 := K62.trans P65 all0
  refine own_G.st (T' := T63) 51 [(.ref b64)] (fun _ kq => st63.trans kq) ?_
  refine own_G.si 52 [] (fun _ kq => XS.astoreN X63.here hx rfl (hb hby d13_51) rfl rfl (l' := #[rv a, rv b1, rv b25, rv b64, .unset]) rfl kq) ?_
  refine own_G.sk 53 [(.ref b64)] (fun _ kq => XS.aloadN X63.here hx rfl (hb hby d13_52) rfl rfl kq) ?_
  obtain ⟨cq88, kq88, q88a, q88b, q88c⟩ := isOf hZ rfl P67
  obtain ⟨_, _, ⟨T88, L88, k88, n88⟩, -, X88, ⟨Lc88, hQ88, l88, y88, z88⟩, st88⟩ := X63.interfaceBack hx (xi := (⟨"java/util/Iterator", "hasNext", "()Z"⟩ : MethodName)) (y := own_y18) hown (mvT hZ (W_ 163 rfl)) (mvT hZ (W_ 164 rfl)) (mvT hZ (W_ 165 rfl)) (mvT hZ (W_ 166 rfl)) (mvT hZ (W_ 167 rfl)) (mvT hZ (W_ 168 rfl)) (mvT hZ (W_ 169 rfl)) (mvT hZ (W_ 170 rfl)) (by decide) (backOf (W := 0) (rm_hasnext l Z a0 hw [] b64 b1 T63.heap n0 O86 P68 P69 F80) hZ (W_ 171 rfl) (W_ 149 rfl) (by decide) (by decide)) q88a q88b q88c (g := (mkF m 53 #[rv a, rv b1, rv b25, rv b64, .unset] [(.ref b64)])) rfl (by rw [hml]; rfl) (Steps.refl _) (argsL := []) (rest := []) (lenOf pd__28_29Z rfl) rfl (by show 2 * 0 + _ ≤ _; exact Nat.le_of_eq rfl) (hb hby d13_53) (fun _ _ => ⟨rfl, rfl, (by decide : 4 + 0 ≤ _), (by decide : 27 + 0 ≤ _)⟩)
  dsimp only [Pt.U, Pt.locs, Pt.cells, Pt.slots] at X88 l88 y88 z88 st88 hQ88
  subst l88 y88 z88
  obtain ⟨rfl, Nq88, P89⟩ := hQ88
  have N88 := Fr.app N63 Nq88
  refine own_G.st (T' := T88) 58 [(.int 0)] (fun _ kq => st88.trans kq) ?_
  have hc58 : (0 : Int32) = (0 : Int32) := (by decide)
  refine own_G.sk 177 [] (fun _ kq => XS.ifYes X88.here hx rfl (pc0 := 58) (pc' := 177) rfl (hb hby d13_58) rfl ((if0 _ _).trans (teq hc58).1) (by decide) (by decide) kq) ?_
  refine own_G.sk 178 [(.ref b25)] (fun _ kq => XS.aloadN X88.here hx rfl (hb hby d13_177) rfl rfl kq) ?_
  obtain ⟨cq90, kq90, q90a, q90b, q90c⟩ := isOf hZ P89 F81
  obtain ⟨_, _, ⟨T90, L90, k90, n90⟩, -, X90, ⟨Lc90, hQ90, l90, y90, z90⟩, st90⟩ := X88.virtualBack hx (y := own_y31) (z := own_y31) hown (mvT hZ (W_ 175 rfl)) (mvT hZ (W_ 176 rfl)) (notFace_of_selects (args := #[]) (mvT hZ (W_ 178 rfl))) (mvT hZ (W_ 178 rfl)) (mvT hZ (W_ 177 rfl)) (by decide) (backOf (W := 0) (rm_sbstr l Z a0 hw [] b25 csz b41 x42 T63.heap n0 O86 S_CS hcs F81 F82 F83 F84 F85) hZ (W_ 179 rfl) (W_ 123 rfl) (by decide) (by decide)) q90a q90c (g := (mkF m 178 #[rv a, rv b1, rv b25, rv b64, .unset] [(.ref b25)])) rfl (by rw [hml]; rfl) (Steps.refl _) (argsL := []) (rest := []) (lenOf pd__28_29Ljava_2flang_2fString_3b rfl) rfl (by show 2 * 0 + _ ≤ _; exact Nat.le_of_eq rfl) (hb hby d13_178) (fun _ _ => ⟨rfl, P89, (by decide : 4 + 2 ≤ _), (by decide : 27 + 4 ≤ _)⟩)
  dsimp only [Pt.U, Pt.locs, Pt.cells, Pt.slots] at X90 l90 y90 z90 st90 hQ90
  subst l90 y90 z90
  obtain ⟨b91, b92, x93, rfl, Nq90, P94, P95, P96, P97, P98, P99, P100⟩ := hQ90
  have N90 := Fr.app N88 Nq90
  have ne101 : a ≠ b91 := Nat.ne_of_lt (Nat.lt_of_lt_of_le F76.lt P95)
  have ne102 : b1 ≠ b91 := Nat.ne_of_lt (Nat.lt_of_lt_of_le F78.lt P95)
  have ne103 : b25 ≠ b91 := Nat.ne_of_lt (Nat.lt_of_lt_of_le F81.lt P95)
  have ne104 : b41 ≠ b91 := Nat.ne_of_lt (Nat.lt_of_lt_of_le F85.lt P95)
  have ne105 : b64 ≠ b91 := Nat.ne_of_lt (Nat.lt_of_lt_of_le P67.lt P95)
  have g106 : n0 ≤ b91 := Nat.le_trans O86.le P95
  have z107 : h0.size ≤ b91 := Nat.le_trans K87.1 P95
  have ne108 : a ≠ b92 := Nat.ne_of_lt (Nat.lt_of_lt_of_le F76.lt P96)
  have ne109 : b1 ≠ b92 := Nat.ne_of_lt (Nat.lt_of_lt_of_le F78.lt P96)
  have ne110 : b25 ≠ b92 := Nat.ne_of_lt (Nat.lt_of_lt_of_le F81.lt P96)
  have ne111 : b41 ≠ b92 := Nat.ne_of_lt (Nat.lt_of_lt_of_le F85.lt P96)
  have ne112 : b64 ≠ b92 := Nat.ne_of_lt (Nat.lt_of_lt_of_le P67.lt P96)
  have g113 : n0 ≤ b92 := Nat.le_trans O86.le P96
  have z114 : h0.size ≤ b92 := Nat.le_trans K87.1 P96
  have F115 := F76.keep P94
  have F116 := F77.keep P94 nin0
  have F117 := F78.keep P94
  have F118 := F79.keep P94 nin0
  have F119 := F80.keep P94 nin0
  have F120 := F81.keep P94
  have F121 := F82.keep P94 nin0
  have F122 := F83.keep P94 nin0
  have F123 := F84.keep P94 nin0
  have F124 := F85.keep P94 nin0
  have F125 := P67.keep P94
  have F126 := P68.keep P94 nin0
  have F127 := P69.keep P94 nin0
  have O128 := O86.keep P94 all0
  have K129 := K87.trans P94 all0
  refine own_G.st (T' := T90) 181 [(.ref b91)] (fun _ kq => st90.trans kq) ?_
  exact own_ret X90 rfl (v := some (.ref b91)) (fun h => by rw [Bd.returns] at h; cases h) Bd.notSynchronized ⟨b91, b92, rfl, N90, K129, z107, P97, P98, (own_Len.arv P100)⟩ (by decide) (by decide) (fun fs hr => own_retR X90 hx Bd.returns rfl rfl (hb hby d13_181) hr)
theorem d35_0 : decode prog_32_method_8_code 0 = .ok (.aload_n 1, 1) := by decide +kernel
theorem d35_1 : decode prog_32_method_8_code 1 = .ok (.invokevirtual 105, 3) := by decide +kernel
theorem d35_4 : decode prog_32_method_8_code 4 = .ok (.ifCond .eq 8, 3) := by decide +kernel
theorem d35_7 : decode prog_32_method_8_code 7 = .ok (.aload_n 0, 1) := by decide +kernel
theorem d35_8 : decode prog_32_method_8_code 8 = .ok (.getfield 7, 3) := by decide +kernel
theorem d35_11 : decode prog_32_method_8_code 11 = .ok (.areturn, 1) := by decide +kernel
theorem ef_subjat (m : MethodId) (a : Addr) (xs : Addr) : entryFrame m #[(.ref a), (.ref xs)] 2 = mkF m 0 #[rv a, rv xs] [] := by
  first | (simp [entryFrame, mkF, argsToLocals, Value.category]; done) | rfl
def Q_subjat (Z : State) (a : Addr) (xs : Addr) (pt : Addr) (t : Addr) (h0 : Heap) (n0 : Nat) (v : Option Value) (h : Heap) (L : List Loc) : Prop := v = some (.ref pt) ∧ Fr n0 L ∧ h = h0
set_option maxRecDepth 65536 in
set_option maxHeartbeats 40000000 in
theorem rm_subjat (l : Launch) (Z : State) (a0 : Array Value) (hw : ∀ d ∈ tables_1, d.before a0 Z = true) (ws : List Jvm.Cond) (a : Addr) (xs : Addr) (pt : Addr) (t : Addr) (h0 : Heap) (n0 : Nat) (O0 : Old Z n0 h0) (Fp : Fld Z h0 a "com/example/concordant/concordant/rules/SchemaPairs$SchemaPair" "part" "Ljava/lang/String;" (.ref pt)) (Es : Exa Z h0 xs "java/lang/String") (Sv : Fld Z h0 xs "java/lang/String" "value" "[B" (.ref t)) (LN : own_Len Z h0 t (0 : Int32)) :
    MetFree l own_y35 (head1 (Jvm.Cond.code own_y35 prog_32_method_8_code 2 (some (.object "java/lang/String")) :: ws) ({ frames := 1, cells := 0, slots := 0, locals := 12 } : Room)) (fun aq_ Uq_ => aq_ = #[(.ref a), (.ref xs)] ∧ Z.Warmed39 Uq_.vm ∧ Uq_.heap = h0) (fun _ _ _ _ _ => True) (fun _ Uq_ oq_ Ur_ => ∃ vq_ Lq_, oq_ = .returned vq_ ∧ Q_subjat Z a xs pt t h0 n0 vq_ Ur_.heap Lq_ ∧ FrameEnd Uq_ oq_ Ur_ Lq_ ({ frames := 1, cells := 0, slots := 0, locals := 12 } : Room).cells ({ frames := 1, cells := 0, slots := 0, locals := 12 } : Room).slots) := by
  refine MetFree.of_bodySF (plainFor_of_name pn_com_2fexample_2fconcordant_2fconcordant_2frules_2fSchemaPairs_24SchemaPair) hisR ?_
  intro p e s m args below meth c s₁ Bd hml0 hP hK
  obtain ⟨rfl, hZ, hh⟩ := hP
  have W_ : ∀ {d : Jvm.Cond} (i : Nat), tables_1[i]? = some d → d.before a0 Z = true := fun i h => hw _ (List.mem_of_getElem? h)
  have hx := Bd.exec
  have hby := Bd.bytes
  have hml : c.maxLocals = 2 := hml0
  have hown : s.vm.findClass "com/example/concordant/concordant/rules/SchemaPairs$SchemaPair" = some m.cls := findClass_of_methodNamed Bd.named
  have hnm := (name_of_methodNamed Bd.named Bd.method).1
  have X0 : Stand p l e ({ frames := 1, cells := 0, slots := 0, locals := 12 } : Room) s m #[(.ref a), (.ref xs)] below meth c s₁ [] 0 0 := Stand.of_body Bd
  have e0 : s₁.heap = h0 := by rw [← hh, Bd.state]; rfl
  have N0 := Fr.nil n0
  have K0 := Keep.refl h0 []
  refine own_G.start (Q := Q_subjat Z a xs pt t h0 n0) (ef_subjat m a xs) ?_
  refine own_G.sk 1 [(.ref xs)] (fun _ kq => XS.aloadN X0.here hx rfl (hb hby d35_0) rfl rfl kq) ?_
  obtain ⟨cq1, kq1, q1a, q1b, q1c⟩ := isOf hZ e0 Es
  obtain ⟨_, _, ⟨T1, L1, k1, n1⟩, -, X1, ⟨Lc1, hQ1, l1, y1, z1⟩, st1⟩ := X0.virtualBack hx (y := own_y0) (z := own_y0) hown (mvT hZ (W_ 230 rfl)) (mvT hZ (W_ 231 rfl)) (notFace_of_selects (args := #[]) (mvT hZ (W_ 233 rfl))) (mvT hZ (W_ 233 rfl)) (mvT hZ (W_ 232 rfl)) (by decide) (backOf (W := 0) (rm_isEmp l Z a0 hw [] xs t (0 : Int32) h0 n0 O0 Sv LN) hZ (W_ 234 rfl) (W_ 6 rfl) (by decide) (by decide)) q1a q1c (g := (mkF m 1 #[rv a, rv xs] [(.ref xs)])) rfl (by rw [hml]; rfl) (Steps.refl _) (argsL := []) (rest := []) (lenOf pd__28_29Z rfl) rfl (by show 2 * 0 + _ ≤ _; exact Nat.le_of_eq rfl) (hb hby d35_1) (fun _ _ => ⟨rfl, e0, (by decide : 0 + 0 ≤ _), (by decide : 0 + 0 ≤ _)⟩)
  dsimp only [Pt.U, Pt.locs, Pt.cells, Pt.slots] at X1 l1 y1 z1 st1 hQ1
  subst l1 y1 z1
  obtain ⟨rfl, Nq1, P2⟩ := hQ1
  have N1 := Fr.app N0 Nq1
  refine own_G.st (T' := T1) 4 [(.int (own_emp (0 : Int32)))] (fun _ kq => st1.trans kq) ?_
  have hc4 : ¬ ((own_emp (0 : Int32)) = (0 : Int32)) := (by decide)
  refine own_G.sk 7 [] (fun _ kq => XS.ifNo X1.here hx rfl (hb hby d35_4) rfl ((if0 _ _).trans (feq hc4).1) kq) ?_
  refine own_G.sk 8 [(.ref a)] (fun _ kq => XS.aloadN X1.here hx rfl (hb hby d35_7) rfl rfl kq) ?_
  obtain ⟨T3, X3, e3, st3⟩ := getF X1 hx hZ hown (host := "") (Or.inl (W_ 51 rfl)) Via.refl P2 Fp (g := (mkF m 8 #[rv a, rv xs] [(.ref a)])) rfl rfl (hb hby d35_8)
  refine own_G.st (T' := T3) 11 [(.ref pt)] st3 ?_
  exact own_ret X3 e3 (v := some (.ref pt)) (fun h => by rw [Bd.returns] at h; cases h) Bd.notSynchronized ⟨rfl, N1, rfl⟩ (by decide) (by decide) (fun fs hr => own_retR X3 hx Bd.returns rfl rfl (hb hby d35_11) hr)
theorem pd__28Ljava_2flang_2fString_3b_29Ljava_2flang_2fString_3b : parseMethodDescriptor "(Ljava/lang/String;)Ljava/lang/String;" = some ⟨[(.object "java/lang/String")], some (.object "java/lang/String")⟩ := by decide +kernel
theorem d12_0 : decode prog_32_method_5_code 0 = .ok (.aload_n 0, 1) := by decide +kernel
theorem d12_1 : decode prog_32_method_5_code 1 = .ok (.aload_n 0, 1) := by decide +kernel
theorem d12_2 : decode prog_32_method_5_code 2 = .ok (.invokevirtual 34, 3) := by decide +kernel
theorem d12_5 : decode prog_32_method_5_code 5 = .ok (.invokevirtual 38, 3) := by decide +kernel
theorem d12_8 : decode prog_32_method_5_code 8 = .ok (.areturn, 1) := by decide +kernel
theorem ef_subj0 (m : MethodId) (a : Addr) : entryFrame m #[(.ref a)] 1 = mkF m 0 #[rv a] [] := by
  first | (simp [entryFrame, mkF, argsToLocals, Value.category]; done) | rfl
def Q_subj0 (Z : State) (a : Addr) (csz : Int32) (dc : Addr) (pt : Addr) (h0 : Heap) (n0 : Nat) (v : Option Value) (h : Heap) (L : List Loc) : Prop := v = some (.ref pt) ∧ Fr n0 L ∧ Keep h0 h []
set_option maxRecDepth 65536 in
set_option maxHeartbeats 40000000 in
theorem rm_subj0 (l : Launch) (Z : State) (a0 : Array Value) (hw : ∀ d ∈ tables_1, d.before a0 Z = true) (ws : List Jvm.Cond) (a : Addr) (csz : Int32) (dc : Addr) (pt : Addr) (h0 : Heap) (n0 : Nat) (O0 : Old Z n0 h0) (S_CS : Sta Z Z.heap "java/lang/String" "COMPACT_STRINGS" "Z" (.int csz)) (hcs : ¬ csz = (0 : Int32)) (S_DC : Sta Z Z.heap "java/util/ArrayList" "DEFAULTCAPACITY_EMPTY_ELEMENTDATA" "[Ljava/lang/Object;" (.ref dc)) (Ea : Exa Z h0 a "com/example/concordant/concordant/rules/SchemaPairs$SchemaPair") (Fh : Fld Z h0 a "com/example/concordant/concordant/rules/SchemaPairs$SchemaPair" "holder" "Lcom/example/concordant/concordant/rules/SchemaPairs$SchemaPair;" .null) (Fp : Fld Z h0 a "com/example/concordant/concordant/rules/SchemaPairs$SchemaPair" "part" "Ljava/lang/String;" (.ref pt)) :
    MetFree l own_y36 (head1 (Jvm.Cond.code own_y36 prog_32_method_5_code 1 (some (.object "java/lang/String")) :: ws) ({ frames := 7, cells := 6, slots := 31, locals := 108 } : Room)) (fun aq_ Uq_ => aq_ = #[(.ref a)] ∧ Z.Warmed39 Uq_.vm ∧ Uq_.heap = h0) (fun _ _ _ _ _ => True) (fun _ Uq_ oq_ Ur_ => ∃ vq_ Lq_, oq_ = .returned vq_ ∧ Q_subj0 Z a csz dc pt h0 n0 vq_ Ur_.heap Lq_ ∧ FrameEnd Uq_ oq_ Ur_ Lq_ ({ frames := 7, cells := 6, slots := 31, locals := 108 } : Room).cells ({ frames := 7, cells := 6, slots := 31, locals := 108 } : Room).slots) := by
  refine MetFree.of_bodySF (plainFor_of_name pn_com_2fexample_2fconcordant_2fconcordant_2frules_2fSchemaPairs_24SchemaPair) hisR ?_
  intro p e s m args below meth c s₁ Bd hml0 hP hK
  obtain ⟨rfl, hZ, hh⟩ := hP
  have W_ : ∀ {d : Jvm.Cond} (i : Nat), tables_1[i]? = some d → d.before a0 Z = true := fun i h => hw _ (List.mem_of_getElem? h)
  have hx := Bd.exec
  have hby := Bd.bytes
  have hml : c.maxLocals = 1 := hml0
  have hown : s.vm.findClass "com/example/concordant/concordant/rules/SchemaPairs$SchemaPair" = some m.cls := findClass_of_methodNamed Bd.named
  have hnm := (name_of_methodNamed Bd.named Bd.method).1
  have X0 : Stand p l e ({ frames := 7, cells := 6, slots := 31, locals := 108 } : Room) s m #[(.ref a)] below meth c s₁ [] 0 0 := Stand.of_body Bd
  have e0 : s₁.heap = h0 := by rw [← hh, Bd.state]; rfl
  have N0 := Fr.nil n0
  have K0 := Keep.refl h0 []
  refine own_G.start (Q := Q_subj0 Z a csz dc pt h0 n0) (ef_subj0 m a) ?_
  refine own_G.sk 1 [(.ref a)] (fun _ kq => XS.aloadN X0.here hx rfl (hb hby d12_0) rfl rfl kq) ?_
  refine own_G.sk 2 [(.ref a), (.ref a)] (fun _ kq => XS.aloadN X0.here hx rfl (hb hby d12_1) rfl rfl kq) ?_
  obtain ⟨cq1, q1a, q1b⟩ := Exa.cell Ea
  obtain ⟨_, _, ⟨T1, L1, k1, n1⟩, -, X1, ⟨Lc1, hQ1, l1, y1, z1⟩, st1⟩ := X0.privateBack hx (y := own_y32) hown (mvT hZ (W_ 78 rfl)) (mvT hZ (W_ 79 rfl)) (own_selp (mvT hZ (W_ 66 rfl)) rfl (Cond.privateMethod_at (mvP hZ (W_ 80 rfl) (args := #[]))) (mvT hZ (W_ 79 rfl)) (by decide)) (Cond.privateMethod_at (mvP hZ (W_ 80 rfl) (args := #[]))) (mvT hZ (W_ 81 rfl)) (by decide) (backOf (W := 1) (rm_loc l Z a0 hw [] a csz dc h0 n0 O0 S_CS hcs S_DC Ea Fh) hZ (W_ 81 rfl) (W_ 43 rfl) (by decide) (by decide)) (g := (mkF m 2 #[rv a] [(.ref a), (.ref a)])) rfl (by rw [hml]; rfl) (Steps.refl _) (a := a) (by rw [e0]; exact q1a) q1b (argsL := []) (rest := [(.ref a)]) (lenOf pd__28_29Ljava_2flang_2fString_3b rfl) rfl (by show 2 * 0 + _ ≤ _; exact Nat.le_of_eq rfl) (hb hby d12_2) (fun _ _ => ⟨rfl, e0, (by decide : 0 + 6 ≤ _), (by decide : 0 + 31 ≤ _)⟩)
  dsimp only [Pt.U, Pt.locs, Pt.cells, Pt.slots] at X1 l1 y1 z1 st1 hQ1
  subst l1 y1 z1
  obtain ⟨b2, b3, rfl, Nq1, P4, P5, P6, P7, P8⟩ := hQ1
  have N1 := Fr.app N0 Nq1
  have ne9 : a ≠ b2 := Nat.ne_of_lt (Nat.lt_of_lt_of_le Fp.lt P5)
  have g10 : n0 ≤ b2 := Nat.le_trans O0.le P5
  have z11 : h0.size ≤ b2 := Nat.le_trans K0.1 P5
  have F12 := Fp.keep P4 nin0
  have F13 := Ea.keep P4
  have F14 := Fh.keep P4 nin0
  have O15 := O0.keep P4 all0
  have K16 := K0.trans P4 all0
  refine own_G.st (T' := T1) 5 [(.ref b2), (.ref a)] (fun _ kq => st1.trans kq) ?_
  obtain ⟨cq17, q17a, q17b⟩ := Exa.cell F13
  obtain ⟨_, _, ⟨T17, L17, k17, n17⟩, -, X17, ⟨Lc17, hQ17, l17, y17, z17⟩, st17⟩ := X1.privateBack hx (y := own_y35) hown (mvT hZ (W_ 226 rfl)) (mvT hZ (W_ 227 rfl)) (own_selp (mvT hZ (W_ 66 rfl)) rfl (Cond.privateMethod_at (mvP hZ (W_ 228 rfl) (args := #[]))) (mvT hZ (W_ 227 rfl)) (by decide)) (Cond.privateMethod_at (mvP hZ (W_ 228 rfl) (args := #[]))) (mvT hZ (W_ 229 rfl)) (by decide) (backOf (W := 0) (rm_subjat l Z a0 hw [] a b2 pt b3 T1.heap n0 O15 F12 P6 P7 P8) hZ (W_ 229 rfl) (W_ 43 rfl) (by decide) (by decide)) (g := (mkF m 5 #[rv a] [(.ref b2), (.ref a)])) rfl (by rw [hml]; rfl) (Steps.refl _) (a := a) q17a q17b (argsL := [(.ref b2)]) (rest := []) (lenOf pd__28Ljava_2flang_2fString_3b_29Ljava_2flang_2fString_3b rfl) rfl (by show 2 * 0 + _ ≤ _; exact Nat.le_of_eq rfl) (hb hby d12_5) (fun _ _ => ⟨rfl, rfl, (by decide : 6 + 0 ≤ _), (by decide : 31 + 0 ≤ _)⟩)
  dsimp only [Pt.U, Pt.locs, Pt.cells, Pt.slots] at X17 l17 y17 z17 st17 hQ17
  subst l17 y17 z17
  obtain ⟨rfl, Nq17, P18⟩ := hQ17
  have N17 := Fr.app N1 Nq17
  refine own_G.st (T' := T17) 8 [(.ref pt)] (fun _ kq => st17.trans kq) ?_
  exact own_ret X17 P18 (v := some (.ref pt)) (fun h => by rw [Bd.returns] at h; cases h) Bd.notSynchronized ⟨rfl, N17, K16⟩ (by decide) (by decide) (fun fs hr => own_retR X17 hx Bd.returns rfl rfl (hb hby d12_8) hr)
theorem d38_0 : decode prog_29_method_10_code 0 = .ok (.aload_n 0, 1) := by decide +kernel
theorem d38_1 : decode prog_29_method_10_code 1 = .ok (.invokevirtual 325, 3) := by decide +kernel
theorem d38_4 : decode prog_29_method_10_code 4 = .ok (.ifCond .eq 7, 3) := by decide +kernel
theorem d38_7 : decode prog_29_method_10_code 7 = .ok (.aload_n 1, 1) := by decide +kernel
theorem d38_8 : decode prog_29_method_10_code 8 = .ok (.goto 10, 3) := by decide +kernel
theorem d38_18 : decode prog_29_method_10_code 18 = .ok (.areturn, 1) := by decide +kernel
theorem pn_com_2fexample_2fconcordant_2fconcordant_2frules_2fSchemaPairs : plainName "com/example/concordant/concordant/rules/SchemaPairs" = true := by first | (simp [plainName, overriddenIn]; done) | decide +kernel
theorem ef_sploc (m : MethodId) (xs : Addr) (xy : Addr) : entryFrame m #[(.ref xs), (.ref xy)] 2 = mkF m 0 #[rv xs, rv xy] [] := by
  first | (simp [entryFrame, mkF, argsToLocals, Value.category]; done) | rfl
def Q_sploc (Z : State) (xs : Addr) (xy : Addr) (t : Addr) (h0 : Heap) (n0 : Nat) (v : Option Value) (h : Heap) (L : List Loc) : Prop := v = some (.ref xy) ∧ Fr n0 L ∧ h = h0
set_option maxRecDepth 65536 in
set_option maxHeartbeats 40000000 in
theorem rm_sploc (l : Launch) (Z : State) (a0 : Array Value) (hw : ∀ d ∈ tables_1, d.before a0 Z = true) (ws : List Jvm.Cond) (xs : Addr) (xy : Addr) (t : Addr) (h0 : Heap) (n0 : Nat) (O0 : Old Z n0 h0) (Es : Exa Z h0 xs "java/lang/String") (Sv : Fld Z h0 xs "java/lang/String" "value" "[B" (.ref t)) (LN : own_Len Z h0 t (0 : Int32)) :
    MetFree l own_y37 (head1 (Jvm.Cond.code own_y37 prog_29_method_10_code 2 (some (.object "java/lang/String")) :: ws) ({ frames := 1, cells := 0, slots := 0, locals := 12 } : Room)) (fun aq_ Uq_ => aq_ = #[(.ref xs), (.ref xy)] ∧ Z.Warmed39 Uq_.vm ∧ Uq_.heap = h0) (fun _ _ _ _ _ => True) (fun _ Uq_ oq_ Ur_ => ∃ vq_ Lq_, oq_ = .returned vq_ ∧ Q_sploc Z xs xy t h0 n0 vq_ Ur_.heap Lq_ ∧ FrameEnd Uq_ oq_ Ur_ Lq_ ({ frames := 1, cells := 0, slots := 0, locals := 12 } : Room).cells ({ frames := 1, cells := 0, slots := 0, locals := 12 } : Room).slots) := by
  refine MetFree.of_bodySF (plainFor_of_name pn_com_2fexample_2fconcordant_2fconcordant_2frules_2fSchemaPairs) hisR ?_
  intro p e s m args below meth c s₁ Bd hml0 hP hK
  obtain ⟨rfl, hZ, hh⟩ := hP
  have W_ : ∀ {d : Jvm.Cond} (i : Nat), tables_1[i]? = some d → d.before a0 Z = true := fun i h => hw _ (List.mem_of_getElem? h)
  have hx := Bd.exec
  have hby := Bd.bytes
  have hml : c.maxLocals = 2 := hml0
  have hown : s.vm.findClass "com/example/concordant/concordant/rules/SchemaPairs" = some m.cls := findClass_of_methodNamed Bd.named
  have hnm := (name_of_methodNamed Bd.named Bd.method).1
  have X0 : Stand p l e ({ frames := 1, cells := 0, slots := 0, locals := 12 } : Room) s m #[(.ref xs), (.ref xy)] below meth c s₁ [] 0 0 := Stand.of_body Bd
  have e0 : s₁.heap = h0 := by rw [← hh, Bd.state]; rfl
  have N0 := Fr.nil n0
  have K0 := Keep.refl h0 []
  refine own_G.start (Q := Q_sploc Z xs xy t h0 n0) (ef_sploc m xs xy) ?_
  refine own_G.sk 1 [(.ref xs)] (fun _ kq => XS.aloadN X0.here hx rfl (hb hby d38_0) rfl rfl kq) ?_
  obtain ⟨cq1, kq1, q1a, q1b, q1c⟩ := isOf hZ e0 Es
  obtain ⟨_, _, ⟨T1, L1, k1, n1⟩, -, X1, ⟨Lc1, hQ1, l1, y1, z1⟩, st1⟩ := X0.virtualBack hx (y := own_y0) (z := own_y0) hown (mvT hZ (W_ 245 rfl)) (mvT hZ (W_ 231 rfl)) (notFace_of_selects (args := #[]) (mvT hZ (W_ 233 rfl))) (mvT hZ (W_ 233 rfl)) (mvT hZ (W_ 232 rfl)) (by decide) (backOf (W := 0) (rm_isEmp l Z a0 hw [] xs t (0 : Int32) h0 n0 O0 Sv LN) hZ (W_ 234 rfl) (W_ 6 rfl) (by decide) (by decide)) q1a q1c (g := (mkF m 1 #[rv xs, rv xy] [(.ref xs)])) rfl (by rw [hml]; rfl) (Steps.refl _) (argsL := []) (rest := []) (lenOf pd__28_29Z rfl) rfl (by show 2 * 0 + _ ≤ _; exact Nat.le_of_eq rfl) (hb hby d38_1) (fun _ _ => ⟨rfl, e0, (by decide : 0 + 0 ≤ _), (by decide : 0 + 0 ≤ _)⟩)
  dsimp only [Pt.U, Pt.locs, Pt.cells, Pt.slots] at X1 l1 y1 z1 st1 hQ1
  subst l1 y1 z1
  obtain ⟨rfl, Nq1, P2⟩ := hQ1
  have N1 := Fr.app N0 Nq1
  refine own_G.st (T' := T1) 4 [(.int (own_emp (0 : Int32)))] (fun _ kq => st1.trans kq) ?_
  have hc4 : ¬ ((own_emp (0 : Int32)) = (0 : Int32)) := (by decide)
  refine own_G.sk 7 [] (fun _ kq => XS.ifNo X1.here hx rfl (hb hby d38_4) rfl ((if0 _ _).trans (feq hc4).1) kq) ?_
  refine own_G.sk 8 [(.ref xy)] (fun _ kq => XS.aloadN X1.here hx rfl (hb hby d38_7) rfl rfl kq) ?_
  refine own_G.sk 18 [(.ref xy)] (fun _ kq => XS.goto X1.here hx rfl (pc0 := 8) (pc' := 18) rfl (hb hby d38_8) (by decide) (by decide) kq) ?_
  exact own_ret X1 P2 (v := some (.ref xy)) (fun h => by rw [Bd.returns] at h; cases h) Bd.notSynchronized ⟨rfl, N1, rfl⟩ (by decide) (by decide) (fun fs hr => own_retR X1 hx Bd.returns rfl rfl (hb hby d38_18) hr)
theorem pd__28Ljava_2flang_2fString_3bLjava_2flang_2fString_3b_29Ljava_2flang_2fString_3b : parseMethodDescriptor "(Ljava/lang/String;Ljava/lang/String;)Ljava/lang/String;" = some ⟨[(.object "java/lang/String"), (.object "java/lang/String")], some (.object "java/lang/String")⟩ := by decide +kernel
theorem d37_0 : decode prog_32_method_6_code 0 = .ok (.aload_n 0, 1) := by decide +kernel
theorem d37_1 : decode prog_32_method_6_code 1 = .ok (.aload_n 0, 1) := by decide +kernel
theorem d37_2 : decode prog_32_method_6_code 2 = .ok (.invokevirtual 34, 3) := by decide +kernel
theorem d37_5 : decode prog_32_method_6_code 5 = .ok (.aload_n 1, 1) := by decide +kernel
theorem d37_6 : decode prog_32_method_6_code 6 = .ok (.invokestatic 42, 3) := by decide +kernel
theorem d37_9 : decode prog_32_method_6_code 9 = .ok (.invokevirtual 38, 3) := by decide +kernel
theorem d37_12 : decode prog_32_method_6_code 12 = .ok (.areturn, 1) := by decide +kernel
theorem ef_subj1 (m : MethodId) (a : Addr) (xy : Addr) : entryFrame m #[(.ref a), (.ref xy)] 2 = mkF m 0 #[rv a, rv xy] [] := by
  first | (simp [entryFrame, mkF, argsToLocals, Value.category]; done) | rfl
def Q_subj1 (Z : State) (a : Addr) (xy : Addr) (csz : Int32) (dc : Addr) (pt : Addr) (t2 : Addr) (h0 : Heap) (n0 : Nat) (v : Option Value) (h : Heap) (L : List Loc) : Prop := v = some (.ref pt) ∧ Fr n0 L ∧ Keep h0 h []
set_option maxRecDepth 65536 in
set_option maxHeartbeats 40000000 in
theorem rm_subj1 (l : Launch) (Z : State) (a0 : Array Value) (hw : ∀ d ∈ tables_1, d.before a0 Z = true) (ws : List Jvm.Cond) (a : Addr) (xy : Addr) (csz : Int32) (dc : Addr) (pt : Addr) (t2 : Addr) (h0 : Heap) (n0 : Nat) (O0 : Old Z n0 h0) (S_CS : Sta Z Z.heap "java/lang/String" "COMPACT_STRINGS" "Z" (.int csz)) (hcs : ¬ csz = (0 : Int32)) (S_DC : Sta Z Z.heap "java/util/ArrayList" "DEFAULTCAPACITY_EMPTY_ELEMENTDATA" "[Ljava/lang/Object;" (.ref dc)) (Ea : Exa Z h0 a "com/example/concordant/concordant/rules/SchemaPairs$SchemaPair") (Fh : Fld Z h0 a "com/example/concordant/concordant/rules/SchemaPairs$SchemaPair" "holder" "Lcom/example/concordant/concordant/rules/SchemaPairs$SchemaPair;" .null) (Fp : Fld Z h0 a "com/example/concordant/concordant/rules/SchemaPairs$SchemaPair" "part" "Ljava/lang/String;" (.ref pt)) (Ey : Exa Z h0 xy "java/lang/String") (Yv : Fld Z h0 xy "java/lang/String" "value" "[B" (.ref t2)) (LY : own_Len Z h0 t2 (0 : Int32)) :
    MetFree l own_y38 (head1 (Jvm.Cond.code own_y38 prog_32_method_6_code 2 (some (.object "java/lang/String")) :: ws) ({ frames := 7, cells := 6, slots := 31, locals := 108 } : Room)) (fun aq_ Uq_ => aq_ = #[(.ref a), (.ref xy)] ∧ Z.Warmed39 Uq_.vm ∧ Uq_.heap = h0) (fun _ _ _ _ _ => True) (fun _ Uq_ oq_ Ur_ => ∃ vq_ Lq_, oq_ = .returned vq_ ∧ Q_subj1 Z a xy csz dc pt t2 h0 n0 vq_ Ur_.heap Lq_ ∧ FrameEnd Uq_ oq_ Ur_ Lq_ ({ frames := 7, cells := 6, slots := 31, locals := 108 } : Room).cells ({ frames := 7, cells := 6, slots := 31, locals := 108 } : Room).slots) := by
  refine MetFree.of_bodySF (plainFor_of_name pn_com_2fexample_2fconcordant_2fconcordant_2frules_2fSchemaPairs_24SchemaPair) hisR ?_
  intro p e s m args below meth c s₁ Bd hml0 hP hK
  obtain ⟨rfl, hZ, hh⟩ := hP
  have W_ : ∀ {d : Jvm.Cond} (i : Nat), tables_1[i]? = some d → d.before a0 Z = true := fun i h => hw _ (List.mem_of_getElem? h)
  have hx := Bd.exec
  have hby := Bd.bytes
  have hml : c.maxLocals = 2 := hml0
  have hown : s.vm.findClass "com/example/concordant/concordant/rules/SchemaPairs$SchemaPair" = some m.cls := findClass_of_methodNamed Bd.named
  have hnm := (name_of_methodNamed Bd.named Bd.method).1
  have X0 : Stand p l e ({ frames := 7, cells := 6, slots := 31, locals := 108 } : Room) s m #[(.ref a), (.ref xy)] below meth c s₁ [] 0 0 := Stand.of_body Bd
  have e0 : s₁.heap = h0 := by rw [← hh, Bd.state]; rfl
  have N0 := Fr.nil n0
  have K0 := Keep.refl h0 []
  refine own_G.start (Q := Q_subj1 Z a xy csz dc pt t2 h0 n0) (ef_subj1 m a xy) ?_
  refine own_G.sk 1 [(.ref a)] (fun _ kq => XS.aloadN X0.here hx rfl (hb hby d37_0) rfl rfl kq) ?_
  refine own_G.sk 2 [(.ref a), (.ref a)] (fun _ kq => XS.aloadN X0.here hx rfl (hb hby d37_1) rfl rfl kq) ?_
  obtain ⟨cq1, q1a, q1b⟩ := Exa.cell Ea
  obtain ⟨_, _, ⟨T1, L1, k1, n1⟩, -, X1, ⟨Lc1, hQ1, l1, y1, z1⟩, st1⟩ := X0.privateBack hx (y := own_y32) hown (mvT hZ (W_ 78 rfl)) (mvT hZ (W_ 79 rfl)) (own_selp (mvT hZ (W_ 66 rfl)) rfl (Cond.privateMethod_at (mvP hZ (W_ 80 rfl) (args := #[]))) (mvT hZ (W_ 79 rfl)) (by decide)) (Cond.privateMethod_at (mvP hZ (W_ 80 rfl) (args := #[]))) (mvT hZ (W_ 81 rfl)) (by decide) (backOf (W := 1) (rm_loc l Z a0 hw [] a csz dc h0 n0 O0 S_CS hcs S_DC Ea Fh) hZ (W_ 81 rfl) (W_ 43 rfl) (by decide) (by decide)) (g := (mkF m 2 #[rv a, rv xy] [(.ref a), (.ref a)])) rfl (by rw [hml]; rfl) (Steps.refl _) (a := a) (by rw [e0]; exact q1a) q1b (argsL := []) (rest := [(.ref a)]) (lenOf pd__28_29Ljava_2flang_2fString_3b rfl) rfl (by show 2 * 0 + _ ≤ _; exact Nat.le_of_eq rfl) (hb hby d37_2) (fun _ _ => ⟨rfl, e0, (by decide : 0 + 6 ≤ _), (by decide : 0 + 31 ≤ _)⟩)
  dsimp only [Pt.U, Pt.locs, Pt.cells, Pt.slots] at X1 l1 y1 z1 st1 hQ1
  subst l1 y1 z1
  obtain ⟨b2, b3, rfl, Nq1, P4, P5, P6, P7, P8⟩ := hQ1
  have N1 := Fr.app N0 Nq1
  have ne9 : a ≠ b2 := Nat.ne_of_lt (Nat.lt_of_lt_of_le Fp.lt P5)
  have ne10 : xy ≠ b2 := Nat.ne_of_lt (Nat.lt_of_lt_of_le Ey.lt P5)
  have ne11 : t2 ≠ b2 := Nat.ne_of_lt (Nat.lt_of_lt_of_le LY.lt P5)
  have g12 : n0 ≤ b2 := Nat.le_trans O0.le P5
  have z13 : h0.size ≤ b2 := Nat.le_trans K0.1 P5
  have F14 := Fp.keep P4 nin0
  have F15 := Ea.keep P4
  have F16 := Fh.keep P4 nin0
  have F17 := Ey.keep P4
  have F18 := Yv.keep P4 nin0
  have F19 := LY.keep P4 nin0
  have O20 := O0.keep P4 all0
  have K21 := K0.trans P4 all0
  refine own_G.st (T' := T1) 5 [(.ref b2), (.ref a)] (fun _ kq => st1.trans kq) ?_
  refine own_G.sk 6 [(.ref xy), (.ref b2), (.ref a)] (fun _ kq => XS.aloadN X1.here hx rfl (hb hby d37_5) rfl rfl kq) ?_
  obtain ⟨_, _, ⟨T22, L22, k22, n22⟩, -, X22, ⟨Lc22, hQ22, l22, y22, z22⟩, st22⟩ := callSN X1 hx (y := own_y37) hown (own_mvMN hZ (W_ 241 rfl)) (mvT hZ (W_ 242 rfl)) (mvT hZ (W_ 243 rfl)) (mvT hZ (W_ 244 rfl)) (by decide) (backOf (W := 1) (rm_sploc l Z a0 hw [] b2 xy b3 T1.heap n0 O20 P6 P7 P8) hZ (W_ 244 rfl) (W_ 243 rfl) (by decide) (by decide)) (g := (mkF m 6 #[rv a, rv xy] [(.ref xy), (.ref b2), (.ref a)])) rfl (by rw [hml]; rfl) (argsL := [(.ref b2), (.ref xy)]) (rest := [(.ref a)]) (lenOf pd__28Ljava_2flang_2fString_3bLjava_2flang_2fString_3b_29Ljava_2flang_2fString_3b rfl) rfl (by show 2 * 0 + _ ≤ _; exact Nat.le_of_eq rfl) (hb hby d37_6) (fun _ _ => ⟨rfl, rfl, (by decide : 6 + 0 ≤ _), (by decide : 31 + 0 ≤ _)⟩)
  dsimp only [Pt.U, Pt.locs, Pt.cells, Pt.slots] at X22 l22 y22 z22 st22 hQ22
  subst l22 y22 z22
  obtain ⟨rfl, Nq22, P23⟩ := hQ22
  have N22 := Fr.app N1 Nq22
  refine own_G.st (T' := T22) 9 [(.ref xy), (.ref a)] (fun _ kq => st22.trans kq) ?_
  obtain ⟨cq24, q24a, q24b⟩ := Exa.cell F15
  obtain ⟨_, _, ⟨T24, L24, k24, n24⟩, -, X24, ⟨Lc24, hQ24, l24, y24, z24⟩, st24⟩ := X22.privateBack hx (y := own_y35) hown (mvT hZ (W_ 226 rfl)) (mvT hZ (W_ 227 rfl)) (own_selp (mvT hZ (W_ 66 rfl)) rfl (Cond.privateMethod_at (mvP hZ (W_ 228 rfl) (args := #[]))) (mvT hZ (W_ 227 rfl)) (by decide)) (Cond.privateMethod_at (mvP hZ (W_ 228 rfl) (args := #[]))) (mvT hZ (W_ 229 rfl)) (by decide) (backOf (W := 0) (rm_subjat l Z a0 hw [] a xy pt t2 T1.heap n0 O20 F14 F17 F18 F19) hZ (W_ 229 rfl) (W_ 43 rfl) (by decide) (by decide)) (g := (mkF m 9 #[rv a, rv xy] [(.ref xy), (.ref a)])) rfl (by rw [hml]; rfl) (Steps.refl _) (a := a) (by rw [P23]; exact q24a) q24b (argsL := [(.ref xy)]) (rest := []) (lenOf pd__28Ljava_2flang_2fString_3b_29Ljava_2flang_2fString_3b rfl) rfl (by show 2 * 0 + _ ≤ _; exact Nat.le_of_eq rfl) (hb hby d37_9) (fun _ _ => ⟨rfl, P23, (by decide : 6 + 0 ≤ _), (by decide : 31 + 0 ≤ _)⟩)
  dsimp only [Pt.U, Pt.locs, Pt.cells, Pt.slots] at X24 l24 y24 z24 st24 hQ24
  subst l24 y24 z24
  obtain ⟨rfl, Nq24, P25⟩ := hQ24
  have N24 := Fr.app N22 Nq24
  refine own_G.st (T' := T24) 12 [(.ref pt)] (fun _ kq => st24.trans kq) ?_
  exact own_ret X24 P25 (v := some (.ref pt)) (fun h => by rw [Bd.returns] at h; cases h) Bd.notSynchronized ⟨rfl, N24, K21⟩ (by decide) (by decide) (fun fs hr => own_retR X24 hx Bd.returns rfl rfl (hb hby d37_12) hr)
theorem d39_0 : decode jdk_42_method_66_code 0 = .ok (.aload_n 0, 1) := by decide +kernel
theorem d39_1 : decode jdk_42_method_66_code 1 = .ok (.aload_n 1, 1) := by decide +kernel
theorem d39_2 : decode jdk_42_method_66_code 2 = .ok (.if_acmp .ne 5, 3) := by decide +kernel
theorem d39_5 : decode jdk_42_method_66_code 5 = .ok (.iconst 1, 1) := by decide +kernel
theorem d39_6 : decode jdk_42_method_66_code 6 = .ok (.ireturn, 1) := by decide +kernel
theorem ef_seq (m : MethodId) (a : Addr) (o : Addr) : entryFrame m #[(.ref a), (.ref o)] 3 = mkF m 0 #[rv a, rv o, .unset] [] := by
  first | (simp [entryFrame, mkF, argsToLocals, Value.category]; done) | rfl
def Q_seq (Z : State) (a : Addr) (o : Addr) (h0 : Heap) (n0 : Nat) (v : Option Value) (h : Heap) (L : List Loc) : Prop := v = some (.int 1) ∧ Fr n0 L ∧ h = h0
set_option maxRecDepth 65536 in
set_option maxHeartbeats 40000000 in
theorem rm_seq (l : Launch) (Z : State) (a0 : Array Value) (hw : ∀ d ∈ tables_1, d.before a0 Z = true) (ws : List Jvm.Cond) (a : Addr) (o : Addr) (h0 : Heap) (n0 : Nat) (O0 : Old Z n0 h0) (hao : a = o) :
    MetFree l own_y39 (head1 (Jvm.Cond.code own_y39 jdk_42_method_66_code 3 (some .boolean) :: ws) ({ frames := 0, cells := 0, slots := 0, locals := 0 } : Room)) (fun aq_ Uq_ => aq_ = #[(.ref a), (.ref o)] ∧ Z.Warmed39 Uq_.vm ∧ Uq_.heap = h0) (fun _ _ _ _ _ => True) (fun _ Uq_ oq_ Ur_ => ∃ vq_ Lq_, oq_ = .returned vq_ ∧ Q_seq Z a o h0 n0 vq_ Ur_.heap Lq_ ∧ FrameEnd Uq_ oq_ Ur_ Lq_ ({ frames := 0, cells := 0, slots := 0, locals := 0 } : Room).cells ({ frames := 0, cells := 0, slots := 0, locals := 0 } : Room).slots) := by
  refine MetFree.of_bodySF (plainFor_of_name pn_java_2flang_2fString) hisR ?_
  intro p e s m args below meth c s₁ Bd hml0 hP hK
  obtain ⟨rfl, hZ, hh⟩ := hP
  have W_ : ∀ {d : Jvm.Cond} (i : Nat), tables_1[i]? = some d → d.before a0 Z = true := fun i h => hw _ (List.mem_of_getElem? h)
  have hx := Bd.exec
  have hby := Bd.bytes
  have hml : c.maxLocals = 3 := hml0
  have hown : s.vm.findClass "java/lang/String" = some m.cls := findClass_of_methodNamed Bd.named
  have hnm := (name_of_methodNamed Bd.named Bd.method).1
  have X0 : Stand p l e ({ frames := 0, cells := 0, slots := 0, locals := 0 } : Room) s m #[(.ref a), (.ref o)] below meth c s₁ [] 0 0 := Stand.of_body Bd
  have e0 : s₁.heap = h0 := by rw [← hh, Bd.state]; rfl
  have N0 := Fr.nil n0
  have K0 := Keep.refl h0 []
  refine own_G.start (Q := Q_seq Z a o h0 n0) (ef_seq m a o) ?_
  refine own_G.sk 1 [(.ref a)] (fun _ kq => XS.aloadN X0.here hx rfl (hb hby d39_0) rfl rfl kq) ?_
  refine own_G.sk 2 [(.ref o), (.ref a)] (fun _ kq => XS.aloadN X0.here hx rfl (hb hby d39_1) rfl rfl kq) ?_
  have hc2 : a = o := hao
  refine own_G.sk 5 [] (fun _ kq => Jvm.RoadKit.acmp (g := (mkF m 2 #[rv a, rv o, .unset] [(.ref o), (.ref a)])) X0 hx rfl rfl rfl (pc0 := 2) (pc' := 5) (same := true) rfl (hb hby d39_2) rfl (decide_eq_true (congrArg Value.ref hc2)) (by decide) (by decide) kq) ?_
  refine own_G.sk 6 [(.int 1)] (fun _ kq => XS.iconst X0.here hx rfl (hb hby d39_5) kq) ?_
  exact own_ret X0 e0 (v := some (.int 1)) (fun h => by rw [Bd.returns] at h; cases h) Bd.notSynchronized ⟨rfl, N0, rfl⟩ (by decide) (by decide) (fun fs hr => retN X0 hx (t := .boolean) Bd.returns (by simp) (hb hby d39_6) hr)
theorem pd__28_5bC_29V : parseMethodDescriptor "([C)V" = some ⟨[(.array .char)], none⟩ := by decide +kernel
theorem d1_0 : decode method_2_code 0 = .ok (.iload_n 1, 1) := by decide +kernel
theorem d1_1 : decode method_2_code 1 = .ok (.sipush 255, 3) := by decide +kernel
theorem d1_4 : decode method_2_code 4 = .ok (.iand, 1) := by decide +kernel
theorem d1_5 : decode method_2_code 5 = .ok (.i2c, 1) := by decide +kernel
theorem d1_6 : decode method_2_code 6 = .ok (.istore 4, 2) := by decide +kernel
theorem d1_8 : decode method_2_code 8 = .ok (.iload_n 2, 1) := by decide +kernel
theorem d1_9 : decode method_2_code 9 = .ok (.sipush 255, 3) := by decide +kernel
theorem d1_12 : decode method_2_code 12 = .ok (.iand, 1) := by decide +kernel
theorem d1_13 : decode method_2_code 13 = .ok (.i2c, 1) := by decide +kernel
theorem d1_14 : decode method_2_code 14 = .ok (.istore 5, 2) := by decide +kernel
theorem d1_16 : decode method_2_code 16 = .ok (.iload_n 3, 1) := by decide +kernel
theorem d1_17 : decode method_2_code 17 = .ok (.sipush 255, 3) := by decide +kernel
theorem d1_20 : decode method_2_code 20 = .ok (.iand, 1) := by decide +kernel
theorem d1_21 : decode method_2_code 21 = .ok (.i2c, 1) := by decide +kernel
theorem d1_22 : decode method_2_code 22 = .ok (.istore 6, 2) := by decide +kernel
theorem d1_24 : decode method_2_code 24 = .ok (.iload_n 0, 1) := by decide +kernel
theorem d1_25 : decode method_2_code 25 = .ok (.ifCond .ne 14, 3) := by decide +kernel
theorem d1_28 : decode method_2_code 28 = .ok (.new 7, 3) := by decide +kernel
theorem d1_31 : decode method_2_code 31 = .ok (.dup, 1) := by decide +kernel
theorem d1_32 : decode method_2_code 32 = .ok (.iconst 0, 1) := by decide +kernel
theorem d1_33 : decode method_2_code 33 = .ok (.newarray .char, 2) := by decide +kernel
theorem d1_35 : decode method_2_code 35 = .ok (.invokespecial 9, 3) := by decide +kernel
theorem d1_38 : decode method_2_code 38 = .ok (.areturn, 1) := by decide +kernel
theorem d1_39 : decode method_2_code 39 = .ok (.iload_n 0, 1) := by decide +kernel
theorem d1_40 : decode method_2_code 40 = .ok (.iconst 1, 1) := by decide +kernel
theorem d1_41 : decode method_2_code 41 = .ok (.if_icmp .ne 19, 3) := by decide +kernel
theorem d1_44 : decode method_2_code 44 = .ok (.new 7, 3) := by decide +kernel
theorem d1_47 : decode method_2_code 47 = .ok (.dup, 1) := by decide +kernel
theorem d1_48 : decode method_2_code 48 = .ok (.iconst 1, 1) := by decide +kernel
theorem d1_49 : decode method_2_code 49 = .ok (.newarray .char, 2) := by decide +kernel
theorem d1_51 : decode method_2_code 51 = .ok (.dup, 1) := by decide +kernel
theorem d1_52 : decode method_2_code 52 = .ok (.iconst 0, 1) := by decide +kernel
theorem d1_53 : decode method_2_code 53 = .ok (.iload 4, 2) := by decide +kernel
theorem d1_55 : decode method_2_code 55 = .ok (.castore, 1) := by decide +kernel
theorem d1_56 : decode method_2_code 56 = .ok (.invokespecial 9, 3) := by decide +kernel
theorem d1_59 : decode method_2_code 59 = .ok (.areturn, 1) := by decide +kernel
theorem d1_60 : decode method_2_code 60 = .ok (.iload_n 0, 1) := by decide +kernel
theorem d1_61 : decode method_2_code 61 = .ok (.iconst 2, 1) := by decide +kernel
theorem d1_62 : decode method_2_code 62 = .ok (.if_icmp .ne 24, 3) := by decide +kernel
theorem d1_65 : decode method_2_code 65 = .ok (.new 7, 3) := by decide +kernel
theorem d1_68 : decode method_2_code 68 = .ok (.dup, 1) := by decide +kernel
theorem d1_69 : decode method_2_code 69 = .ok (.iconst 2, 1) := by decide +kernel
theorem d1_70 : decode method_2_code 70 = .ok (.newarray .char, 2) := by decide +kernel
theorem d1_72 : decode method_2_code 72 = .ok (.dup, 1) := by decide +kernel
theorem d1_73 : decode method_2_code 73 = .ok (.iconst 0, 1) := by decide +kernel
theorem d1_74 : decode method_2_code 74 = .ok (.iload 4, 2) := by decide +kernel
theorem d1_76 : decode method_2_code 76 = .ok (.castore, 1) := by decide +kernel
theorem d1_77 : decode method_2_code 77 = .ok (.dup, 1) := by decide +kernel
theorem d1_78 : decode method_2_code 78 = .ok (.iconst 1, 1) := by decide +kernel
theorem d1_79 : decode method_2_code 79 = .ok (.iload 5, 2) := by decide +kernel
theorem d1_81 : decode method_2_code 81 = .ok (.castore, 1) := by decide +kernel
theorem d1_82 : decode method_2_code 82 = .ok (.invokespecial 9, 3) := by decide +kernel
theorem d1_85 : decode method_2_code 85 = .ok (.areturn, 1) := by decide +kernel
theorem d1_86 : decode method_2_code 86 = .ok (.new 7, 3) := by decide +kernel
theorem d1_89 : decode method_2_code 89 = .ok (.dup, 1) := by decide +kernel
theorem d1_90 : decode method_2_code 90 = .ok (.iconst 3, 1) := by decide +kernel
theorem d1_91 : decode method_2_code 91 = .ok (.newarray .char, 2) := by decide +kernel
theorem d1_93 : decode method_2_code 93 = .ok (.dup, 1) := by decide +kernel
theorem d1_94 : decode method_2_code 94 = .ok (.iconst 0, 1) := by decide +kernel
theorem d1_95 : decode method_2_code 95 = .ok (.iload 4, 2) := by decide +kernel
theorem d1_97 : decode method_2_code 97 = .ok (.castore, 1) := by decide +kernel
theorem d1_98 : decode method_2_code 98 = .ok (.dup, 1) := by decide +kernel
theorem d1_99 : decode method_2_code 99 = .ok (.iconst 1, 1) := by decide +kernel
theorem d1_100 : decode method_2_code 100 = .ok (.iload 5, 2) := by decide +kernel
theorem d1_102 : decode method_2_code 102 = .ok (.castore, 1) := by decide +kernel
theorem d1_103 : decode method_2_code 103 = .ok (.dup, 1) := by decide +kernel
theorem d1_104 : decode method_2_code 104 = .ok (.iconst 2, 1) := by decide +kernel
theorem d1_105 : decode method_2_code 105 = .ok (.iload 6, 2) := by decide +kernel
theorem d1_107 : decode method_2_code 107 = .ok (.castore, 1) := by decide +kernel
theorem d1_108 : decode method_2_code 108 = .ok (.invokespecial 9, 3) := by decide +kernel
theorem d1_111 : decode method_2_code 111 = .ok (.areturn, 1) := by decide +kernel
theorem ef_drawn (m : MethodId) (k : Int32) (x0 : Int32) (x1 : Int32) (x2 : Int32) : entryFrame m #[(.int k), (.int x0), (.int x1), (.int x2)] 7 = mkF m 0 #[iv k, iv x0, iv x1, iv x2, .unset, .unset, .unset] [] := by
  first | (simp [entryFrame, mkF, argsToLocals, Value.category]; done) | rfl
def Q_drawn (Z : State) (k : Int32) (x0 : Int32) (x1 : Int32) (x2 : Int32) (csz : Int32) (h0 : Heap) (n0 : Nat) (v : Option Value) (h : Heap) (L : List Loc) : Prop := ∃ (q : Addr), v = some (.ref q) ∧ Fr n0 L ∧ Keep h0 h [] ∧ h0.size ≤ q ∧ Exa Z h q "java/lang/String"
set_option maxRecDepth 65536 in
set_option maxHeartbeats 40000000 in
theorem rm_drawn (l : Launch) (Z : State) (a0 : Array Value) (hw : ∀ d ∈ tables_1, d.before a0 Z = true) (ws : List Jvm.Cond) (k : Int32) (x0 : Int32) (x1 : Int32) (x2 : Int32) (csz : Int32) (h0 : Heap) (n0 : Nat) (O0 : Old Z n0 h0) (S_CS : Sta Z Z.heap "java/lang/String" "COMPACT_STRINGS" "Z" (.int csz)) (hcs : ¬ csz = (0 : Int32)) :
    MetFree l own_y40 (head1 (Jvm.Cond.code own_y40 method_2_code 7 (some (.object "java/lang/String")) :: ws) ({ frames := 4, cells := 6, slots := 12, locals := 66 } : Room)) (fun aq_ Uq_ => aq_ = #[(.int k), (.int x0), (.int x1), (.int x2)] ∧ Z.Warmed39 Uq_.vm ∧ Uq_.heap = h0 ∧ CHv Z own_EL Uq_.vm h0) (fun _ _ _ _ _ => True) (fun _ Uq_ oq_ Ur_ => ∃ vq_ Lq_, oq_ = .returned vq_ ∧ Q_drawn Z k x0 x1 x2 csz h0 n0 vq_ Ur_.heap Lq_ ∧ CHr Z own_EL Uq_.vm Uq_.heap Ur_.vm Ur_.heap ∧ ReturnedEndW Uq_ oq_ Ur_ Lq_ ({ frames := 4, cells := 6, slots := 12, locals := 66 } : Room).cells ({ frames := 4, cells := 6, slots := 12, locals := 66 } : Room).slots) := by
  refine MetFree.of_bodySF (plainFor_of_name pn_com_2fexample_2fconcordant_2fconcordant_2frules_2fSchemaPairsRootPinLaw) hisR ?_
  intro p e s m args below meth c s₁ Bd hml0 hP hK
  obtain ⟨rfl, hZ, hh, hH⟩ := hP
  have W_ : ∀ {d : Jvm.Cond} (i : Nat), tables_1[i]? = some d → d.before a0 Z = true := fun i h => hw _ (List.mem_of_getElem? h)
  have hx := Bd.exec
  have hby := Bd.bytes
  have hml : c.maxLocals = 7 := hml0
  have hown : s.vm.findClass "com/example/concordant/concordant/rules/SchemaPairsRootPinLaw" = some m.cls := findClass_of_methodNamed Bd.named
  have hnm := (name_of_methodNamed Bd.named Bd.method).1
  have X0 : Stand p l e ({ frames := 4, cells := 6, slots := 12, locals := 66 } : Room) (s.setVm s.vm) m #[(.int k), (.int x0), (.int x1), (.int x2)] below meth c s₁ [] 0 0 := Stand.of_body Bd
  have e0 : s₁.heap = h0 := by rw [← hh, Bd.state]; rfl
  have N0 := Fr.nil n0
  have K0 := Keep.refl h0 []
  have hS : s.Since s.vm s.heap.size := (State.WarmedH.refl s).since _
  have hkS : s.heap.size ≤ h0.size := by rw [hh]; exact Nat.le_refl _
  have hZ : Z.Warmed39 (s.setVm s.vm).vm := hZ
  have hown : (s.setVm s.vm).vm.findClass "com/example/concordant/concordant/rules/SchemaPairsRootPinLaw" = some m.cls := hown
  have ew := own_EW Z a0 hw
  have hR := CHr.refl hH
  refine own_GH.start (Q := Q_drawn Z k x0 x1 x2 csz h0 n0) (ef_drawn m k x0 x1 x2) ?_
  have hws : ∀ d ∈ StrChars.Road.words, d.before a0 Z = true := fun d hd => hw d (own_hws d hd)
  refine own_GH.sk 1 [(.int x0)] (fun _ kq => XS.iloadN X0.here hx rfl (hb hby d1_0) rfl kq) ?_
  refine own_GH.sk 4 [(.int 255), (.int x0)] (fun _ kq => XS.sipush X0.here hx rfl (hb hby d1_1) kq) ?_
  refine own_GH.sk 5 [(.int (x0 &&& (255 : Int32)))] (fun _ kq => XS.iand X0.here hx rfl (hb hby d1_4) rfl kq) ?_
  refine own_GH.sk 6 [(.int ((x0 &&& (255 : Int32)).toUInt32.toUInt16.toUInt32.toInt32))] (fun _ kq => XS.i2c X0.here hx rfl (hb hby d1_5) rfl kq) ?_
  refine own_GH.si 8 [] (fun _ kq => XS.istore X0.here hx rfl (hb hby d1_6) rfl (l' := #[iv k, iv x0, iv x1, iv x2, .val (.int ((x0 &&& (255 : Int32)).toUInt32.toUInt16.toUInt32.toInt32)), .unset, .unset]) rfl kq) ?_
  refine own_GH.sk 9 [(.int x1)] (fun _ kq => XS.iloadN X0.here hx rfl (hb hby d1_8) rfl kq) ?_
  refine own_GH.sk 12 [(.int 255), (.int x1)] (fun _ kq => XS.sipush X0.here hx rfl (hb hby d1_9) kq) ?_
  refine own_GH.sk 13 [(.int (x1 &&& (255 : Int32)))] (fun _ kq => XS.iand X0.here hx rfl (hb hby d1_12) rfl kq) ?_
  refine own_GH.sk 14 [(.int ((x1 &&& (255 : Int32)).toUInt32.toUInt16.toUInt32.toInt32))] (fun _ kq => XS.i2c X0.here hx rfl (hb hby d1_13) rfl kq) ?_
  refine own_GH.si 16 [] (fun _ kq => XS.istore X0.here hx rfl (hb hby d1_14) rfl (l' := #[iv k, iv x0, iv x1, iv x2, .val (.int ((x0 &&& (255 : Int32)).toUInt32.toUInt16.toUInt32.toInt32)), .val (.int ((x1 &&& (255 : Int32)).toUInt32.toUInt16.toUInt32.toInt32)), .unset]) rfl kq) ?_
  refine own_GH.sk 17 [(.int x2)] (fun _ kq => XS.iloadN X0.here hx rfl (hb hby d1_16) rfl kq) ?_
  refine own_GH.sk 20 [(.int 255), (.int x2)] (fun _ kq => XS.sipush X0.here hx rfl (hb hby d1_17) kq) ?_
  refine own_GH.sk 21 [(.int (x2 &&& (255 : Int32)))] (fun _ kq => XS.iand X0.here hx rfl (hb hby d1_20) rfl kq) ?_
  refine own_GH.sk 22 [(.int ((x2 &&& (255 : Int32)).toUInt32.toUInt16.toUInt32.toInt32))] (fun _ kq => XS.i2c X0.here hx rfl (hb hby d1_21) rfl kq) ?_
  refine own_GH.si 24 [] (fun _ kq => XS.istore X0.here hx rfl (hb hby d1_22) rfl (l' := #[iv k, iv x0, iv x1, iv x2, .val (.int ((x0 &&& (255 : Int32)).toUInt32.toUInt16.toUInt32.toInt32)), .val (.int ((x1 &&& (255 : Int32)).toUInt32.toUInt16.toUInt32.toInt32)), .val (.int ((x2 &&& (255 : Int32)).toUInt32.toUInt16.toUInt32.toInt32))]) rfl kq) ?_
  refine own_GH.sk 25 [(.int k)] (fun _ kq => XS.iloadN X0.here hx rfl (hb hby d1_24) rfl kq) ?_
  rcases Classical.em (k = (0 : Int32)) with hc25 | hc25
  · refine own_GH.sk 28 [] (fun _ kq => XS.ifNo X0.here hx rfl (hb hby d1_25) rfl ((if0 _ _).trans (teq hc25).2) kq) ?_
    obtain ⟨T1, h1, X1, e1, E1, A1, D1, -, st1⟩ := newO X0 hx hZ hown (W_ 4 rfl) (W_ 5 rfl) (W_ 6 rfl) e0 (g := (mkF m 28 #[iv k, iv x0, iv x1, iv x2, .val (.int ((x0 &&& (255 : Int32)).toUInt32.toUInt16.toUInt32.toInt32)), .val (.int ((x1 &&& (255 : Int32)).toUInt32.toUInt16.toUInt32.toInt32)), .val (.int ((x2 &&& (255 : Int32)).toUInt32.toUInt16.toUInt32.toInt32))] [])) rfl (hb hby d1_28) (by decide) (by decide)
    obtain ⟨b1, g1⟩ : ∃ z, z = h0.size := ⟨_, rfl⟩
    rw [← g1] at A1 D1 st1
    have g2 : n0 ≤ b1 := Nat.le_trans O0.le (Nat.le_of_eq g1.symm)
    have z3 : h0.size ≤ b1 := Nat.le_trans K0.1 (Nat.le_of_eq g1.symm)
    have sf4 : Safe Z own_EL s.vm h0 b1 := Safe.new (Nat.le_of_eq g1.symm)
    have hkS := Nat.le_trans hkS E1.1
    have sf5 := Safe.ext E1 hH sf4
    have hR := hR.trans (CHr.ext E1 hH)
    have hH := CHv.ext E1 hH
    have O6 := O0.ext E1
    have K7 := K0.ext E1
    have F8 : Fld Z h1 b1 "java/lang/String" "value" "[B" .null := D1 (Or.inr (W_ 20 rfl)) (ty := (.array .byte)) (by decide)
    have F9 : Fld Z h1 b1 "java/lang/String" "coder" "B" (.int 0) := D1 (Or.inr (W_ 21 rfl)) (ty := .byte) (by decide)
    refine own_GH.st (T' := T1) 31 [(.ref b1)] st1 ?_
    refine own_GH.sk 32 [(.ref b1), (.ref b1)] (fun _ kq => XS.dup X1.here hx rfl (hb hby d1_31) rfl rfl kq) ?_
    refine own_GH.sk 33 [(.int 0), (.ref b1), (.ref b1)] (fun _ kq => XS.iconst X1.here hx rfl (hb hby d1_32) kq) ?_
    obtain ⟨T10, h10, k10, X10, e10, E10, A10, st10⟩ := newP X1 hx hZ (W_ 7 rfl) e1 (g := (mkF m 33 #[iv k, iv x0, iv x1, iv x2, .val (.int ((x0 &&& (255 : Int32)).toUInt32.toUInt16.toUInt32.toInt32)), .val (.int ((x1 &&& (255 : Int32)).toUInt32.toUInt16.toUInt32.toInt32)), .val (.int ((x2 &&& (255 : Int32)).toUInt32.toUInt16.toUInt32.toInt32))] [(.int 0), (.ref b1), (.ref b1)])) rfl (hb hby d1_33) rfl (by decide) (cap := 0) (by decide) (by decide) (by decide) (by decide)
    obtain ⟨b10, g10⟩ : ∃ z, z = h1.size := ⟨_, rfl⟩
    rw [← g10] at A10 st10
    have ne11 : b1 ≠ b10 := Nat.ne_of_lt (Nat.lt_of_lt_of_le A1.lt (Nat.le_of_eq g10.symm))
    have g12 : n0 ≤ b10 := Nat.le_trans O6.le (Nat.le_of_eq g10.symm)
    have z13 : h0.size ≤ b10 := Nat.le_trans K7.1 (Nat.le_of_eq g10.symm)
    have sf14 : Safe Z own_EL s.vm h1 b10 := Safe.new (Nat.le_of_eq g10.symm)
    have hkS := Nat.le_trans hkS E10.1
    have sf15 := Safe.ext E10 hH sf5
    have sf16 := Safe.ext E10 hH sf14
    have hR := hR.trans (CHr.ext E10 hH)
    have hH := CHv.ext E10 hH
    have F17 := A1.ext E10
    have F18 := F8.ext E10
    have F19 := F9.ext E10
    have O20 := O6.ext E10
    have K21 := K7.ext E10
    have F22 : Arv Z h10 b10 k10 .char (0 : Int32) [] (.int 0) := (Arv.new A10 (by decide)).pad (pad_rep [] (.int 0) 0)
    refine own_GH.st (T' := T10) 35 [(.ref b10), (.ref b1), (.ref b1)] st10 ?_
    obtain ⟨_, _, ⟨T23, L23, k23, n23⟩, -, X23, sS23, gS23, ⟨Lc23, hQ23, l23, y23, z23, ch23⟩, st23⟩ := X10.specialBackS hx (y := own_y2) rfl hown (mvT hZ (W_ 8 rfl)) (mvT hZ (W_ 9 rfl)) (mvT hZ (W_ 10 rfl)) (by decide) (backOfSH (vm0 := s.vm) (W := 1) (rm_str0 l Z a0 hw [] b1 b10 h10 n0 O20 F17 F18 F19 g2 (own_Len.arv F22)) hZ (W_ 10 rfl) (W_ 6 rfl) (by decide) (by decide) ew hH) (g := (mkF m 35 #[iv k, iv x0, iv x1, iv x2, .val (.int ((x0 &&& (255 : Int32)).toUInt32.toUInt16.toUInt32.toInt32)), .val (.int ((x1 &&& (255 : Int32)).toUInt32.toUInt16.toUInt32.toInt32)), .val (.int ((x2 &&& (255 : Int32)).toUInt32.toUInt16.toUInt32.toInt32))] [(.ref b10), (.ref b1), (.ref b1)])) rfl (by rw [hml]; rfl) (Steps.refl _) (a := b1) (argsL := [(.ref b10)]) (rest := [(.ref b1)]) (lenOf pd__28_5bC_29V rfl) rfl (by show 2 * 0 + _ ≤ _; exact Nat.le_of_eq rfl) (hb hby d1_35) (fun _ _ => ⟨rfl, e10, (by decide : 2 + 4 ≤ _), (by decide : 4 + 8 ≤ _)⟩)
    dsimp only [Pt.U, Pt.locs, Pt.cells, Pt.slots] at X23 l23 y23 z23 st23 hQ23 sS23 gS23 ch23
    subst l23 y23 z23
    obtain ⟨X23, hS, hZ, hown⟩ := rebS (vm0 := s.vm) hS (by rw [e10]; exact hkS) X23 sS23 gS23 hZ hown
    have sf24 := ch23.safe F17.lt sf15
    have sf25 := ch23.safe F22.lt sf16
    have hR := hR.trans ch23
    have hH := ch23.1
    obtain ⟨b26, x27, rfl, Nq23, P28, P29, P30, P31, P32⟩ := hQ23
    have N23 := Fr.app N0 Nq23
    have hkS := Nat.le_trans hkS P28.1
    have F33 := F17.keep P28
    have F34 := F22.keep P28 (ninS (Ne.symm ne11) nin0)
    have O35 := O20.keep P28 (allS g2 all0)
    have K36 := K21.trans P28 (allS (Or.inr z3) all0)
    have hkS : T23.heap.size ≤ T23.heap.size := Nat.le_refl _
    refine own_GH.st (T' := T23) 38 [(.ref b1)] (fun _ kq => st23.trans kq) ?_
    exact own_retH X23 hS rfl hkS hZ ew hH hh hR (v := some (.ref b1)) (fun h => by rw [Bd.returns] at h; cases h) Bd.notSynchronized ⟨b1, rfl, N23, K36, z3, P29⟩ (by decide) (by decide) (fun fs hr => own_retR X23 hx Bd.returns rfl rfl (hb hby d1_38) hr)
  · refine own_GH.sk 39 [] (fun _ kq => XS.ifYes X0.here hx rfl (pc0 := 25) (pc' := 39) rfl (hb hby d1_25) rfl ((if0 _ _).trans (feq hc25).2) (by decide) (by decide) kq) ?_
    refine own_GH.sk 40 [(.int k)] (fun _ kq => XS.iloadN X0.here hx rfl (hb hby d1_39) rfl kq) ?_
    refine own_GH.sk 41 [(.int 1), (.int k)] (fun _ kq => XS.iconst X0.here hx rfl (hb hby d1_40) kq) ?_
    rcases Classical.em (k = (1 : Int32)) with hc41 | hc41
    · refine own_GH.sk 44 [] (fun _ kq => XS.icmpNo X0.here hx rfl (hb hby d1_41) rfl (teq hc41).2 kq) ?_
      obtain ⟨T37, h37, X37, e37, E37, A37, D37, -, st37⟩ := newO X0 hx hZ hown (W_ 4 rfl) (W_ 5 rfl) (W_ 6 rfl) e0 (g := (mkF m 44 #[iv k, iv x0, iv x1, iv x2, .val (.int ((x0 &&& (255 : Int32)).toUInt32.toUInt16.toUInt32.toInt32)), .val (.int ((x1 &&& (255 : Int32)).toUInt32.toUInt16.toUInt32.toInt32)), .val (.int ((x2 &&& (255 : Int32)).toUInt32.toUInt16.toUInt32.toInt32))] [])) rfl (hb hby d1_44) (by decide) (by decide)
      obtain ⟨b37, g37⟩ : ∃ z, z = h0.size := ⟨_, rfl⟩
      rw [← g37] at A37 D37 st37
      have g38 : n0 ≤ b37 := Nat.le_trans O0.le (Nat.le_of_eq g37.symm)
      have z39 : h0.size ≤ b37 := Nat.le_trans K0.1 (Nat.le_of_eq g37.symm)
      have sf40 : Safe Z own_EL s.vm h0 b37 := Safe.new (Nat.le_of_eq g37.symm)
      have hkS := Nat.le_trans hkS E37.1
      have sf41 := Safe.ext E37 hH sf40
      have hR := hR.trans (CHr.ext E37 hH)
      have hH := CHv.ext E37 hH
      have O42 := O0.ext E37
      have K43 := K0.ext E37
      have F44 : Fld Z h37 b37 "java/lang/String" "value" "[B" .null := D37 (Or.inr (W_ 20 rfl)) (ty := (.array .byte)) (by decide)
      have F45 : Fld Z h37 b37 "java/lang/String" "coder" "B" (.int 0) := D37 (Or.inr (W_ 21 rfl)) (ty := .byte) (by decide)
      refine own_GH.st (T' := T37) 47 [(.ref b37)] st37 ?_
      refine own_GH.sk 48 [(.ref b37), (.ref b37)] (fun _ kq => XS.dup X37.here hx rfl (hb hby d1_47) rfl rfl kq) ?_
      refine own_GH.sk 49 [(.int 1), (.ref b37), (.ref b37)] (fun _ kq => XS.iconst X37.here hx rfl (hb hby d1_48) kq) ?_
      obtain ⟨T46, h46, k46, X46, e46, E46, A46, st46⟩ := newP X37 hx hZ (W_ 7 rfl) e37 (g := (mkF m 49 #[iv k, iv x0, iv x1, iv x2, .val (.int ((x0 &&& (255 : Int32)).toUInt32.toUInt16.toUInt32.toInt32)), .val (.int ((x1 &&& (255 : Int32)).toUInt32.toUInt16.toUInt32.toInt32)), .val (.int ((x2 &&& (255 : Int32)).toUInt32.toUInt16.toUInt32.toInt32))] [(.int 1), (.ref b37), (.ref b37)])) rfl (hb hby d1_49) rfl (by decide) (cap := 1) (by decide) (by decide) (by decide) (by decide)
      obtain ⟨b46, g46⟩ : ∃ z, z = h37.size := ⟨_, rfl⟩
      rw [← g46] at A46 st46
      have ne47 : b37 ≠ b46 := Nat.ne_of_lt (Nat.lt_of_lt_of_le A37.lt (Nat.le_of_eq g46.symm))
      have g48 : n0 ≤ b46 := Nat.le_trans O42.le (Nat.le_of_eq g46.symm)
      have z49 : h0.size ≤ b46 := Nat.le_trans K43.1 (Nat.le_of_eq g46.symm)
      have sf50 : Safe Z own_EL s.vm h37 b46 := Safe.new (Nat.le_of_eq g46.symm)
      have hkS := Nat.le_trans hkS E46.1
      have sf51 := Safe.ext E46 hH sf41
      have sf52 := Safe.ext E46 hH sf50
      have hR := hR.trans (CHr.ext E46 hH)
      have hH := CHv.ext E46 hH
      have F53 := A37.ext E46
      have F54 := F44.ext E46
      have F55 := F45.ext E46
      have O56 := O42.ext E46
      have K57 := K43.ext E46
      have F58 : Arv Z h46 b46 k46 .char (1 : Int32) [(.int 0)] (.int 0) := (Arv.new A46 (by decide)).pad (pad_rep [] (.int 0) 1)
      refine own_GH.st (T' := T46) 51 [(.ref b46), (.ref b37), (.ref b37)] st46 ?_
      refine own_GH.sk 52 [(.ref b46), (.ref b46), (.ref b37), (.ref b37)] (fun _ kq => XS.dup X46.here hx rfl (hb hby d1_51) rfl rfl kq) ?_
      refine own_GH.sk 53 [(.int 0), (.ref b46), (.ref b46), (.ref b37), (.ref b37)] (fun _ kq => XS.iconst X46.here hx rfl (hb hby d1_52) kq) ?_
      refine own_GH.sk 55 [(.int ((x0 &&& (255 : Int32)).toUInt32.toUInt16.toUInt32.toInt32)), (.int 0), (.ref b46), (.ref b46), (.ref b37), (.ref b37)] (fun _ kq => XS.iload X46.here hx rfl (hb hby d1_53) rfl kq) ?_
      obtain ⟨cl59, Ar59, q159, Sz59, Nz59, Hh59, Gg59⟩ := id F58
      obtain ⟨T59, h59, X59, e59, W59, st59⟩ := stC X46 hx hZ e46 Ar59 (j := (0 : Int32)) (inb_of Sz59 ⟨by decide, by decide⟩) (g := (mkF m 55 #[iv k, iv x0, iv x1, iv x2, .val (.int ((x0 &&& (255 : Int32)).toUInt32.toUInt16.toUInt32.toInt32)), .val (.int ((x1 &&& (255 : Int32)).toUInt32.toUInt16.toUInt32.toInt32)), .val (.int ((x2 &&& (255 : Int32)).toUInt32.toUInt16.toUInt32.toInt32))] [(.int ((x0 &&& (255 : Int32)).toUInt32.toUInt16.toUInt32.toInt32)), (.int 0), (.ref b46), (.ref b46), (.ref b37), (.ref b37)])) rfl rfl (hb hby d1_55)
      have F60 : Arv Z h59 b46 k46 .char (1 : Int32) [(.int (nar .char ((x0 &&& (255 : Int32)).toUInt32.toUInt16.toUInt32.toInt32)))] (.int 0) := Arv.set Ar59 q159 Sz59 Nz59 Hh59 Gg59 (fits_nar_char _) W59 0 rfl (Nat.le_of_ble_eq_true rfl)
      have N59 := Fr.snoc X59 N0 g48
      have hkS := Nat.le_trans hkS (Keep.of_wr W59).1
      have sf61 := Safe.wr W59 sf52 hH sf51
      have sf62 := Safe.wr W59 sf52 hH sf52
      have hR := hR.trans (CHr.wr W59 sf52 hH)
      have hH := CHv.wr W59 sf52 hH
      have F63 := F53.wr W59
      have F64 := F54.other W59 (Or.inl ne47)
      have F65 := F55.other W59 (Or.inl ne47)
      have O67 := O56.wr W59 g48
      have K68 := K57.wr W59 (Or.inr z49)
      refine own_GH.st (T' := T59) 56 [(.ref b46), (.ref b37), (.ref b37)] st59 ?_
      have hp69 : ∀ c ∈ ([(nar .char ((x0 &&& (255 : Int32)).toUInt32.toUInt16.toUInt32.toInt32))] : List Int32), ¬ c < 0 ∧ ¬ (255 : Int32) < c := by
        intro c hc
        simp only [List.mem_cons, List.not_mem_nil, or_false] at hc
        rcases hc with rfl
        · exact own_ch255 _
      obtain ⟨_, _, ⟨T70, L70, k70, n70⟩, -, X70, ⟨Lc70, hQ70, l70, y70, z70⟩, st70⟩ := X59.specialBack hx (y := own_y2) rfl hown (mvT hZ (W_ 8 rfl)) (mvT hZ (W_ 9 rfl)) (mvT hZ (W_ 10 rfl)) (by decide) (StrChars.Road.backV (W := 1) hZ hws (kI := 4) (W_ 5 rfl) (cs := ([(nar .char ((x0 &&& (255 : Int32)).toUInt32.toUInt16.toUInt32.toInt32))] : List Int32)) (bs := (([(nar .char ((x0 &&& (255 : Int32)).toUInt32.toUInt16.toUInt32.toInt32))] : List Int32).map (fun c => c.toInt8.toInt32))) (n := 1) g38 O67.le F63 F64 F65 F60 (Sta.ext O67.2 S_CS) hcs rfl rfl (by decide) (by decide) hp69 rfl (by decide) (by decide)) (g := (mkF m 56 #[iv k, iv x0, iv x1, iv x2, .val (.int ((x0 &&& (255 : Int32)).toUInt32.toUInt16.toUInt32.toInt32)), .val (.int ((x1 &&& (255 : Int32)).toUInt32.toUInt16.toUInt32.toInt32)), .val (.int ((x2 &&& (255 : Int32)).toUInt32.toUInt16.toUInt32.toInt32))] [(.ref b46), (.ref b37), (.ref b37)])) rfl (by rw [hml]; rfl) (Steps.refl _) (a := b37) (argsL := [(.ref b46)]) (rest := [(.ref b37)]) (lenOf pd__28_5bC_29V rfl) rfl (by show 2 * 0 + _ ≤ _; exact Nat.le_of_eq rfl) (hb hby d1_56) (fun _ _ => ⟨rfl, e59, (by decide : 2 + 1 ≤ _), (by decide : 5 + 1 ≤ _)⟩)
      dsimp only [Pt.U, Pt.locs, Pt.cells, Pt.slots] at X70 l70 y70 z70 st70 hQ70
      subst l70 y70 z70
      obtain ⟨rfl, P71, P72, P73, P74, b75, kx76, P77, P78, P79, P80, P81⟩ := hQ70
      have N70 := Fr.app N59 P71
      have ne82 : b37 ≠ b75 := Nat.ne_of_lt (Nat.lt_of_lt_of_le F63.lt P78)
      have ne83 : b46 ≠ b75 := Nat.ne_of_lt (Nat.lt_of_lt_of_le F60.lt P78)
      have g84 : n0 ≤ b75 := Nat.le_trans O67.le P78
      have z85 : h0.size ≤ b75 := Nat.le_trans K68.1 P78
      have sf86 : Safe Z own_EL s.vm h59 b75 := Safe.new P78
      have hkS := Nat.le_trans hkS P72.1
      have sf87 := Safe.keep P72 (sfS sf61 sf0) hH sf61
      have sf88 := Safe.keep P72 (sfS sf61 sf0) hH sf62
      have sf89 := Safe.keep P72 (sfS sf61 sf0) hH sf86
      have hR := hR.trans (CHr.keep P72 (sfS sf61 sf0) hH)
      have hH := CHv.keep P72 (sfS sf61 sf0) hH
      have F90 := F63.keep P72
      have F91 := F60.keep P72 (ninS (Ne.symm ne47) nin0)
      have O92 := O67.keep P72 (allS g38 all0)
      have K93 := K68.trans P72 (allS (Or.inr z39) all0)
      refine own_GH.st (T' := T70) 59 [(.ref b37)] (fun _ kq => st70.trans kq) ?_
      exact own_retH X70 hS rfl hkS hZ ew hH hh hR (v := some (.ref b37)) (fun h => by rw [Bd.returns] at h; cases h) Bd.notSynchronized ⟨b37, rfl, N70, K93, z39, P73⟩ (by decide) (by decide) (fun fs hr => own_retR X70 hx Bd.returns rfl rfl (hb hby d1_59) hr)
    · refine own_GH.sk 60 [] (fun _ kq => XS.icmpYes X0.here hx rfl (pc0 := 41) (pc' := 60) rfl (hb hby d1_41) rfl (feq hc41).2 (by decide) (by decide) kq) ?_
      refine own_GH.sk 61 [(.int k)] (fun _ kq => XS.iloadN X0.here hx rfl (hb hby d1_60) rfl kq) ?_
      refine own_GH.sk 62 [(.int 2), (.int k)] (fun _ kq => XS.iconst X0.here hx rfl (hb hby d1_61) kq) ?_
      rcases Classical.em (k = (2 : Int32)) with hc62 | hc62
      · refine own_GH.sk 65 [] (fun _ kq => XS.icmpNo X0.here hx rfl (hb hby d1_62) rfl (teq hc62).2 kq) ?_
        obtain ⟨T94, h94, X94, e94, E94, A94, D94, -, st94⟩ := newO X0 hx hZ hown (W_ 4 rfl) (W_ 5 rfl) (W_ 6 rfl) e0 (g := (mkF m 65 #[iv k, iv x0, iv x1, iv x2, .val (.int ((x0 &&& (255 : Int32)).toUInt32.toUInt16.toUInt32.toInt32)), .val (.int ((x1 &&& (255 : Int32)).toUInt32.toUInt16.toUInt32.toInt32)), .val (.int ((x2 &&& (255 : Int32)).toUInt32.toUInt16.toUInt32.toInt32))] [])) rfl (hb hby d1_65) (by decide) (by decide)
        obtain ⟨b94, g94⟩ : ∃ z, z = h0.size := ⟨_, rfl⟩
        rw [← g94] at A94 D94 st94
        have g95 : n0 ≤ b94 := Nat.le_trans O0.le (Nat.le_of_eq g94.symm)
        have z96 : h0.size ≤ b94 := Nat.le_trans K0.1 (Nat.le_of_eq g94.symm)
        have sf97 : Safe Z own_EL s.vm h0 b94 := Safe.new (Nat.le_of_eq g94.symm)
        have hkS := Nat.le_trans hkS E94.1
        have sf98 := Safe.ext E94 hH sf97
        have hR := hR.trans (CHr.ext E94 hH)
        have hH := CHv.ext E94 hH
        have O99 := O0.ext E94
        have K100 := K0.ext E94
        have F101 : Fld Z h94 b94 "java/lang/String" "value" "[B" .null := D94 (Or.inr (W_ 20 rfl)) (ty := (.array .byte)) (by decide)
        have F102 : Fld Z h94 b94 "java/lang/String" "coder" "B" (.int 0) := D94 (Or.inr (W_ 21 rfl)) (ty := .byte) (by decide)
        refine own_GH.st (T' := T94) 68 [(.ref b94)] st94 ?_
        refine own_GH.sk 69 [(.ref b94), (.ref b94)] (fun _ kq => XS.dup X94.here hx rfl (hb hby d1_68) rfl rfl kq) ?_
        refine own_GH.sk 70 [(.int 2), (.ref b94), (.ref b94)] (fun _ kq => XS.iconst X94.here hx rfl (hb hby d1_69) kq) ?_
        obtain ⟨T103, h103, k103, X103, e103, E103, A103, st103⟩ := newP X94 hx hZ (W_ 7 rfl) e94 (g := (mkF m 70 #[iv k, iv x0, iv x1, iv x2, .val (.int ((x0 &&& (255 : Int32)).toUInt32.toUInt16.toUInt32.toInt32)), .val (.int ((x1 &&& (255 : Int32)).toUInt32.toUInt16.toUInt32.toInt32)), .val (.int ((x2 &&& (255 : Int32)).toUInt32.toUInt16.toUInt32.toInt32))] [(.int 2), (.ref b94), (.ref b94)])) rfl (hb hby d1_70) rfl (by decide) (cap := 2) (by decide) (by decide) (by decide) (by decide)
        obtain ⟨b103, g103⟩ : ∃ z, z = h94.size := ⟨_, rfl⟩
        rw [← g103] at A103 st103
        have ne104 : b94 ≠ b103 := Nat.ne_of_lt (Nat.lt_of_lt_of_le A94.lt (Nat.le_of_eq g103.symm))
        have g105 : n0 ≤ b103 := Nat.le_trans O99.le (Nat.le_of_eq g103.symm)
        have z106 : h0.size ≤ b103 := Nat.le_trans K100.1 (Nat.le_of_eq g103.symm)
        have sf107 : Safe Z own_EL s.vm h94 b103 := Safe.new (Nat.le_of_eq g103.symm)
        have hkS := Nat.le_trans hkS E103.1
        have sf108 := Safe.ext E103 hH sf98
        have sf109 := Safe.ext E103 hH sf107
        have hR := hR.trans (CHr.ext E103 hH)
        have hH := CHv.ext E103 hH
        have F110 := A94.ext E103
        have F111 := F101.ext E103
        have F112 := F102.ext E103
        have O113 := O99.ext E103
        have K114 := K100.ext E103
        have F115 : Arv Z h103 b103 k103 .char (2 : Int32) [(.int 0), (.int 0)] (.int 0) := (Arv.new A103 (by decide)).pad (pad_rep [] (.int 0) 2)
        refine own_GH.st (T' := T103) 72 [(.ref b103), (.ref b94), (.ref b94)] st103 ?_
        refine own_GH.sk 73 [(.ref b103), (.ref b103), (.ref b94), (.ref b94)] (fun _ kq => XS.dup X103.here hx rfl (hb hby d1_72) rfl rfl kq) ?_
        refine own_GH.sk 74 [(.int 0), (.ref b103), (.ref b103), (.ref b94), (.ref b94)] (fun _ kq => XS.iconst X103.here hx rfl (hb hby d1_73) kq) ?_
        refine own_GH.sk 76 [(.int ((x0 &&& (255 : Int32)).toUInt32.toUInt16.toUInt32.toInt32)), (.int 0), (.ref b103), (.ref b103), (.ref b94), (.ref b94)] (fun _ kq => XS.iload X103.here hx rfl (hb hby d1_74) rfl kq) ?_
        obtain ⟨cl116, Ar116, q1116, Sz116, Nz116, Hh116, Gg116⟩ := id F115
        obtain ⟨T116, h116, X116, e116, W116, st116⟩ := stC X103 hx hZ e103 Ar116 (j := (0 : Int32)) (inb_of Sz116 ⟨by decide, by decide⟩) (g := (mkF m 76 #[iv k, iv x0, iv x1, iv x2, .val (.int ((x0 &&& (255 : Int32)).toUInt32.toUInt16.toUInt32.toInt32)), .val (.int ((x1 &&& (255 : Int32)).toUInt32.toUInt16.toUInt32.toInt32)), .val (.int ((x2 &&& (255 : Int32)).toUInt32.toUInt16.toUInt32.toInt32))] [(.int ((x0 &&& (255 : Int32)).toUInt32.toUInt16.toUInt32.toInt32)), (.int 0), (.ref b103), (.ref b103), (.ref b94), (.ref b94)])) rfl rfl (hb hby d1_76)
        have F117 : Arv Z h116 b103 k103 .char (2 : Int32) [(.int (nar .char ((x0 &&& (255 : Int32)).toUInt32.toUInt16.toUInt32.toInt32))), (.int 0)] (.int 0) := Arv.set Ar116 q1116 Sz116 Nz116 Hh116 Gg116 (fits_nar_char _) W116 0 rfl (Nat.le_of_ble_eq_true rfl)
        have N116 := Fr.snoc X116 N0 g105
        have hkS := Nat.le_trans hkS (Keep.of_wr W116).1
        have sf118 := Safe.wr W116 sf109 hH sf108
        have sf119 := Safe.wr W116 sf109 hH sf109
        have hR := hR.trans (CHr.wr W116 sf109 hH)
        have hH := CHv.wr W116 sf109 hH
        have F120 := F110.wr W116
        have F121 := F111.other W116 (Or.inl ne104)
        have F122 := F112.other W116 (Or.inl ne104)
        have O124 := O113.wr W116 g105
        have K125 := K114.wr W116 (Or.inr z106)
        refine own_GH.st (T' := T116) 77 [(.ref b103), (.ref b94), (.ref b94)] st116 ?_
        refine own_GH.sk 78 [(.ref b103), (.ref b103), (.ref b94), (.ref b94)] (fun _ kq => XS.dup X116.here hx rfl (hb hby d1_77) rfl rfl kq) ?_
        refine own_GH.sk 79 [(.int 1), (.ref b103), (.ref b103), (.ref b94), (.ref b94)] (fun _ kq => XS.iconst X116.here hx rfl (hb hby d1_78) kq) ?_
        refine own_GH.sk 81 [(.int ((x1 &&& (255 : Int32)).toUInt32.toUInt16.toUInt32.toInt32)), (.int 1), (.ref b103), (.ref b103), (.ref b94), (.ref b94)] (fun _ kq => XS.iload X116.here hx rfl (hb hby d1_79) rfl kq) ?_
        obtain ⟨cl126, Ar126, q1126, Sz126, Nz126, Hh126, Gg126⟩ := id F117
        obtain ⟨T126, h126, X126, e126, W126, st126⟩ := stC X116 hx hZ e116 Ar126 (j := (1 : Int32)) (inb_of Sz126 ⟨by decide, by decide⟩) (g := (mkF m 81 #[iv k, iv x0, iv x1, iv x2, .val (.int ((x0 &&& (255 : Int32)).toUInt32.toUInt16.toUInt32.toInt32)), .val (.int ((x1 &&& (255 : Int32)).toUInt32.toUInt16.toUInt32.toInt32)), .val (.int ((x2 &&& (255 : Int32)).toUInt32.toUInt16.toUInt32.toInt32))] [(.int ((x1 &&& (255 : Int32)).toUInt32.toUInt16.toUInt32.toInt32)), (.int 1), (.ref b103), (.ref b103), (.ref b94), (.ref b94)])) rfl rfl (hb hby d1_81)
        have F127 : Arv Z h126 b103 k103 .char (2 : Int32) [(.int (nar .char ((x0 &&& (255 : Int32)).toUInt32.toUInt16.toUInt32.toInt32))), (.int (nar .char ((x1 &&& (255 : Int32)).toUInt32.toUInt16.toUInt32.toInt32)))] (.int 0) := Arv.set Ar126 q1126 Sz126 Nz126 Hh126 Gg126 (fits_nar_char _) W126 1 rfl (Nat.le_of_ble_eq_true rfl)
        have N126 := Fr.snoc X126 N116 g105
        have hkS := Nat.le_trans hkS (Keep.of_wr W126).1
        have sf128 := Safe.wr W126 sf119 hH sf118
        have sf129 := Safe.wr W126 sf119 hH sf119
        have hR := hR.trans (CHr.wr W126 sf119 hH)
        have hH := CHv.wr W126 sf119 hH
        have F130 := F120.wr W126
        have F131 := F121.other W126 (Or.inl ne104)
        have F132 := F122.other W126 (Or.inl ne104)
        have O134 := O124.wr W126 g105
        have K135 := K125.wr W126 (Or.inr z106)
        refine own_GH.st (T' := T126) 82 [(.ref b103), (.ref b94), (.ref b94)] st126 ?_
        have hp136 : ∀ c ∈ ([(nar .char ((x0 &&& (255 : Int32)).toUInt32.toUInt16.toUInt32.toInt32)), (nar .char ((x1 &&& (255 : Int32)).toUInt32.toUInt16.toUInt32.toInt32))] : List Int32), ¬ c < 0 ∧ ¬ (255 : Int32) < c := by
          intro c hc
          simp only [List.mem_cons, List.not_mem_nil, or_false] at hc
          rcases hc with rfl | rfl
          · exact own_ch255 _
          · exact own_ch255 _
        obtain ⟨_, _, ⟨T137, L137, k137, n137⟩, -, X137, ⟨Lc137, hQ137, l137, y137, z137⟩, st137⟩ := X126.specialBack hx (y := own_y2) rfl hown (mvT hZ (W_ 8 rfl)) (mvT hZ (W_ 9 rfl)) (mvT hZ (W_ 10 rfl)) (by decide) (StrChars.Road.backV (W := 1) hZ hws (kI := 4) (W_ 5 rfl) (cs := ([(nar .char ((x0 &&& (255 : Int32)).toUInt32.toUInt16.toUInt32.toInt32)), (nar .char ((x1 &&& (255 : Int32)).toUInt32.toUInt16.toUInt32.toInt32))] : List Int32)) (bs := (([(nar .char ((x0 &&& (255 : Int32)).toUInt32.toUInt16.toUInt32.toInt32)), (nar .char ((x1 &&& (255 : Int32)).toUInt32.toUInt16.toUInt32.toInt32))] : List Int32).map (fun c => c.toInt8.toInt32))) (n := 2) g95 O134.le F130 F131 F132 F127 (Sta.ext O134.2 S_CS) hcs rfl rfl (by decide) (by decide) hp136 rfl (by decide) (by decide)) (g := (mkF m 82 #[iv k, iv x0, iv x1, iv x2, .val (.int ((x0 &&& (255 : Int32)).toUInt32.toUInt16.toUInt32.toInt32)), .val (.int ((x1 &&& (255 : Int32)).toUInt32.toUInt16.toUInt32.toInt32)), .val (.int ((x2 &&& (255 : Int32)).toUInt32.toUInt16.toUInt32.toInt32))] [(.ref b103), (.ref b94), (.ref b94)])) rfl (by rw [hml]; rfl) (Steps.refl _) (a := b94) (argsL := [(.ref b103)]) (rest := [(.ref b94)]) (lenOf pd__28_5bC_29V rfl) rfl (by show 2 * 0 + _ ≤ _; exact Nat.le_of_eq rfl) (hb hby d1_82) (fun _ _ => ⟨rfl, e126, (by decide : 2 + 1 ≤ _), (by decide : 6 + 2 ≤ _)⟩)
        dsimp only [Pt.U, Pt.locs, Pt.cells, Pt.slots] at X137 l137 y137 z137 st137 hQ137
        subst l137 y137 z137
        obtain ⟨rfl, P138, P139, P140, P141, b142, kx143, P144, P145, P146, P147, P148⟩ := hQ137
        have N137 := Fr.app N126 P138
        have ne149 : b94 ≠ b142 := Nat.ne_of_lt (Nat.lt_of_lt_of_le F130.lt P145)
        have ne150 : b103 ≠ b142 := Nat.ne_of_lt (Nat.lt_of_lt_of_le F127.lt P145)
        have g151 : n0 ≤ b142 := Nat.le_trans O134.le P145
        have z152 : h0.size ≤ b142 := Nat.le_trans K135.1 P145
        have sf153 : Safe Z own_EL s.vm h126 b142 := Safe.new P145
        have hkS := Nat.le_trans hkS P139.1
        have sf154 := Safe.keep P139 (sfS sf128 sf0) hH sf128
        have sf155 := Safe.keep P139 (sfS sf128 sf0) hH sf129
        have sf156 := Safe.keep P139 (sfS sf128 sf0) hH sf153
        have hR := hR.trans (CHr.keep P139 (sfS sf128 sf0) hH)
        have hH := CHv.keep P139 (sfS sf128 sf0) hH
        have F157 := F130.keep P139
        have F158 := F127.keep P139 (ninS (Ne.symm ne104) nin0)
        have O159 := O134.keep P139 (allS g95 all0)
        have K160 := K135.trans P139 (allS (Or.inr z96) all0)
        refine own_GH.st (T' := T137) 85 [(.ref b94)] (fun _ kq => st137.trans kq) ?_
        exact own_retH X137 hS rfl hkS hZ ew hH hh hR (v := some (.ref b94)) (fun h => by rw [Bd.returns] at h; cases h) Bd.notSynchronized ⟨b94, rfl, N137, K160, z96, P140⟩ (by decide) (by decide) (fun fs hr => own_retR X137 hx Bd.returns rfl rfl (hb hby d1_85) hr)
      · refine own_GH.sk 86 [] (fun _ kq => XS.icmpYes X0.here hx rfl (pc0 := 62) (pc' := 86) rfl (hb hby d1_62) rfl (feq hc62).2 (by decide) (by decide) kq) ?_
        obtain ⟨T161, h161, X161, e161, E161, A161, D161, -, st161⟩ := newO X0 hx hZ hown (W_ 4 rfl) (W_ 5 rfl) (W_ 6 rfl) e0 (g := (mkF m 86 #[iv k, iv x0, iv x1, iv x2, .val (.int ((x0 &&& (255 : Int32)).toUInt32.toUInt16.toUInt32.toInt32)), .val (.int ((x1 &&& (255 : Int32)).toUInt32.toUInt16.toUInt32.toInt32)), .val (.int ((x2 &&& (255 : Int32)).toUInt32.toUInt16.toUInt32.toInt32))] [])) rfl (hb hby d1_86) (by decide) (by decide)
        obtain ⟨b161, g161⟩ : ∃ z, z = h0.size := ⟨_, rfl⟩
        rw [← g161] at A161 D161 st161
        have g162 : n0 ≤ b161 := Nat.le_trans O0.le (Nat.le_of_eq g161.symm)
        have z163 : h0.size ≤ b161 := Nat.le_trans K0.1 (Nat.le_of_eq g161.symm)
        have sf164 : Safe Z own_EL s.vm h0 b161 := Safe.new (Nat.le_of_eq g161.symm)
        have hkS := Nat.le_trans hkS E161.1
        have sf165 := Safe.ext E161 hH sf164
        have hR := hR.trans (CHr.ext E161 hH)
        have hH := CHv.ext E161 hH
        have O166 := O0.ext E161
        have K167 := K0.ext E161
        have F168 : Fld Z h161 b161 "java/lang/String" "value" "[B" .null := D161 (Or.inr (W_ 20 rfl)) (ty := (.array .byte)) (by decide)
        have F169 : Fld Z h161 b161 "java/lang/String" "coder" "B" (.int 0) := D161 (Or.inr (W_ 21 rfl)) (ty := .byte) (by decide)
        refine own_GH.st (T' := T161) 89 [(.ref b161)] st161 ?_
        refine own_GH.sk 90 [(.ref b161), (.ref b161)] (fun _ kq => XS.dup X161.here hx rfl (hb hby d1_89) rfl rfl kq) ?_
        refine own_GH.sk 91 [(.int 3), (.ref b161), (.ref b161)] (fun _ kq => XS.iconst X161.here hx rfl (hb hby d1_90) kq) ?_
        obtain ⟨T170, h170, k170, X170, e170, E170, A170, st170⟩ := newP X161 hx hZ (W_ 7 rfl) e161 (g := (mkF m 91 #[iv k, iv x0, iv x1, iv x2, .val (.int ((x0 &&& (255 : Int32)).toUInt32.toUInt16.toUInt32.toInt32)), .val (.int ((x1 &&& (255 : Int32)).toUInt32.toUInt16.toUInt32.toInt32)), .val (.int ((x2 &&& (255 : Int32)).toUInt32.toUInt16.toUInt32.toInt32))] [(.int 3), (.ref b161), (.ref b161)])) rfl (hb hby d1_91) rfl (by decide) (cap := 3) (by decide) (by decide) (by decide) (by decide)
        obtain ⟨b170, g170⟩ : ∃ z, z = h161.size := ⟨_, rfl⟩
        rw [← g170] at A170 st170
        have ne171 : b161 ≠ b170 := Nat.ne_of_lt (Nat.lt_of_lt_of_le A161.lt (Nat.le_of_eq g170.symm))
        have g172 : n0 ≤ b170 := Nat.le_trans O166.le (Nat.le_of_eq g170.symm)
        have z173 : h0.size ≤ b170 := Nat.le_trans K167.1 (Nat.le_of_eq g170.symm)
        have sf174 : Safe Z own_EL s.vm h161 b170 := Safe.new (Nat.le_of_eq g170.symm)
        have hkS := Nat.le_trans hkS E170.1
        have sf175 := Safe.ext E170 hH sf165
        have sf176 := Safe.ext E170 hH sf174
        have hR := hR.trans (CHr.ext E170 hH)
        have hH := CHv.ext E170 hH
        have F177 := A161.ext E170
        have F178 := F168.ext E170
        have F179 := F169.ext E170
        have O180 := O166.ext E170
        have K181 := K167.ext E170
        have F182 : Arv Z h170 b170 k170 .char (3 : Int32) [(.int 0), (.int 0), (.int 0)] (.int 0) := (Arv.new A170 (by decide)).pad (pad_rep [] (.int 0) 3)
        refine own_GH.st (T' := T170) 93 [(.ref b170), (.ref b161), (.ref b161)] st170 ?_
        refine own_GH.sk 94 [(.ref b170), (.ref b170), (.ref b161), (.ref b161)] (fun _ kq => XS.dup X170.here hx rfl (hb hby d1_93) rfl rfl kq) ?_
        refine own_GH.sk 95 [(.int 0), (.ref b170), (.ref b170), (.ref b161), (.ref b161)] (fun _ kq => XS.iconst X170.here hx rfl (hb hby d1_94) kq) ?_
        refine own_GH.sk 97 [(.int ((x0 &&& (255 : Int32)).toUInt32.toUInt16.toUInt32.toInt32)), (.int 0), (.ref b170), (.ref b170), (.ref b161), (.ref b161)] (fun _ kq => XS.iload X170.here hx rfl (hb hby d1_95) rfl kq) ?_
        obtain ⟨cl183, Ar183, q1183, Sz183, Nz183, Hh183, Gg183⟩ := id F182
        obtain ⟨T183, h183, X183, e183, W183, st183⟩ := stC X170 hx hZ e170 Ar183 (j := (0 : Int32)) (inb_of Sz183 ⟨by decide, by decide⟩) (g := (mkF m 97 #[iv k, iv x0, iv x1, iv x2, .val (.int ((x0 &&& (255 : Int32)).toUInt32.toUInt16.toUInt32.toInt32)), .val (.int ((x1 &&& (255 : Int32)).toUInt32.toUInt16.toUInt32.toInt32)), .val (.int ((x2 &&& (255 : Int32)).toUInt32.toUInt16.toUInt32.toInt32))] [(.int ((x0 &&& (255 : Int32)).toUInt32.toUInt16.toUInt32.toInt32)), (.int 0), (.ref b170), (.ref b170), (.ref b161), (.ref b161)])) rfl rfl (hb hby d1_97)
        have F184 : Arv Z h183 b170 k170 .char (3 : Int32) [(.int (nar .char ((x0 &&& (255 : Int32)).toUInt32.toUInt16.toUInt32.toInt32))), (.int 0), (.int 0)] (.int 0) := Arv.set Ar183 q1183 Sz183 Nz183 Hh183 Gg183 (fits_nar_char _) W183 0 rfl (Nat.le_of_ble_eq_true rfl)
        have N183 := Fr.snoc X183 N0 g172
        have hkS := Nat.le_trans hkS (Keep.of_wr W183).1
        have sf185 := Safe.wr W183 sf176 hH sf175
        have sf186 := Safe.wr W183 sf176 hH sf176
        have hR := hR.trans (CHr.wr W183 sf176 hH)
        have hH := CHv.wr W183 sf176 hH
        have F187 := F177.wr W183
        have F188 := F178.other W183 (Or.inl ne171)
        have F189 := F179.other W183 (Or.inl ne171)
        have O191 := O180.wr W183 g172
        have K192 := K181.wr W183 (Or.inr z173)
        refine own_GH.st (T' := T183) 98 [(.ref b170), (.ref b161), (.ref b161)] st183 ?_
        refine own_GH.sk 99 [(.ref b170), (.ref b170), (.ref b161), (.ref b161)] (fun _ kq => XS.dup X183.here hx rfl (hb hby d1_98) rfl rfl kq) ?_
        refine own_GH.sk 100 [(.int 1), (.ref b170), (.ref b170), (.ref b161), (.ref b161)] (fun _ kq => XS.iconst X183.here hx rfl (hb hby d1_99) kq) ?_
        refine own_GH.sk 102 [(.int ((x1 &&& (255 : Int32)).toUInt32.toUInt16.toUInt32.toInt32)), (.int 1), (.ref b170), (.ref b170), (.ref b161), (.ref b161)] (fun _ kq => XS.iload X183.here hx rfl (hb hby d1_100) rfl kq) ?_
        obtain ⟨cl193, Ar193, q1193, Sz193, Nz193, Hh193, Gg193⟩ := id F184
        obtain ⟨T193, h193, X193, e193, W193, st193⟩ := stC X183 hx hZ e183 Ar193 (j := (1 : Int32)) (inb_of Sz193 ⟨by decide, by decide⟩) (g := (mkF m 102 #[iv k, iv x0, iv x1, iv x2, .val (.int ((x0 &&& (255 : Int32)).toUInt32.toUInt16.toUInt32.toInt32)), .val (.int ((x1 &&& (255 : Int32)).toUInt32.toUInt16.toUInt32.toInt32)), .val (.int ((x2 &&& (255 : Int32)).toUInt32.toUInt16.toUInt32.toInt32))] [(.int ((x1 &&& (255 : Int32)).toUInt32.toUInt16.toUInt32.toInt32)), (.int 1), (.ref b170), (.ref b170), (.ref b161), (.ref b161)])) rfl rfl (hb hby d1_102)
        have F194 : Arv Z h193 b170 k170 .char (3 : Int32) [(.int (nar .char ((x0 &&& (255 : Int32)).toUInt32.toUInt16.toUInt32.toInt32))), (.int (nar .char ((x1 &&& (255 : Int32)).toUInt32.toUInt16.toUInt32.toInt32))), (.int 0)] (.int 0) := Arv.set Ar193 q1193 Sz193 Nz193 Hh193 Gg193 (fits_nar_char _) W193 1 rfl (Nat.le_of_ble_eq_true rfl)
        have N193 := Fr.snoc X193 N183 g172
        have hkS := Nat.le_trans hkS (Keep.of_wr W193).1
        have sf195 := Safe.wr W193 sf186 hH sf185
        have sf196 := Safe.wr W193 sf186 hH sf186
        have hR := hR.trans (CHr.wr W193 sf186 hH)
        have hH := CHv.wr W193 sf186 hH
        have F197 := F187.wr W193
        have F198 := F188.other W193 (Or.inl ne171)
        have F199 := F189.other W193 (Or.inl ne171)
        have O201 := O191.wr W193 g172
        have K202 := K192.wr W193 (Or.inr z173)
        refine own_GH.st (T' := T193) 103 [(.ref b170), (.ref b161), (.ref b161)] st193 ?_
        refine own_GH.sk 104 [(.ref b170), (.ref b170), (.ref b161), (.ref b161)] (fun _ kq => XS.dup X193.here hx rfl (hb hby d1_103) rfl rfl kq) ?_
        refine own_GH.sk 105 [(.int 2), (.ref b170), (.ref b170), (.ref b161), (.ref b161)] (fun _ kq => XS.iconst X193.here hx rfl (hb hby d1_104) kq) ?_
        refine own_GH.sk 107 [(.int ((x2 &&& (255 : Int32)).toUInt32.toUInt16.toUInt32.toInt32)), (.int 2), (.ref b170), (.ref b170), (.ref b161), (.ref b161)] (fun _ kq => XS.iload X193.here hx rfl (hb hby d1_105) rfl kq) ?_
        obtain ⟨cl203, Ar203, q1203, Sz203, Nz203, Hh203, Gg203⟩ := id F194
        obtain ⟨T203, h203, X203, e203, W203, st203⟩ := stC X193 hx hZ e193 Ar203 (j := (2 : Int32)) (inb_of Sz203 ⟨by decide, by decide⟩) (g := (mkF m 107 #[iv k, iv x0, iv x1, iv x2, .val (.int ((x0 &&& (255 : Int32)).toUInt32.toUInt16.toUInt32.toInt32)), .val (.int ((x1 &&& (255 : Int32)).toUInt32.toUInt16.toUInt32.toInt32)), .val (.int ((x2 &&& (255 : Int32)).toUInt32.toUInt16.toUInt32.toInt32))] [(.int ((x2 &&& (255 : Int32)).toUInt32.toUInt16.toUInt32.toInt32)), (.int 2), (.ref b170), (.ref b170), (.ref b161), (.ref b161)])) rfl rfl (hb hby d1_107)
        have F204 : Arv Z h203 b170 k170 .char (3 : Int32) [(.int (nar .char ((x0 &&& (255 : Int32)).toUInt32.toUInt16.toUInt32.toInt32))), (.int (nar .char ((x1 &&& (255 : Int32)).toUInt32.toUInt16.toUInt32.toInt32))), (.int (nar .char ((x2 &&& (255 : Int32)).toUInt32.toUInt16.toUInt32.toInt32)))] (.int 0) := Arv.set Ar203 q1203 Sz203 Nz203 Hh203 Gg203 (fits_nar_char _) W203 2 rfl (Nat.le_of_ble_eq_true rfl)
        have N203 := Fr.snoc X203 N193 g172
        have hkS := Nat.le_trans hkS (Keep.of_wr W203).1
        have sf205 := Safe.wr W203 sf196 hH sf195
        have sf206 := Safe.wr W203 sf196 hH sf196
        have hR := hR.trans (CHr.wr W203 sf196 hH)
        have hH := CHv.wr W203 sf196 hH
        have F207 := F197.wr W203
        have F208 := F198.other W203 (Or.inl ne171)
        have F209 := F199.other W203 (Or.inl ne171)
        have O211 := O201.wr W203 g172
        have K212 := K202.wr W203 (Or.inr z173)
        refine own_GH.st (T' := T203) 108 [(.ref b170), (.ref b161), (.ref b161)] st203 ?_
        have hp213 : ∀ c ∈ ([(nar .char ((x0 &&& (255 : Int32)).toUInt32.toUInt16.toUInt32.toInt32)), (nar .char ((x1 &&& (255 : Int32)).toUInt32.toUInt16.toUInt32.toInt32)), (nar .char ((x2 &&& (255 : Int32)).toUInt32.toUInt16.toUInt32.toInt32))] : List Int32), ¬ c < 0 ∧ ¬ (255 : Int32) < c := by
          intro c hc
          simp only [List.mem_cons, List.not_mem_nil, or_false] at hc
          rcases hc with rfl | rfl | rfl
          · exact own_ch255 _
          · exact own_ch255 _
          · exact own_ch255 _
        obtain ⟨_, _, ⟨T214, L214, k214, n214⟩, -, X214, ⟨Lc214, hQ214, l214, y214, z214⟩, st214⟩ := X203.specialBack hx (y := own_y2) rfl hown (mvT hZ (W_ 8 rfl)) (mvT hZ (W_ 9 rfl)) (mvT hZ (W_ 10 rfl)) (by decide) (StrChars.Road.backV (W := 1) hZ hws (kI := 4) (W_ 5 rfl) (cs := ([(nar .char ((x0 &&& (255 : Int32)).toUInt32.toUInt16.toUInt32.toInt32)), (nar .char ((x1 &&& (255 : Int32)).toUInt32.toUInt16.toUInt32.toInt32)), (nar .char ((x2 &&& (255 : Int32)).toUInt32.toUInt16.toUInt32.toInt32))] : List Int32)) (bs := (([(nar .char ((x0 &&& (255 : Int32)).toUInt32.toUInt16.toUInt32.toInt32)), (nar .char ((x1 &&& (255 : Int32)).toUInt32.toUInt16.toUInt32.toInt32)), (nar .char ((x2 &&& (255 : Int32)).toUInt32.toUInt16.toUInt32.toInt32))] : List Int32).map (fun c => c.toInt8.toInt32))) (n := 3) g162 O211.le F207 F208 F209 F204 (Sta.ext O211.2 S_CS) hcs rfl rfl (by decide) (by decide) hp213 rfl (by decide) (by decide)) (g := (mkF m 108 #[iv k, iv x0, iv x1, iv x2, .val (.int ((x0 &&& (255 : Int32)).toUInt32.toUInt16.toUInt32.toInt32)), .val (.int ((x1 &&& (255 : Int32)).toUInt32.toUInt16.toUInt32.toInt32)), .val (.int ((x2 &&& (255 : Int32)).toUInt32.toUInt16.toUInt32.toInt32))] [(.ref b170), (.ref b161), (.ref b161)])) rfl (by rw [hml]; rfl) (Steps.refl _) (a := b161) (argsL := [(.ref b170)]) (rest := [(.ref b161)]) (lenOf pd__28_5bC_29V rfl) rfl (by show 2 * 0 + _ ≤ _; exact Nat.le_of_eq rfl) (hb hby d1_108) (fun _ _ => ⟨rfl, e203, (by decide : 2 + 1 ≤ _), (by decide : 7 + 3 ≤ _)⟩)
        dsimp only [Pt.U, Pt.locs, Pt.cells, Pt.slots] at X214 l214 y214 z214 st214 hQ214
        subst l214 y214 z214
        obtain ⟨rfl, P215, P216, P217, P218, b219, kx220, P221, P222, P223, P224, P225⟩ := hQ214
        have N214 := Fr.app N203 P215
        have ne226 : b161 ≠ b219 := Nat.ne_of_lt (Nat.lt_of_lt_of_le F207.lt P222)
        have ne227 : b170 ≠ b219 := Nat.ne_of_lt (Nat.lt_of_lt_of_le F204.lt P222)
        have g228 : n0 ≤ b219 := Nat.le_trans O211.le P222
        have z229 : h0.size ≤ b219 := Nat.le_trans K212.1 P222
        have sf230 : Safe Z own_EL s.vm h203 b219 := Safe.new P222
        have hkS := Nat.le_trans hkS P216.1
        have sf231 := Safe.keep P216 (sfS sf205 sf0) hH sf205
        have sf232 := Safe.keep P216 (sfS sf205 sf0) hH sf206
        have sf233 := Safe.keep P216 (sfS sf205 sf0) hH sf230
        have hR := hR.trans (CHr.keep P216 (sfS sf205 sf0) hH)
        have hH := CHv.keep P216 (sfS sf205 sf0) hH
        have F234 := F207.keep P216
        have F235 := F204.keep P216 (ninS (Ne.symm ne171) nin0)
        have O236 := O211.keep P216 (allS g162 all0)
        have K237 := K212.trans P216 (allS (Or.inr z163) all0)
        refine own_GH.st (T' := T214) 111 [(.ref b161)] (fun _ kq => st214.trans kq) ?_
        exact own_retH X214 hS rfl hkS hZ ew hH hh hR (v := some (.ref b161)) (fun h => by rw [Bd.returns] at h; cases h) Bd.notSynchronized ⟨b161, rfl, N214, K237, z163, P217⟩ (by decide) (by decide) (fun fs hr => own_retR X214 hx Bd.returns rfl rfl (hb hby d1_111) hr)
theorem pd__28IIII_29Ljava_2flang_2fString_3b : parseMethodDescriptor "(IIII)Ljava/lang/String;" = some ⟨[.int, .int, .int, .int], some (.object "java/lang/String")⟩ := by decide +kernel
theorem pd__28_29Lcom_2fexample_2fconcordant_2fconcordant_2fmodel_2fSchema_3b : parseMethodDescriptor "()Lcom/example/concordant/concordant/model/Schema;" = some ⟨[], some (.object "com/example/concordant/concordant/model/Schema")⟩ := by decide +kernel
theorem pd__28ILcom_2fexample_2fconcordant_2fconcordant_2fmodel_2fSchema_3bLcom_2fexample_2fconcordant_2fconcordant_2fmodel_2fSchema_3bLcom_2fexample_2fconcordant_2fconcordant_2fmodel_2fSchema_3b_29Lcom_2fexample_2fconcordant_2fconcordant_2fmodel_2fSchema_3b : parseMethodDescriptor "(ILcom/example/concordant/concordant/model/Schema;Lcom/example/concordant/concordant/model/Schema;Lcom/example/concordant/concordant/model/Schema;)Lcom/example/concordant/concordant/model/Schema;" = some ⟨[.int, (.object "com/example/concordant/concordant/model/Schema"), (.object "com/example/concordant/concordant/model/Schema"), (.object "com/example/concordant/concordant/model/Schema")], some (.object "com/example/concordant/concordant/model/Schema")⟩ := by decide +kernel
theorem pd__28Ljava_2flang_2fString_3bLcom_2fexample_2fconcordant_2fconcordant_2fmodel_2fSchema_3bLcom_2fexample_2fconcordant_2fconcordant_2fmodel_2fSchema_3b_29Lcom_2fexample_2fconcordant_2fconcordant_2frules_2fSchemaPairs_24SchemaPair_3b : parseMethodDescriptor "(Ljava/lang/String;Lcom/example/concordant/concordant/model/Schema;Lcom/example/concordant/concordant/model/Schema;)Lcom/example/concordant/concordant/rules/SchemaPairs$SchemaPair;" = some ⟨[(.object "java/lang/String"), (.object "com/example/concordant/concordant/model/Schema"), (.object "com/example/concordant/concordant/model/Schema")], some (.object "com/example/concordant/concordant/rules/SchemaPairs$SchemaPair")⟩ := by decide +kernel
theorem pd__28Ljava_2flang_2fObject_3b_29Z : parseMethodDescriptor "(Ljava/lang/Object;)Z" = some ⟨[(.object "java/lang/Object")], some .boolean⟩ := by decide +kernel
theorem ef_law (m : MethodId) (sh : Int32) (x0 : Int32) (x1 : Int32) (x2 : Int32) : entryFrame m #[(.int sh), (.int x0), (.int x1), (.int x2)] maxLocals = mkF m 0 #[iv sh, iv x0, iv x1, iv x2, .unset, .unset, .unset, .unset, .unset, .unset, .unset, .unset, .unset, .unset, .unset, .unset, .unset, .unset, .unset, .unset] [] := by
  first | (simp [entryFrame, mkF, argsToLocals, Value.category, maxLocals]; done) | rfl
def Q_law (Z : State) (sh : Int32) (x0 : Int32) (x1 : Int32) (x2 : Int32) (csz : Int32) (dc : Addr) (u0 : Addr) (h0 : Heap) (n0 : Nat) (v : Option Value) (h : Heap) (L : List Loc) : Prop := v = some (.int 1) ∧ Fr n0 L
set_option maxRecDepth 65536 in
set_option maxHeartbeats 40000000 in
theorem rm_law (l : Launch) (Z : State) (a0 : Array Value) (hw : ∀ d ∈ tables_1, d.before a0 Z = true) (ws : List Jvm.Cond) (sh : Int32) (x0 : Int32) (x1 : Int32) (x2 : Int32) (csz : Int32) (dc : Addr) (u0 : Addr) (h0 : Heap) (n0 : Nat) (O0 : Old Z n0 h0) (S_CS : Sta Z Z.heap "java/lang/String" "COMPACT_STRINGS" "Z" (.int csz)) (hcs : ¬ csz = (0 : Int32)) (S_DC : Sta Z Z.heap "java/util/ArrayList" "DEFAULTCAPACITY_EMPTY_ELEMENTDATA" "[Ljava/lang/Object;" (.ref dc)) (S_UNCONSTRAINED : Sta Z Z.heap "com/example/concordant/concordant/model/Schema" "UNCONSTRAINED" "Lcom/example/concordant/concordant/model/Schema;" (.ref u0)) :
    MetFree l x (head1 (Jvm.Cond.code x code maxLocals ret :: ws) room_1) (fun aq_ Uq_ => aq_ = #[(.int sh), (.int x0), (.int x1), (.int x2)] ∧ Z.Warmed39 Uq_.vm ∧ Uq_.heap = h0 ∧ CHv Z own_EL Uq_.vm h0) (fun _ _ _ _ _ => True) (fun _ Uq_ oq_ Ur_ => ∃ vq_ Lq_, oq_ = .returned vq_ ∧ Q_law Z sh x0 x1 x2 csz dc u0 h0 n0 vq_ Ur_.heap Lq_ ∧ CHr Z own_EL Uq_.vm Uq_.heap Ur_.vm Ur_.heap ∧ ReturnedEndW Uq_ oq_ Ur_ Lq_ 23 86) := by
  refine MetFree.of_bodySF (plainFor_of_name pn_com_2fexample_2fconcordant_2fconcordant_2frules_2fSchemaPairsRootPinLaw) hisR ?_
  intro p e s m args below meth c s₁ Bd hml0 hP hK
  obtain ⟨rfl, hZ, hh, hH⟩ := hP
  have W_ : ∀ {d : Jvm.Cond} (i : Nat), tables_1[i]? = some d → d.before a0 Z = true := fun i h => hw _ (List.mem_of_getElem? h)
  have hx := Bd.exec
  have hby := Bd.bytes
  have hml : c.maxLocals = 20 := hml0
  have hown : s.vm.findClass "com/example/concordant/concordant/rules/SchemaPairsRootPinLaw" = some m.cls := findClass_of_methodNamed Bd.named
  have hnm := (name_of_methodNamed Bd.named Bd.method).1
  have X0 : Stand p l e room_1 (s.setVm s.vm) m #[(.int sh), (.int x0), (.int x1), (.int x2)] below meth c s₁ [] 0 0 := Stand.of_body Bd
  have e0 : s₁.heap = h0 := by rw [← hh, Bd.state]; rfl
  have N0 := Fr.nil n0
  have K0 := Keep.refl h0 []
  have hS : s.Since s.vm s.heap.size := (State.WarmedH.refl s).since _
  have hkS : s.heap.size ≤ h0.size := by rw [hh]; exact Nat.le_refl _
  have hZ : Z.Warmed39 (s.setVm s.vm).vm := hZ
  have hown : (s.setVm s.vm).vm.findClass "com/example/concordant/concordant/rules/SchemaPairsRootPinLaw" = some m.cls := hown
  have own_wS : ∀ a ∈ Bundle.stringAtoms, a.before a0 Z = true := fun d hd => hw d (own_wSm d hd)
  have ew := own_EW Z a0 hw
  have hR := CHr.refl hH
  refine own_GH.start (Q := Q_law Z sh x0 x1 x2 csz dc u0 h0 n0) (ef_law m sh x0 x1 x2) ?_
  refine own_GH.sk 1 [(.int sh)] (fun _ kq => XS.iloadN X0.here hx rfl (hb hby at_0) rfl kq) ?_
  refine own_GH.sk 2 [(.int 3), (.int sh)] (fun _ kq => XS.iconst X0.here hx rfl (hb hby at_1) kq) ?_
  refine own_GH.sk 3 [(.int (sh &&& (3 : Int32)))] (fun _ kq => XS.iand X0.here hx rfl (hb hby at_2) rfl kq) ?_
  refine own_GH.si 5 [] (fun _ kq => XS.istore X0.here hx rfl (hb hby at_3) rfl (l' := #[iv sh, iv x0, iv x1, iv x2, .val (.int (sh &&& (3 : Int32))), .unset, .unset, .unset, .unset, .unset, .unset, .unset, .unset, .unset, .unset, .unset, .unset, .unset, .unset, .unset]) rfl kq) ?_
  refine own_GH.sk 6 [(.int sh)] (fun _ kq => XS.iloadN X0.here hx rfl (hb hby at_5) rfl kq) ?_
  refine own_GH.sk 7 [(.int 2), (.int sh)] (fun _ kq => XS.iconst X0.here hx rfl (hb hby at_6) kq) ?_
  refine own_GH.sk 8 [(.int ((sh.toUInt32 >>> ((2 : Int32) &&& 31).toUInt32).toInt32))] (fun _ kq => XS.iushr X0.here hx rfl (hb hby at_7) rfl kq) ?_
  refine own_GH.sk 9 [(.int 3), (.int ((sh.toUInt32 >>> ((2 : Int32) &&& 31).toUInt32).toInt32))] (fun _ kq => XS.iconst X0.here hx rfl (hb hby at_8) kq) ?_
  refine own_GH.sk 10 [(.int (((sh.toUInt32 >>> ((2 : Int32) &&& 31).toUInt32).toInt32) &&& (3 : Int32)))] (fun _ kq => XS.iand X0.here hx rfl (hb hby at_9) rfl kq) ?_
  refine own_GH.si 12 [] (fun _ kq => XS.istore X0.here hx rfl (hb hby at_10) rfl (l' := #[iv sh, iv x0, iv x1, iv x2, .val (.int (sh &&& (3 : Int32))), .val (.int (((sh.toUInt32 >>> ((2 : Int32) &&& 31).toUInt32).toInt32) &&& (3 : Int32))), .unset, .unset, .unset, .unset, .unset, .unset, .unset, .unset, .unset, .unset, .unset, .unset, .unset, .unset]) rfl kq) ?_
  refine own_GH.sk 13 [(.int sh)] (fun _ kq => XS.iloadN X0.here hx rfl (hb hby at_12) rfl kq) ?_
  refine own_GH.sk 14 [(.int 4), (.int sh)] (fun _ kq => XS.iconst X0.here hx rfl (hb hby at_13) kq) ?_
  refine own_GH.sk 15 [(.int ((sh.toUInt32 >>> ((4 : Int32) &&& 31).toUInt32).toInt32))] (fun _ kq => XS.iushr X0.here hx rfl (hb hby at_14) rfl kq) ?_
  refine own_GH.sk 16 [(.int 3), (.int ((sh.toUInt32 >>> ((4 : Int32) &&& 31).toUInt32).toInt32))] (fun _ kq => XS.iconst X0.here hx rfl (hb hby at_15) kq) ?_
  refine own_GH.sk 17 [(.int (((sh.toUInt32 >>> ((4 : Int32) &&& 31).toUInt32).toInt32) &&& (3 : Int32)))] (fun _ kq => XS.iand X0.here hx rfl (hb hby at_16) rfl kq) ?_
  refine own_GH.si 19 [] (fun _ kq => XS.istore X0.here hx rfl (hb hby at_17) rfl (l' := #[iv sh, iv x0, iv x1, iv x2, .val (.int (sh &&& (3 : Int32))), .val (.int (((sh.toUInt32 >>> ((2 : Int32) &&& 31).toUInt32).toInt32) &&& (3 : Int32))), .val (.int (((sh.toUInt32 >>> ((4 : Int32) &&& 31).toUInt32).toInt32) &&& (3 : Int32))), .unset, .unset, .unset, .unset, .unset, .unset, .unset, .unset, .unset, .unset, .unset, .unset, .unset]) rfl kq) ?_
  refine own_GH.sk 21 [(.int (sh &&& (3 : Int32)))] (fun _ kq => XS.iload X0.here hx rfl (hb hby at_19) rfl kq) ?_
  refine own_GH.sk 22 [(.int x0), (.int (sh &&& (3 : Int32)))] (fun _ kq => XS.iloadN X0.here hx rfl (hb hby at_21) rfl kq) ?_
  refine own_GH.sk 23 [(.int x1), (.int x0), (.int (sh &&& (3 : Int32)))] (fun _ kq => XS.iloadN X0.here hx rfl (hb hby at_22) rfl kq) ?_
  refine own_GH.sk 24 [(.int x2), (.int x1), (.int x0), (.int (sh &&& (3 : Int32)))] (fun _ kq => XS.iloadN X0.here hx rfl (hb hby at_23) rfl kq) ?_
  obtain ⟨_, _, ⟨T1, L1, k1, n1⟩, -, X1, sS1, gS1, ⟨Lc1, hQ1, l1, y1, z1, ch1⟩, st1⟩ := callSS X0 hx (y := own_y40) hown (mvT hZ (W_ 0 rfl)) (mvT hZ (W_ 1 rfl)) (mvT hZ (W_ 2 rfl)) (mvT hZ (W_ 3 rfl)) (by decide) (backOfSH (vm0 := s.vm) (W := 0) (rm_drawn l Z a0 hw [] (sh &&& (3 : Int32)) x0 x1 x2 csz h0 n0 O0 S_CS hcs) hZ (W_ 3 rfl) (W_ 2 rfl) (by decide) (by decide) ew hH) (g := (mkF m 24 #[iv sh, iv x0, iv x1, iv x2, .val (.int (sh &&& (3 : Int32))), .val (.int (((sh.toUInt32 >>> ((2 : Int32) &&& 31).toUInt32).toInt32) &&& (3 : Int32))), .val (.int (((sh.toUInt32 >>> ((4 : Int32) &&& 31).toUInt32).toInt32) &&& (3 : Int32))), .unset, .unset, .unset, .unset, .unset, .unset, .unset, .unset, .unset, .unset, .unset, .unset, .unset] [(.int x2), (.int x1), (.int x0), (.int (sh &&& (3 : Int32)))])) rfl (by rw [hml]; rfl) (argsL := [(.int (sh &&& (3 : Int32))), (.int x0), (.int x1), (.int x2)]) (rest := []) (lenOf pd__28IIII_29Ljava_2flang_2fString_3b rfl) rfl (by show 2 * 0 + _ ≤ _; exact Nat.le_of_eq rfl) (hb hby at_24) (fun _ _ => ⟨rfl, e0, (by decide : 0 + 6 ≤ _), (by decide : 0 + 12 ≤ _)⟩)
  dsimp only [Pt.U, Pt.locs, Pt.cells, Pt.slots] at X1 l1 y1 z1 st1 hQ1 sS1 gS1 ch1
  subst l1 y1 z1
  obtain ⟨X1, hS, hZ, hown⟩ := rebS (vm0 := s.vm) hS (by rw [e0]; exact hkS) X1 sS1 gS1 hZ hown
  have hR := hR.trans ch1
  have hH := ch1.1
  obtain ⟨b2, rfl, Nq1, P3, P4, P5⟩ := hQ1
  have N1 := Fr.app N0 Nq1
  have g6 : n0 ≤ b2 := Nat.le_trans O0.le P4
  have z7 : h0.size ≤ b2 := Nat.le_trans K0.1 P4
  have hkS := Nat.le_trans hkS P3.1
  have O8 := O0.keep P3 all0
  have K9 := K0.trans P3 all0
  have hkS : T1.heap.size ≤ T1.heap.size := Nat.le_refl _
  refine own_GH.st (T' := T1) 27 [(.ref b2)] (fun _ kq => st1.trans kq) ?_
  refine own_GH.si 29 [] (fun _ kq => XS.astore X1.here hx rfl (hb hby at_27) rfl rfl (l' := #[iv sh, iv x0, iv x1, iv x2, .val (.int (sh &&& (3 : Int32))), .val (.int (((sh.toUInt32 >>> ((2 : Int32) &&& 31).toUInt32).toInt32) &&& (3 : Int32))), .val (.int (((sh.toUInt32 >>> ((4 : Int32) &&& 31).toUInt32).toInt32) &&& (3 : Int32))), rv b2, .unset, .unset, .unset, .unset, .unset, .unset, .unset, .unset, .unset, .unset, .unset, .unset]) rfl kq) ?_
  obtain ⟨T10, h10, X10, e10, E10, A10, D10, -, st10⟩ := newO X1 hx hZ hown (W_ 26 rfl) (W_ 27 rfl) (W_ 28 rfl) rfl (g := (mkF m 29 #[iv sh, iv x0, iv x1, iv x2, .val (.int (sh &&& (3 : Int32))), .val (.int (((sh.toUInt32 >>> ((2 : Int32) &&& 31).toUInt32).toInt32) &&& (3 : Int32))), .val (.int (((sh.toUInt32 >>> ((4 : Int32) &&& 31).toUInt32).toInt32) &&& (3 : Int32))), rv b2, .unset, .unset, .unset, .unset, .unset, .unset, .unset, .unset, .unset, .unset, .unset, .unset] [])) rfl (hb hby at_29) (by decide) (by decide)
  obtain ⟨b10, g10⟩ : ∃ z, z = T1.heap.size := ⟨_, rfl⟩
  rw [← g10] at A10 D10 st10
  have ne11 : b2 ≠ b10 := Nat.ne_of_lt (Nat.lt_of_lt_of_le P5.lt (Nat.le_of_eq g10.symm))
  have g12 : n0 ≤ b10 := Nat.le_trans O8.le (Nat.le_of_eq g10.symm)
  have z13 : h0.size ≤ b10 := Nat.le_trans K9.1 (Nat.le_of_eq g10.symm)
  have sf14 : Safe Z own_EL T1.vm T1.heap b10 := Safe.new (Nat.le_of_eq g10.symm)
  have hkS := Nat.le_trans hkS E10.1
  have sf15 := Safe.ext E10 hH sf14
  have hR := hR.trans (CHr.ext E10 hH)
  have hH := CHv.ext E10 hH
  have F16 := P5.ext E10
  have O17 := O8.ext E10
  have K18 := K9.ext E10
  refine own_GH.st (T' := T10) 32 [(.ref b10)] st10 ?_
  refine own_GH.sk 33 [(.ref b10), (.ref b10)] (fun _ kq => XS.dup X10.here hx rfl (hb hby at_32) rfl rfl kq) ?_
  obtain ⟨_, _, ⟨T19, L19, k19, n19⟩, -, X19, ⟨Lc19, hQ19, l19, y19, z19⟩, st19⟩ := X10.specialBack hx (y := own_y3) rfl hown (mvT hZ (W_ 29 rfl)) (mvT hZ (W_ 30 rfl)) (mvT hZ (W_ 31 rfl)) (by decide) (backOf (W := 1) (rm_schinit l Z a0 hw [] b10 h10 n0 O17 ) hZ (W_ 31 rfl) (W_ 28 rfl) (by decide) (by decide)) (g := (mkF m 33 #[iv sh, iv x0, iv x1, iv x2, .val (.int (sh &&& (3 : Int32))), .val (.int (((sh.toUInt32 >>> ((2 : Int32) &&& 31).toUInt32).toInt32) &&& (3 : Int32))), .val (.int (((sh.toUInt32 >>> ((4 : Int32) &&& 31).toUInt32).toInt32) &&& (3 : Int32))), rv b2, .unset, .unset, .unset, .unset, .unset, .unset, .unset, .unset, .unset, .unset, .unset, .unset] [(.ref b10), (.ref b10)])) rfl (by rw [hml]; rfl) (Steps.refl _) (a := b10) (argsL := []) (rest := [(.ref b10)]) (lenOf pd__28_29V rfl) rfl (by show 2 * 0 + _ ≤ _; exact Nat.le_of_eq rfl) (hb hby at_33) (fun _ _ => ⟨rfl, e10, (by decide : 7 + 0 ≤ _), (by decide : 13 + 0 ≤ _)⟩)
  dsimp only [Pt.U, Pt.locs, Pt.cells, Pt.slots] at X19 l19 y19 z19 st19 hQ19
  subst l19 y19 z19
  obtain ⟨rfl, Nq19, P20⟩ := hQ19
  have N19 := Fr.app N1 Nq19
  refine own_GH.st (T' := T19) 36 [(.ref b10)] (fun _ kq => st19.trans kq) ?_
  refine own_GH.si 38 [] (fun _ kq => XS.astore X19.here hx rfl (hb hby at_36) rfl rfl (l' := #[iv sh, iv x0, iv x1, iv x2, .val (.int (sh &&& (3 : Int32))), .val (.int (((sh.toUInt32 >>> ((2 : Int32) &&& 31).toUInt32).toInt32) &&& (3 : Int32))), .val (.int (((sh.toUInt32 >>> ((4 : Int32) &&& 31).toUInt32).toInt32) &&& (3 : Int32))), rv b2, rv b10, .unset, .unset, .unset, .unset, .unset, .unset, .unset, .unset, .unset, .unset, .unset]) rfl kq) ?_
  obtain ⟨T21, h21, X21, e21, E21, A21, D21, -, st21⟩ := newO X19 hx hZ hown (W_ 26 rfl) (W_ 27 rfl) (W_ 28 rfl) P20 (g := (mkF m 38 #[iv sh, iv x0, iv x1, iv x2, .val (.int (sh &&& (3 : Int32))), .val (.int (((sh.toUInt32 >>> ((2 : Int32) &&& 31).toUInt32).toInt32) &&& (3 : Int32))), .val (.int (((sh.toUInt32 >>> ((4 : Int32) &&& 31).toUInt32).toInt32) &&& (3 : Int32))), rv b2, rv b10, .unset, .unset, .unset, .unset, .unset, .unset, .unset, .unset, .unset, .unset, .unset] [])) rfl (hb hby at_38) (by decide) (by decide)
  obtain ⟨b21, g21⟩ : ∃ z, z = h10.size := ⟨_, rfl⟩
  rw [← g21] at A21 D21 st21
  have ne22 : b2 ≠ b21 := Nat.ne_of_lt (Nat.lt_of_lt_of_le F16.lt (Nat.le_of_eq g21.symm))
  have ne23 : b10 ≠ b21 := Nat.ne_of_lt (Nat.lt_of_lt_of_le A10.lt (Nat.le_of_eq g21.symm))
  have g24 : n0 ≤ b21 := Nat.le_trans O17.le (Nat.le_of_eq g21.symm)
  have z25 : h0.size ≤ b21 := Nat.le_trans K18.1 (Nat.le_of_eq g21.symm)
  have sf26 : Safe Z own_EL T1.vm h10 b21 := Safe.new (Nat.le_of_eq g21.symm)
  have hkS := Nat.le_trans hkS E21.1
  have sf27 := Safe.ext E21 hH sf15
  have sf28 := Safe.ext E21 hH sf26
  have hR := hR.trans (CHr.ext E21 hH)
  have hH := CHv.ext E21 hH
  have F29 := F16.ext E21
  have F30 := A10.ext E21
  have O31 := O17.ext E21
  have K32 := K18.ext E21
  refine own_GH.st (T' := T21) 41 [(.ref b21)] st21 ?_
  refine own_GH.sk 42 [(.ref b21), (.ref b21)] (fun _ kq => XS.dup X21.here hx rfl (hb hby at_41) rfl rfl kq) ?_
  obtain ⟨_, _, ⟨T33, L33, k33, n33⟩, -, X33, ⟨Lc33, hQ33, l33, y33, z33⟩, st33⟩ := X21.specialBack hx (y := own_y3) rfl hown (mvT hZ (W_ 29 rfl)) (mvT hZ (W_ 30 rfl)) (mvT hZ (W_ 31 rfl)) (by decide) (backOf (W := 1) (rm_schinit l Z a0 hw [] b21 h21 n0 O31 ) hZ (W_ 31 rfl) (W_ 28 rfl) (by decide) (by decide)) (g := (mkF m 42 #[iv sh, iv x0, iv x1, iv x2, .val (.int (sh &&& (3 : Int32))), .val (.int (((sh.toUInt32 >>> ((2 : Int32) &&& 31).toUInt32).toInt32) &&& (3 : Int32))), .val (.int (((sh.toUInt32 >>> ((4 : Int32) &&& 31).toUInt32).toInt32) &&& (3 : Int32))), rv b2, rv b10, .unset, .unset, .unset, .unset, .unset, .unset, .unset, .unset, .unset, .unset, .unset] [(.ref b21), (.ref b21)])) rfl (by rw [hml]; rfl) (Steps.refl _) (a := b21) (argsL := []) (rest := [(.ref b21)]) (lenOf pd__28_29V rfl) rfl (by show 2 * 0 + _ ≤ _; exact Nat.le_of_eq rfl) (hb hby at_42) (fun _ _ => ⟨rfl, e21, (by decide : 8 + 0 ≤ _), (by decide : 14 + 0 ≤ _)⟩)
  dsimp only [Pt.U, Pt.locs, Pt.cells, Pt.slots] at X33 l33 y33 z33 st33 hQ33
  subst l33 y33 z33
  obtain ⟨rfl, Nq33, P34⟩ := hQ33
  have N33 := Fr.app N19 Nq33
  refine own_GH.st (T' := T33) 45 [(.ref b21)] (fun _ kq => st33.trans kq) ?_
  refine own_GH.si 47 [] (fun _ kq => XS.astore X33.here hx rfl (hb hby at_45) rfl rfl (l' := #[iv sh, iv x0, iv x1, iv x2, .val (.int (sh &&& (3 : Int32))), .val (.int (((sh.toUInt32 >>> ((2 : Int32) &&& 31).toUInt32).toInt32) &&& (3 : Int32))), .val (.int (((sh.toUInt32 >>> ((4 : Int32) &&& 31).toUInt32).toInt32) &&& (3 : Int32))), rv b2, rv b10, rv b21, .unset, .unset, .unset, .unset, .unset, .unset, .unset, .unset, .unset, .unset]) rfl kq) ?_
  obtain ⟨_, _, ⟨T35, L35, k35, n35⟩, -, X35, ⟨Lc35, hQ35, l35, y35, z35⟩, st35⟩ := Jvm.LawKit.callS X33 hx (y := own_y4) hown (mvT hZ (W_ 33 rfl)) (mvT hZ (W_ 34 rfl)) (mvT hZ (W_ 28 rfl)) (mvT hZ (W_ 35 rfl)) (by decide) (backOf (W := 0) (rm_uncon l Z a0 hw [] u0 h21 n0 O31 S_UNCONSTRAINED) hZ (W_ 35 rfl) (W_ 28 rfl) (by decide) (by decide)) (g := (mkF m 47 #[iv sh, iv x0, iv x1, iv x2, .val (.int (sh &&& (3 : Int32))), .val (.int (((sh.toUInt32 >>> ((2 : Int32) &&& 31).toUInt32).toInt32) &&& (3 : Int32))), .val (.int (((sh.toUInt32 >>> ((4 : Int32) &&& 31).toUInt32).toInt32) &&& (3 : Int32))), rv b2, rv b10, rv b21, .unset, .unset, .unset, .unset, .unset, .unset, .unset, .unset, .unset, .unset] [])) rfl (by rw [hml]; rfl) (argsL := []) (rest := []) (lenOf pd__28_29Lcom_2fexample_2fconcordant_2fconcordant_2fmodel_2fSchema_3b rfl) rfl (by show 2 * 0 + _ ≤ _; exact Nat.le_of_eq rfl) (hb hby at_47) (fun _ _ => ⟨rfl, P34, (by decide : 8 + 0 ≤ _), (by decide : 14 + 0 ≤ _)⟩)
  dsimp only [Pt.U, Pt.locs, Pt.cells, Pt.slots] at X35 l35 y35 z35 st35 hQ35
  subst l35 y35 z35
  obtain ⟨rfl, Nq35, P36⟩ := hQ35
  have N35 := Fr.app N33 Nq35
  refine own_GH.st (T' := T35) 50 [(.ref u0)] (fun _ kq => st35 _ kq) ?_
  refine own_GH.si 52 [] (fun _ kq => XS.astore X35.here hx rfl (hb hby at_50) rfl rfl (l' := #[iv sh, iv x0, iv x1, iv x2, .val (.int (sh &&& (3 : Int32))), .val (.int (((sh.toUInt32 >>> ((2 : Int32) &&& 31).toUInt32).toInt32) &&& (3 : Int32))), .val (.int (((sh.toUInt32 >>> ((4 : Int32) &&& 31).toUInt32).toInt32) &&& (3 : Int32))), rv b2, rv b10, rv b21, rv u0, .unset, .unset, .unset, .unset, .unset, .unset, .unset, .unset, .unset]) rfl kq) ?_
  refine own_GH.sk 54 [(.int (((sh.toUInt32 >>> ((2 : Int32) &&& 31).toUInt32).toInt32) &&& (3 : Int32)))] (fun _ kq => XS.iload X35.here hx rfl (hb hby at_52) rfl kq) ?_
  refine own_GH.sk 56 [(.ref b10), (.int (((sh.toUInt32 >>> ((2 : Int32) &&& 31).toUInt32).toInt32) &&& (3 : Int32)))] (fun _ kq => XS.aload X35.here hx rfl (hb hby at_54) rfl rfl kq) ?_
  refine own_GH.sk 58 [(.ref b21), (.ref b10), (.int (((sh.toUInt32 >>> ((2 : Int32) &&& 31).toUInt32).toInt32) &&& (3 : Int32)))] (fun _ kq => XS.aload X35.here hx rfl (hb hby at_56) rfl rfl kq) ?_
  refine own_GH.sk 60 [(.ref u0), (.ref b21), (.ref b10), (.int (((sh.toUInt32 >>> ((2 : Int32) &&& 31).toUInt32).toInt32) &&& (3 : Int32)))] (fun _ kq => XS.aload X35.here hx rfl (hb hby at_58) rfl rfl kq) ?_
  obtain ⟨_, _, ⟨T37, L37, k37, n37⟩, -, X37, ⟨Lc37, hQ37, l37, y37, z37⟩, st37⟩ := Jvm.LawKit.callS X35 hx (y := own_y5) hown (mvT hZ (W_ 38 rfl)) (mvT hZ (W_ 39 rfl)) (mvT hZ (W_ 2 rfl)) (mvT hZ (W_ 40 rfl)) (by decide) (backOf (W := 0) (rm_pick l Z a0 hw [] (((sh.toUInt32 >>> ((2 : Int32) &&& 31).toUInt32).toInt32) &&& (3 : Int32)) b10 b21 u0 h21 n0 O31 ) hZ (W_ 40 rfl) (W_ 2 rfl) (by decide) (by decide)) (g := (mkF m 60 #[iv sh, iv x0, iv x1, iv x2, .val (.int (sh &&& (3 : Int32))), .val (.int (((sh.toUInt32 >>> ((2 : Int32) &&& 31).toUInt32).toInt32) &&& (3 : Int32))), .val (.int (((sh.toUInt32 >>> ((4 : Int32) &&& 31).toUInt32).toInt32) &&& (3 : Int32))), rv b2, rv b10, rv b21, rv u0, .unset, .unset, .unset, .unset, .unset, .unset, .unset, .unset, .unset] [(.ref u0), (.ref b21), (.ref b10), (.int (((sh.toUInt32 >>> ((2 : Int32) &&& 31).toUInt32).toInt32) &&& (3 : Int32)))])) rfl (by rw [hml]; rfl) (argsL := [(.int (((sh.toUInt32 >>> ((2 : Int32) &&& 31).toUInt32).toInt32) &&& (3 : Int32))), (.ref b10), (.ref b21), (.ref u0)]) (rest := []) (lenOf pd__28ILcom_2fexample_2fconcordant_2fconcordant_2fmodel_2fSchema_3bLcom_2fexample_2fconcordant_2fconcordant_2fmodel_2fSchema_3bLcom_2fexample_2fconcordant_2fconcordant_2fmodel_2fSchema_3b_29Lcom_2fexample_2fconcordant_2fconcordant_2fmodel_2fSchema_3b rfl) rfl (by show 2 * 0 + _ ≤ _; exact Nat.le_of_eq rfl) (hb hby at_60) (fun _ _ => ⟨rfl, P36, (by decide : 8 + 0 ≤ _), (by decide : 14 + 0 ≤ _)⟩)
  dsimp only [Pt.U, Pt.locs, Pt.cells, Pt.slots] at X37 l37 y37 z37 st37 hQ37
  subst l37 y37 z37
  obtain ⟨rfl, Nq37, P38⟩ := hQ37
  have N37 := Fr.app N35 Nq37
  refine own_GH.st (T' := T37) 63 [(own_pick (((sh.toUInt32 >>> ((2 : Int32) &&& 31).toUInt32).toInt32) &&& (3 : Int32)) b10 b21 u0)] (fun _ kq => st37 _ kq) ?_
  refine own_GH.si 65 [] (fun _ kq => XS.astore X37.here hx rfl (hb hby at_63) rfl (own_pick_r (((sh.toUInt32 >>> ((2 : Int32) &&& 31).toUInt32).toInt32) &&& (3 : Int32)) b10 b21 u0) (l' := #[iv sh, iv x0, iv x1, iv x2, .val (.int (sh &&& (3 : Int32))), .val (.int (((sh.toUInt32 >>> ((2 : Int32) &&& 31).toUInt32).toInt32) &&& (3 : Int32))), .val (.int (((sh.toUInt32 >>> ((4 : Int32) &&& 31).toUInt32).toInt32) &&& (3 : Int32))), rv b2, rv b10, rv b21, rv u0, .val (own_pick (((sh.toUInt32 >>> ((2 : Int32) &&& 31).toUInt32).toInt32) &&& (3 : Int32)) b10 b21 u0), .unset, .unset, .unset, .unset, .unset, .unset, .unset, .unset]) (by rcases ref_cases (own_pick_r (((sh.toUInt32 >>> ((2 : Int32) &&& 31).toUInt32).toInt32) &&& (3 : Int32)) b10 b21 u0) with q | ⟨_, q⟩ <;> rw [q] <;> rfl) kq) ?_
  refine own_GH.sk 67 [(.int (((sh.toUInt32 >>> ((4 : Int32) &&& 31).toUInt32).toInt32) &&& (3 : Int32)))] (fun _ kq => XS.iload X37.here hx rfl (hb hby at_65) rfl kq) ?_
  refine own_GH.sk 69 [(.ref b10), (.int (((sh.toUInt32 >>> ((4 : Int32) &&& 31).toUInt32).toInt32) &&& (3 : Int32)))] (fun _ kq => XS.aload X37.here hx rfl (hb hby at_67) rfl rfl kq) ?_
  refine own_GH.sk 71 [(.ref b21), (.ref b10), (.int (((sh.toUInt32 >>> ((4 : Int32) &&& 31).toUInt32).toInt32) &&& (3 : Int32)))] (fun _ kq => XS.aload X37.here hx rfl (hb hby at_69) rfl rfl kq) ?_
  refine own_GH.sk 73 [(.ref u0), (.ref b21), (.ref b10), (.int (((sh.toUInt32 >>> ((4 : Int32) &&& 31).toUInt32).toInt32) &&& (3 : Int32)))] (fun _ kq => XS.aload X37.here hx rfl (hb hby at_71) rfl rfl kq) ?_
  obtain ⟨_, _, ⟨T39, L39, k39, n39⟩, -, X39, ⟨Lc39, hQ39, l39, y39, z39⟩, st39⟩ := Jvm.LawKit.callS X37 hx (y := own_y5) hown (mvT hZ (W_ 38 rfl)) (mvT hZ (W_ 39 rfl)) (mvT hZ (W_ 2 rfl)) (mvT hZ (W_ 40 rfl)) (by decide) (backOf (W := 0) (rm_pick l Z a0 hw [] (((sh.toUInt32 >>> ((4 : Int32) &&& 31).toUInt32).toInt32) &&& (3 : Int32)) b10 b21 u0 h21 n0 O31 ) hZ (W_ 40 rfl) (W_ 2 rfl) (by decide) (by decide)) (g := (mkF m 73 #[iv sh, iv x0, iv x1, iv x2, .val (.int (sh &&& (3 : Int32))), .val (.int (((sh.toUInt32 >>> ((2 : Int32) &&& 31).toUInt32).toInt32) &&& (3 : Int32))), .val (.int (((sh.toUInt32 >>> ((4 : Int32) &&& 31).toUInt32).toInt32) &&& (3 : Int32))), rv b2, rv b10, rv b21, rv u0, .val (own_pick (((sh.toUInt32 >>> ((2 : Int32) &&& 31).toUInt32).toInt32) &&& (3 : Int32)) b10 b21 u0), .unset, .unset, .unset, .unset, .unset, .unset, .unset, .unset] [(.ref u0), (.ref b21), (.ref b10), (.int (((sh.toUInt32 >>> ((4 : Int32) &&& 31).toUInt32).toInt32) &&& (3 : Int32)))])) rfl (by rw [hml]; rfl) (argsL := [(.int (((sh.toUInt32 >>> ((4 : Int32) &&& 31).toUInt32).toInt32) &&& (3 : Int32))), (.ref b10), (.ref b21), (.ref u0)]) (rest := []) (lenOf pd__28ILcom_2fexample_2fconcordant_2fconcordant_2fmodel_2fSchema_3bLcom_2fexample_2fconcordant_2fconcordant_2fmodel_2fSchema_3bLcom_2fexample_2fconcordant_2fconcordant_2fmodel_2fSchema_3b_29Lcom_2fexample_2fconcordant_2fconcordant_2fmodel_2fSchema_3b rfl) rfl (by show 2 * 0 + _ ≤ _; exact Nat.le_of_eq rfl) (hb hby at_73) (fun _ _ => ⟨rfl, P38, (by decide : 8 + 0 ≤ _), (by decide : 14 + 0 ≤ _)⟩)
  dsimp only [Pt.U, Pt.locs, Pt.cells, Pt.slots] at X39 l39 y39 z39 st39 hQ39
  subst l39 y39 z39
  obtain ⟨rfl, Nq39, P40⟩ := hQ39
  have N39 := Fr.app N37 Nq39
  refine own_GH.st (T' := T39) 76 [(own_pick (((sh.toUInt32 >>> ((4 : Int32) &&& 31).toUInt32).toInt32) &&& (3 : Int32)) b10 b21 u0)] (fun _ kq => st39 _ kq) ?_
  refine own_GH.si 78 [] (fun _ kq => XS.astore X39.here hx rfl (hb hby at_76) rfl (own_pick_r (((sh.toUInt32 >>> ((4 : Int32) &&& 31).toUInt32).toInt32) &&& (3 : Int32)) b10 b21 u0) (l' := #[iv sh, iv x0, iv x1, iv x2, .val (.int (sh &&& (3 : Int32))), .val (.int (((sh.toUInt32 >>> ((2 : Int32) &&& 31).toUInt32).toInt32) &&& (3 : Int32))), .val (.int (((sh.toUInt32 >>> ((4 : Int32) &&& 31).toUInt32).toInt32) &&& (3 : Int32))), rv b2, rv b10, rv b21, rv u0, .val (own_pick (((sh.toUInt32 >>> ((2 : Int32) &&& 31).toUInt32).toInt32) &&& (3 : Int32)) b10 b21 u0), .val (own_pick (((sh.toUInt32 >>> ((4 : Int32) &&& 31).toUInt32).toInt32) &&& (3 : Int32)) b10 b21 u0), .unset, .unset, .unset, .unset, .unset, .unset, .unset]) (by rcases ref_cases (own_pick_r (((sh.toUInt32 >>> ((4 : Int32) &&& 31).toUInt32).toInt32) &&& (3 : Int32)) b10 b21 u0) with q | ⟨_, q⟩ <;> rw [q] <;> rfl) kq) ?_
  refine own_GH.sk 80 [(.ref b2)] (fun _ kq => XS.aload X39.here hx rfl (hb hby at_78) rfl rfl kq) ?_
  refine own_GH.sk 82 [(own_pick (((sh.toUInt32 >>> ((2 : Int32) &&& 31).toUInt32).toInt32) &&& (3 : Int32)) b10 b21 u0), (.ref b2)] (fun _ kq => XS.aload X39.here hx rfl (hb hby at_80) rfl (own_pick_r (((sh.toUInt32 >>> ((2 : Int32) &&& 31).toUInt32).toInt32) &&& (3 : Int32)) b10 b21 u0) kq) ?_
  refine own_GH.sk 84 [(own_pick (((sh.toUInt32 >>> ((4 : Int32) &&& 31).toUInt32).toInt32) &&& (3 : Int32)) b10 b21 u0), (own_pick (((sh.toUInt32 >>> ((2 : Int32) &&& 31).toUInt32).toInt32) &&& (3 : Int32)) b10 b21 u0), (.ref b2)] (fun _ kq => XS.aload X39.here hx rfl (hb hby at_82) rfl (own_pick_r (((sh.toUInt32 >>> ((4 : Int32) &&& 31).toUInt32).toInt32) &&& (3 : Int32)) b10 b21 u0) kq) ?_
  obtain ⟨_, _, ⟨T41, L41, k41, n41⟩, -, X41, ⟨Lc41, hQ41, l41, y41, z41⟩, st41⟩ := Jvm.LawKit.callS X39 hx (y := own_y7) hown (mvT hZ (W_ 41 rfl)) (mvT hZ (W_ 42 rfl)) (mvT hZ (W_ 43 rfl)) (mvT hZ (W_ 44 rfl)) (by decide) (backOf (W := 0) (rm_root l Z a0 hw [] b2 (own_pick (((sh.toUInt32 >>> ((2 : Int32) &&& 31).toUInt32).toInt32) &&& (3 : Int32)) b10 b21 u0) (own_pick (((sh.toUInt32 >>> ((4 : Int32) &&& 31).toUInt32).toInt32) &&& (3 : Int32)) b10 b21 u0) h21 n0 O31 (own_pick_r (((sh.toUInt32 >>> ((2 : Int32) &&& 31).toUInt32).toInt32) &&& (3 : Int32)) b10 b21 u0) (own_pick_r (((sh.toUInt32 >>> ((4 : Int32) &&& 31).toUInt32).toInt32) &&& (3 : Int32)) b10 b21 u0)) hZ (W_ 44 rfl) (W_ 43 rfl) (by decide) (by decide)) (g := (mkF m 84 #[iv sh, iv x0, iv x1, iv x2, .val (.int (sh &&& (3 : Int32))), .val (.int (((sh.toUInt32 >>> ((2 : Int32) &&& 31).toUInt32).toInt32) &&& (3 : Int32))), .val (.int (((sh.toUInt32 >>> ((4 : Int32) &&& 31).toUInt32).toInt32) &&& (3 : Int32))), rv b2, rv b10, rv b21, rv u0, .val (own_pick (((sh.toUInt32 >>> ((2 : Int32) &&& 31).toUInt32).toInt32) &&& (3 : Int32)) b10 b21 u0), .val (own_pick (((sh.toUInt32 >>> ((4 : Int32) &&& 31).toUInt32).toInt32) &&& (3 : Int32)) b10 b21 u0), .unset, .unset, .unset, .unset, .unset, .unset, .unset] [(own_pick (((sh.toUInt32 >>> ((4 : Int32) &&& 31).toUInt32).toInt32) &&& (3 : Int32)) b10 b21 u0), (own_pick (((sh.toUInt32 >>> ((2 : Int32) &&& 31).toUInt32).toInt32) &&& (3 : Int32)) b10 b21 u0), (.ref b2)])) rfl (by rw [hml]; rfl) (argsL := [(.ref b2), (own_pick (((sh.toUInt32 >>> ((2 : Int32) &&& 31).toUInt32).toInt32) &&& (3 : Int32)) b10 b21 u0), (own_pick (((sh.toUInt32 >>> ((4 : Int32) &&& 31).toUInt32).toInt32) &&& (3 : Int32)) b10 b21 u0)]) (rest := []) (lenOf pd__28Ljava_2flang_2fString_3bLcom_2fexample_2fconcordant_2fconcordant_2fmodel_2fSchema_3bLcom_2fexample_2fconcordant_2fconcordant_2fmodel_2fSchema_3b_29Lcom_2fexample_2fconcordant_2fconcordant_2frules_2fSchemaPairs_24SchemaPair_3b rfl) rfl (by show 2 * 0 + _ ≤ _; exact Nat.le_of_eq rfl) (hb hby at_84) (fun _ _ => ⟨rfl, P40, (by decide : 8 + 1 ≤ _), (by decide : 14 + 6 ≤ _)⟩)
  dsimp only [Pt.U, Pt.locs, Pt.cells, Pt.slots] at X41 l41 y41 z41 st41 hQ41
  subst l41 y41 z41
  obtain ⟨b42, rfl, Nq41, P43, P44, P45, P46, P47, P48, P49⟩ := hQ41
  have N41 := Fr.app N39 Nq41
  have ne50 : b2 ≠ b42 := Nat.ne_of_lt (Nat.lt_of_lt_of_le F29.lt P44)
  have ne51 : b10 ≠ b42 := Nat.ne_of_lt (Nat.lt_of_lt_of_le F30.lt P44)
  have ne52 : b21 ≠ b42 := Nat.ne_of_lt (Nat.lt_of_lt_of_le A21.lt P44)
  have g53 : n0 ≤ b42 := Nat.le_trans O31.le P44
  have z54 : h0.size ≤ b42 := Nat.le_trans K32.1 P44
  have sf55 : Safe Z own_EL T1.vm h21 b42 := Safe.new P44
  have hkS := Nat.le_trans hkS P43.1
  have sf56 := Safe.keep P43 sf0 hH sf27
  have sf57 := Safe.keep P43 sf0 hH sf28
  have sf58 := Safe.keep P43 sf0 hH sf55
  have hR := hR.trans (CHr.keep P43 sf0 hH)
  have hH := CHv.keep P43 sf0 hH
  have F59 := F29.keep P43
  have F60 := F30.keep P43
  have F61 := A21.keep P43
  have O62 := O31.keep P43 all0
  have K63 := K32.trans P43 all0
  refine own_GH.st (T' := T41) 87 [(.ref b42)] (fun _ kq => st41 _ kq) ?_
  refine own_GH.si 89 [] (fun _ kq => XS.astore X41.here hx rfl (hb hby at_87) rfl rfl (l' := #[iv sh, iv x0, iv x1, iv x2, .val (.int (sh &&& (3 : Int32))), .val (.int (((sh.toUInt32 >>> ((2 : Int32) &&& 31).toUInt32).toInt32) &&& (3 : Int32))), .val (.int (((sh.toUInt32 >>> ((4 : Int32) &&& 31).toUInt32).toInt32) &&& (3 : Int32))), rv b2, rv b10, rv b21, rv u0, .val (own_pick (((sh.toUInt32 >>> ((2 : Int32) &&& 31).toUInt32).toInt32) &&& (3 : Int32)) b10 b21 u0), .val (own_pick (((sh.toUInt32 >>> ((4 : Int32) &&& 31).toUInt32).toInt32) &&& (3 : Int32)) b10 b21 u0), rv b42, .unset, .unset, .unset, .unset, .unset, .unset]) rfl kq) ?_
  refine own_GH.sk 91 [(.ref b42)] (fun _ kq => XS.aload X41.here hx rfl (hb hby at_89) rfl rfl kq) ?_
  obtain ⟨cq64, kq64, q64a, q64b, q64c⟩ := isOf hZ rfl P45
  obtain ⟨_, _, ⟨T64, L64, k64, n64⟩, -, X64, ⟨Lc64, hQ64, l64, y64, z64⟩, st64⟩ := X41.virtualBack hx (y := own_y8) (z := own_y8) hown (mvT hZ (W_ 63 rfl)) (mvT hZ (W_ 64 rfl)) (notFace_of_selects (args := #[]) (mvT hZ (W_ 66 rfl))) (mvT hZ (W_ 66 rfl)) (mvT hZ (W_ 65 rfl)) (by decide) (backOf (W := 0) (rm_older l Z a0 hw [] b42 (own_pick (((sh.toUInt32 >>> ((2 : Int32) &&& 31).toUInt32).toInt32) &&& (3 : Int32)) b10 b21 u0) T41.heap n0 O62 P48 (own_pick_r (((sh.toUInt32 >>> ((2 : Int32) &&& 31).toUInt32).toInt32) &&& (3 : Int32)) b10 b21 u0)) hZ (W_ 67 rfl) (W_ 43 rfl) (by decide) (by decide)) q64a q64c (g := (mkF m 91 #[iv sh, iv x0, iv x1, iv x2, .val (.int (sh &&& (3 : Int32))), .val (.int (((sh.toUInt32 >>> ((2 : Int32) &&& 31).toUInt32).toInt32) &&& (3 : Int32))), .val (.int (((sh.toUInt32 >>> ((4 : Int32) &&& 31).toUInt32).toInt32) &&& (3 : Int32))), rv b2, rv b10, rv b21, rv u0, .val (own_pick (((sh.toUInt32 >>> ((2 : Int32) &&& 31).toUInt32).toInt32) &&& (3 : Int32)) b10 b21 u0), .val (own_pick (((sh.toUInt32 >>> ((4 : Int32) &&& 31).toUInt32).toInt32) &&& (3 : Int32)) b10 b21 u0), rv b42, .unset, .unset, .unset, .unset, .unset, .unset] [(.ref b42)])) rfl (by rw [hml]; rfl) (Steps.refl _) (argsL := []) (rest := []) (lenOf pd__28_29Lcom_2fexample_2fconcordant_2fconcordant_2fmodel_2fSchema_3b rfl) rfl (by show 2 * 0 + _ ≤ _; exact Nat.le_of_eq rfl) (hb hby at_91) (fun _ _ => ⟨rfl, rfl, (by decide : 9 + 0 ≤ _), (by decide : 20 + 0 ≤ _)⟩)
  dsimp only [Pt.U, Pt.locs, Pt.cells, Pt.slots] at X64 l64 y64 z64 st64 hQ64
  subst l64 y64 z64
  obtain ⟨rfl, Nq64, P65⟩ := hQ64
  have N64 := Fr.app N41 Nq64
  refine own_GH.st (T' := T64) 94 [(own_pick (((sh.toUInt32 >>> ((2 : Int32) &&& 31).toUInt32).toInt32) &&& (3 : Int32)) b10 b21 u0)] (fun _ kq => st64.trans kq) ?_
  refine own_GH.sk 96 [(own_pick (((sh.toUInt32 >>> ((2 : Int32) &&& 31).toUInt32).toInt32) &&& (3 : Int32)) b10 b21 u0), (own_pick (((sh.toUInt32 >>> ((2 : Int32) &&& 31).toUInt32).toInt32) &&& (3 : Int32)) b10 b21 u0)] (fun _ kq => XS.aload X64.here hx rfl (hb hby at_94) rfl (own_pick_r (((sh.toUInt32 >>> ((2 : Int32) &&& 31).toUInt32).toInt32) &&& (3 : Int32)) b10 b21 u0) kq) ?_
  have hc96 : ((own_pick (((sh.toUInt32 >>> ((2 : Int32) &&& 31).toUInt32).toInt32) &&& (3 : Int32)) b10 b21 u0) : Value) = (own_pick (((sh.toUInt32 >>> ((2 : Int32) &&& 31).toUInt32).toInt32) &&& (3 : Int32)) b10 b21 u0) := rfl
  refine own_GH.sk 99 [] (fun _ kq => Jvm.RoadKit.acmp (g := (mkF m 96 #[iv sh, iv x0, iv x1, iv x2, .val (.int (sh &&& (3 : Int32))), .val (.int (((sh.toUInt32 >>> ((2 : Int32) &&& 31).toUInt32).toInt32) &&& (3 : Int32))), .val (.int (((sh.toUInt32 >>> ((4 : Int32) &&& 31).toUInt32).toInt32) &&& (3 : Int32))), rv b2, rv b10, rv b21, rv u0, .val (own_pick (((sh.toUInt32 >>> ((2 : Int32) &&& 31).toUInt32).toInt32) &&& (3 : Int32)) b10 b21 u0), .val (own_pick (((sh.toUInt32 >>> ((4 : Int32) &&& 31).toUInt32).toInt32) &&& (3 : Int32)) b10 b21 u0), rv b42, .unset, .unset, .unset, .unset, .unset, .unset] [(own_pick (((sh.toUInt32 >>> ((2 : Int32) &&& 31).toUInt32).toInt32) &&& (3 : Int32)) b10 b21 u0), (own_pick (((sh.toUInt32 >>> ((2 : Int32) &&& 31).toUInt32).toInt32) &&& (3 : Int32)) b10 b21 u0)])) X64 hx rfl (own_pick_r (((sh.toUInt32 >>> ((2 : Int32) &&& 31).toUInt32).toInt32) &&& (3 : Int32)) b10 b21 u0) (own_pick_r (((sh.toUInt32 >>> ((2 : Int32) &&& 31).toUInt32).toInt32) &&& (3 : Int32)) b10 b21 u0) (pc0 := 96) (pc' := 99) (same := true) rfl (hb hby at_96) rfl (decide_eq_true (show ((own_pick (((sh.toUInt32 >>> ((2 : Int32) &&& 31).toUInt32).toInt32) &&& (3 : Int32)) b10 b21 u0) : Value) = (own_pick (((sh.toUInt32 >>> ((2 : Int32) &&& 31).toUInt32).toInt32) &&& (3 : Int32)) b10 b21 u0) from hc96)) (by decide) (by decide) kq) ?_
  refine own_GH.sk 100 [(.int 1)] (fun _ kq => XS.iconst X64.here hx rfl (hb hby at_99) kq) ?_
  refine own_GH.sk 104 [(.int 1)] (fun _ kq => XS.goto X64.here hx rfl (pc0 := 100) (pc' := 104) rfl (hb hby at_100) (by decide) (by decide) kq) ?_
  refine own_GH.si 106 [] (fun _ kq => XS.istore X64.here hx rfl (hb hby at_104) rfl (l' := #[iv sh, iv x0, iv x1, iv x2, .val (.int (sh &&& (3 : Int32))), .val (.int (((sh.toUInt32 >>> ((2 : Int32) &&& 31).toUInt32).toInt32) &&& (3 : Int32))), .val (.int (((sh.toUInt32 >>> ((4 : Int32) &&& 31).toUInt32).toInt32) &&& (3 : Int32))), rv b2, rv b10, rv b21, rv u0, .val (own_pick (((sh.toUInt32 >>> ((2 : Int32) &&& 31).toUInt32).toInt32) &&& (3 : Int32)) b10 b21 u0), .val (own_pick (((sh.toUInt32 >>> ((4 : Int32) &&& 31).toUInt32).toInt32) &&& (3 : Int32)) b10 b21 u0), rv b42, iv 1, .unset, .unset, .unset, .unset, .unset]) rfl kq) ?_
  refine own_GH.sk 108 [(.ref b42)] (fun _ kq => XS.aload X64.here hx rfl (hb hby at_106) rfl rfl kq) ?_
  obtain ⟨cq66, kq66, q66a, q66b, q66c⟩ := isOf hZ P65 P45
  obtain ⟨_, _, ⟨T66, L66, k66, n66⟩, -, X66, ⟨Lc66, hQ66, l66, y66, z66⟩, st66⟩ := X64.virtualBack hx (y := own_y9) (z := own_y9) hown (mvT hZ (W_ 68 rfl)) (mvT hZ (W_ 69 rfl)) (notFace_of_selects (args := #[]) (mvT hZ (W_ 71 rfl))) (mvT hZ (W_ 71 rfl)) (mvT hZ (W_ 70 rfl)) (by decide) (backOf (W := 0) (rm_newer l Z a0 hw [] b42 (own_pick (((sh.toUInt32 >>> ((4 : Int32) &&& 31).toUInt32).toInt32) &&& (3 : Int32)) b10 b21 u0) T41.heap n0 O62 P49 (own_pick_r (((sh.toUInt32 >>> ((4 : Int32) &&& 31).toUInt32).toInt32) &&& (3 : Int32)) b10 b21 u0)) hZ (W_ 72 rfl) (W_ 43 rfl) (by decide) (by decide)) q66a q66c (g := (mkF m 108 #[iv sh, iv x0, iv x1, iv x2, .val (.int (sh &&& (3 : Int32))), .val (.int (((sh.toUInt32 >>> ((2 : Int32) &&& 31).toUInt32).toInt32) &&& (3 : Int32))), .val (.int (((sh.toUInt32 >>> ((4 : Int32) &&& 31).toUInt32).toInt32) &&& (3 : Int32))), rv b2, rv b10, rv b21, rv u0, .val (own_pick (((sh.toUInt32 >>> ((2 : Int32) &&& 31).toUInt32).toInt32) &&& (3 : Int32)) b10 b21 u0), .val (own_pick (((sh.toUInt32 >>> ((4 : Int32) &&& 31).toUInt32).toInt32) &&& (3 : Int32)) b10 b21 u0), rv b42, iv 1, .unset, .unset, .unset, .unset, .unset] [(.ref b42)])) rfl (by rw [hml]; rfl) (Steps.refl _) (argsL := []) (rest := []) (lenOf pd__28_29Lcom_2fexample_2fconcordant_2fconcordant_2fmodel_2fSchema_3b rfl) rfl (by show 2 * 0 + _ ≤ _; exact Nat.le_of_eq rfl) (hb hby at_108) (fun _ _ => ⟨rfl, P65, (by decide : 9 + 0 ≤ _), (by decide : 20 + 0 ≤ _)⟩)
  dsimp only [Pt.U, Pt.locs, Pt.cells, Pt.slots] at X66 l66 y66 z66 st66 hQ66
  subst l66 y66 z66
  obtain ⟨rfl, Nq66, P67⟩ := hQ66
  have N66 := Fr.app N64 Nq66
  refine own_GH.st (T' := T66) 111 [(own_pick (((sh.toUInt32 >>> ((4 : Int32) &&& 31).toUInt32).toInt32) &&& (3 : Int32)) b10 b21 u0)] (fun _ kq => st66.trans kq) ?_
  refine own_GH.sk 113 [(own_pick (((sh.toUInt32 >>> ((4 : Int32) &&& 31).toUInt32).toInt32) &&& (3 : Int32)) b10 b21 u0), (own_pick (((sh.toUInt32 >>> ((4 : Int32) &&& 31).toUInt32).toInt32) &&& (3 : Int32)) b10 b21 u0)] (fun _ kq => XS.aload X66.here hx rfl (hb hby at_111) rfl (own_pick_r (((sh.toUInt32 >>> ((4 : Int32) &&& 31).toUInt32).toInt32) &&& (3 : Int32)) b10 b21 u0) kq) ?_
  have hc113 : ((own_pick (((sh.toUInt32 >>> ((4 : Int32) &&& 31).toUInt32).toInt32) &&& (3 : Int32)) b10 b21 u0) : Value) = (own_pick (((sh.toUInt32 >>> ((4 : Int32) &&& 31).toUInt32).toInt32) &&& (3 : Int32)) b10 b21 u0) := rfl
  refine own_GH.sk 116 [] (fun _ kq => Jvm.RoadKit.acmp (g := (mkF m 113 #[iv sh, iv x0, iv x1, iv x2, .val (.int (sh &&& (3 : Int32))), .val (.int (((sh.toUInt32 >>> ((2 : Int32) &&& 31).toUInt32).toInt32) &&& (3 : Int32))), .val (.int (((sh.toUInt32 >>> ((4 : Int32) &&& 31).toUInt32).toInt32) &&& (3 : Int32))), rv b2, rv b10, rv b21, rv u0, .val (own_pick (((sh.toUInt32 >>> ((2 : Int32) &&& 31).toUInt32).toInt32) &&& (3 : Int32)) b10 b21 u0), .val (own_pick (((sh.toUInt32 >>> ((4 : Int32) &&& 31).toUInt32).toInt32) &&& (3 : Int32)) b10 b21 u0), rv b42, iv 1, .unset, .unset, .unset, .unset, .unset] [(own_pick (((sh.toUInt32 >>> ((4 : Int32) &&& 31).toUInt32).toInt32) &&& (3 : Int32)) b10 b21 u0), (own_pick (((sh.toUInt32 >>> ((4 : Int32) &&& 31).toUInt32).toInt32) &&& (3 : Int32)) b10 b21 u0)])) X66 hx rfl (own_pick_r (((sh.toUInt32 >>> ((4 : Int32) &&& 31).toUInt32).toInt32) &&& (3 : Int32)) b10 b21 u0) (own_pick_r (((sh.toUInt32 >>> ((4 : Int32) &&& 31).toUInt32).toInt32) &&& (3 : Int32)) b10 b21 u0) (pc0 := 113) (pc' := 116) (same := true) rfl (hb hby at_113) rfl (decide_eq_true (show ((own_pick (((sh.toUInt32 >>> ((4 : Int32) &&& 31).toUInt32).toInt32) &&& (3 : Int32)) b10 b21 u0) : Value) = (own_pick (((sh.toUInt32 >>> ((4 : Int32) &&& 31).toUInt32).toInt32) &&& (3 : Int32)) b10 b21 u0) from hc113)) (by decide) (by decide) kq) ?_
  refine own_GH.sk 117 [(.int 1)] (fun _ kq => XS.iconst X66.here hx rfl (hb hby at_116) kq) ?_
  refine own_GH.sk 121 [(.int 1)] (fun _ kq => XS.goto X66.here hx rfl (pc0 := 117) (pc' := 121) rfl (hb hby at_117) (by decide) (by decide) kq) ?_
  refine own_GH.si 123 [] (fun _ kq => XS.istore X66.here hx rfl (hb hby at_121) rfl (l' := #[iv sh, iv x0, iv x1, iv x2, .val (.int (sh &&& (3 : Int32))), .val (.int (((sh.toUInt32 >>> ((2 : Int32) &&& 31).toUInt32).toInt32) &&& (3 : Int32))), .val (.int (((sh.toUInt32 >>> ((4 : Int32) &&& 31).toUInt32).toInt32) &&& (3 : Int32))), rv b2, rv b10, rv b21, rv u0, .val (own_pick (((sh.toUInt32 >>> ((2 : Int32) &&& 31).toUInt32).toInt32) &&& (3 : Int32)) b10 b21 u0), .val (own_pick (((sh.toUInt32 >>> ((4 : Int32) &&& 31).toUInt32).toInt32) &&& (3 : Int32)) b10 b21 u0), rv b42, iv 1, iv 1, .unset, .unset, .unset, .unset]) rfl kq) ?_
  refine own_GH.sk 125 [(.ref b42)] (fun _ kq => XS.aload X66.here hx rfl (hb hby at_123) rfl rfl kq) ?_
  obtain ⟨cq68, kq68, q68a, q68b, q68c⟩ := isOf hZ P67 P45
  obtain ⟨_, _, ⟨T68, L68, k68, n68⟩, -, X68, ⟨Lc68, hQ68, l68, y68, z68⟩, st68⟩ := X66.virtualBack hx (y := own_y36) (z := own_y36) hown (mvT hZ (W_ 73 rfl)) (mvT hZ (W_ 74 rfl)) (notFace_of_selects (args := #[]) (mvT hZ (W_ 76 rfl))) (mvT hZ (W_ 76 rfl)) (mvT hZ (W_ 75 rfl)) (by decide) (backOf (W := 0) (rm_subj0 l Z a0 hw [] b42 csz dc b2 T41.heap n0 O62 S_CS hcs S_DC P45 P47 P46) hZ (W_ 77 rfl) (W_ 43 rfl) (by decide) (by decide)) q68a q68c (g := (mkF m 125 #[iv sh, iv x0, iv x1, iv x2, .val (.int (sh &&& (3 : Int32))), .val (.int (((sh.toUInt32 >>> ((2 : Int32) &&& 31).toUInt32).toInt32) &&& (3 : Int32))), .val (.int (((sh.toUInt32 >>> ((4 : Int32) &&& 31).toUInt32).toInt32) &&& (3 : Int32))), rv b2, rv b10, rv b21, rv u0, .val (own_pick (((sh.toUInt32 >>> ((2 : Int32) &&& 31).toUInt32).toInt32) &&& (3 : Int32)) b10 b21 u0), .val (own_pick (((sh.toUInt32 >>> ((4 : Int32) &&& 31).toUInt32).toInt32) &&& (3 : Int32)) b10 b21 u0), rv b42, iv 1, iv 1, .unset, .unset, .unset, .unset] [(.ref b42)])) rfl (by rw [hml]; rfl) (Steps.refl _) (argsL := []) (rest := []) (lenOf pd__28_29Ljava_2flang_2fString_3b rfl) rfl (by show 2 * 0 + _ ≤ _; exact Nat.le_of_eq rfl) (hb hby at_125) (fun _ _ => ⟨rfl, P67, (by decide : 9 + 6 ≤ _), (by decide : 20 + 31 ≤ _)⟩)
  dsimp only [Pt.U, Pt.locs, Pt.cells, Pt.slots] at X68 l68 y68 z68 st68 hQ68
  subst l68 y68 z68
  obtain ⟨rfl, Nq68, P69⟩ := hQ68
  have N68 := Fr.app N66 Nq68
  have hkS := Nat.le_trans hkS P69.1
  have sf70 := Safe.keep P69 sf0 hH sf56
  have sf71 := Safe.keep P69 sf0 hH sf57
  have sf72 := Safe.keep P69 sf0 hH sf58
  have hR := hR.trans (CHr.keep P69 sf0 hH)
  have hH := CHv.keep P69 sf0 hH
  have F73 := F59.keep P69
  have F74 := F60.keep P69
  have F75 := F61.keep P69
  have F76 := P45.keep P69
  have F77 := P46.keep P69 nin0
  have F78 := P47.keep P69 nin0
  have F79 := P48.keep P69 nin0
  have F80 := P49.keep P69 nin0
  have O81 := O62.keep P69 all0
  have K82 := K63.trans P69 all0
  refine own_GH.st (T' := T68) 128 [(.ref b2)] (fun _ kq => st68.trans kq) ?_
  refine own_GH.si 130 [] (fun _ kq => XS.astore X68.here hx rfl (hb hby at_128) rfl rfl (l' := #[iv sh, iv x0, iv x1, iv x2, .val (.int (sh &&& (3 : Int32))), .val (.int (((sh.toUInt32 >>> ((2 : Int32) &&& 31).toUInt32).toInt32) &&& (3 : Int32))), .val (.int (((sh.toUInt32 >>> ((4 : Int32) &&& 31).toUInt32).toInt32) &&& (3 : Int32))), rv b2, rv b10, rv b21, rv u0, .val (own_pick (((sh.toUInt32 >>> ((2 : Int32) &&& 31).toUInt32).toInt32) &&& (3 : Int32)) b10 b21 u0), .val (own_pick (((sh.toUInt32 >>> ((4 : Int32) &&& 31).toUInt32).toInt32) &&& (3 : Int32)) b10 b21 u0), rv b42, iv 1, iv 1, rv b2, .unset, .unset, .unset]) rfl kq) ?_
  refine own_GH.sk 132 [(.ref b42)] (fun _ kq => XS.aload X68.here hx rfl (hb hby at_130) rfl rfl kq) ?_
  obtain ⟨a83, T83, h83, k83, b83, kb83, X83, e83, E83, hS, hkS, hZ, hown, Es83, Fc83, Fv83, Av83, lta83, ltb83, ch83, Li83, nq83, st83⟩ := ldcCH (vm0 := T1.vm) X68 hx hZ hown (W_ 235 rfl) own_wS rfl hS hkS ew (by decide) hH (vs := []) (z := (0 : Int32)) (by decide +kernel) (by decide) (by decide) (g := (mkF m 132 #[iv sh, iv x0, iv x1, iv x2, .val (.int (sh &&& (3 : Int32))), .val (.int (((sh.toUInt32 >>> ((2 : Int32) &&& 31).toUInt32).toInt32) &&& (3 : Int32))), .val (.int (((sh.toUInt32 >>> ((4 : Int32) &&& 31).toUInt32).toInt32) &&& (3 : Int32))), rv b2, rv b10, rv b21, rv u0, .val (own_pick (((sh.toUInt32 >>> ((2 : Int32) &&& 31).toUInt32).toInt32) &&& (3 : Int32)) b10 b21 u0), .val (own_pick (((sh.toUInt32 >>> ((4 : Int32) &&& 31).toUInt32).toInt32) &&& (3 : Int32)) b10 b21 u0), rv b42, iv 1, iv 1, rv b2, .unset, .unset, .unset] [(.ref b42)])) rfl (hb hby at_132) (n := 0) (by decide +kernel) (by decide) (by decide) (by decide)
  have sf84 := ch83.safe F74.lt sf70
  have sf85 := ch83.safe F75.lt sf71
  have sf86 := ch83.safe F76.lt sf72
  have hR := hR.trans ch83
  have hH := ch83.1
  have F87 := F73.ext E83
  have F88 := F74.ext E83
  have F89 := F75.ext E83
  have F90 := F76.ext E83
  have F91 := F77.ext E83
  have F92 := F78.ext E83
  have F93 := F79.ext E83
  have F94 := F80.ext E83
  have O95 := O81.ext E83
  have K96 := K82.ext E83
  refine own_GH.st (T' := T83) 134 [(.ref a83), (.ref b42)] st83 ?_
  obtain ⟨cq99, kq99, q99a, q99b, q99c⟩ := isOf hZ e83 F90
  obtain ⟨_, _, ⟨T99, L99, k99, n99⟩, -, X99, ⟨Lc99, hQ99, l99, y99, z99⟩, st99⟩ := X83.virtualBack hx (y := own_y38) (z := own_y38) hown (mvT hZ (W_ 236 rfl)) (mvT hZ (W_ 237 rfl)) (notFace_of_selects (args := #[]) (mvT hZ (W_ 239 rfl))) (mvT hZ (W_ 239 rfl)) (mvT hZ (W_ 238 rfl)) (by decide) (backOf (W := 0) (rm_subj1 l Z a0 hw [] b42 a83 csz dc b2 b83 h83 n0 O95 S_CS hcs S_DC F90 F92 F91 Es83 Fv83 (own_Len.arv Av83)) hZ (W_ 240 rfl) (W_ 43 rfl) (by decide) (by decide)) q99a q99c (g := (mkF m 134 #[iv sh, iv x0, iv x1, iv x2, .val (.int (sh &&& (3 : Int32))), .val (.int (((sh.toUInt32 >>> ((2 : Int32) &&& 31).toUInt32).toInt32) &&& (3 : Int32))), .val (.int (((sh.toUInt32 >>> ((4 : Int32) &&& 31).toUInt32).toInt32) &&& (3 : Int32))), rv b2, rv b10, rv b21, rv u0, .val (own_pick (((sh.toUInt32 >>> ((2 : Int32) &&& 31).toUInt32).toInt32) &&& (3 : Int32)) b10 b21 u0), .val (own_pick (((sh.toUInt32 >>> ((4 : Int32) &&& 31).toUInt32).toInt32) &&& (3 : Int32)) b10 b21 u0), rv b42, iv 1, iv 1, rv b2, .unset, .unset, .unset] [(.ref a83), (.ref b42)])) rfl (by rw [hml]; rfl) (Steps.refl _) (argsL := [(.ref a83)]) (rest := []) (lenOf pd__28Ljava_2flang_2fString_3b_29Ljava_2flang_2fString_3b rfl) rfl (by show 2 * 0 + _ ≤ _; exact Nat.le_of_eq rfl) (hb hby at_134) (fun _ _ => ⟨rfl, e83, (by decide : 17 + 6 ≤ _), (by decide : 55 + 31 ≤ _)⟩)
  dsimp only [Pt.U, Pt.locs, Pt.cells, Pt.slots] at X99 l99 y99 z99 st99 hQ99
  subst l99 y99 z99
  obtain ⟨rfl, Nq99, P100⟩ := hQ99
  have N99 := Fr.app N68 Nq99
  have hkS := Nat.le_trans hkS P100.1
  have sf101 := Safe.keep P100 sf0 hH sf84
  have sf102 := Safe.keep P100 sf0 hH sf85
  have sf103 := Safe.keep P100 sf0 hH sf86
  have hR := hR.trans (CHr.keep P100 sf0 hH)
  have hH := CHv.keep P100 sf0 hH
  have F104 := F87.keep P100
  have F105 := F88.keep P100
  have F106 := F89.keep P100
  have F107 := F90.keep P100
  have F108 := F91.keep P100 nin0
  have F109 := F92.keep P100 nin0
  have F110 := F93.keep P100 nin0
  have F111 := F94.keep P100 nin0
  have F112 := Es83.keep P100
  have F113 := Fc83.keep P100 nin0
  have F114 := Fv83.keep P100 nin0
  have F115 := Av83.keep P100 nin0
  have O116 := O95.keep P100 all0
  have K117 := K96.trans P100 all0
  refine own_GH.st (T' := T99) 137 [(.ref b2)] (fun _ kq => st99.trans kq) ?_
  refine own_GH.si 139 [] (fun _ kq => XS.astore X99.here hx rfl (hb hby at_137) rfl rfl (l' := #[iv sh, iv x0, iv x1, iv x2, .val (.int (sh &&& (3 : Int32))), .val (.int (((sh.toUInt32 >>> ((2 : Int32) &&& 31).toUInt32).toInt32) &&& (3 : Int32))), .val (.int (((sh.toUInt32 >>> ((4 : Int32) &&& 31).toUInt32).toInt32) &&& (3 : Int32))), rv b2, rv b10, rv b21, rv u0, .val (own_pick (((sh.toUInt32 >>> ((2 : Int32) &&& 31).toUInt32).toInt32) &&& (3 : Int32)) b10 b21 u0), .val (own_pick (((sh.toUInt32 >>> ((4 : Int32) &&& 31).toUInt32).toInt32) &&& (3 : Int32)) b10 b21 u0), rv b42, iv 1, iv 1, rv b2, rv b2, .unset, .unset]) rfl kq) ?_
  refine own_GH.sk 141 [(.ref b2)] (fun _ kq => XS.aload X99.here hx rfl (hb hby at_139) rfl rfl kq) ?_
  refine own_GH.sk 144 [] (fun _ kq => XS.ifnullNo X99.here hx rfl (hb hby at_141) rfl kq) ?_
  refine own_GH.sk 146 [(.ref b2)] (fun _ kq => XS.aload X99.here hx rfl (hb hby at_144) rfl rfl kq) ?_
  refine own_GH.sk 148 [(.ref b2), (.ref b2)] (fun _ kq => XS.aload X99.here hx rfl (hb hby at_146) rfl rfl kq) ?_
  obtain ⟨cq118, kq118, q118a, q118b, q118c⟩ := isOf hZ rfl F104
  obtain ⟨_, _, ⟨T118, L118, k118, n118⟩, -, X118, ⟨Lc118, hQ118, l118, y118, z118⟩, st118⟩ := X99.virtualBack hx (y := own_y39) (z := own_y39) hown (mvT hZ (W_ 246 rfl)) (mvT hZ (W_ 247 rfl)) (notFace_of_selects (args := #[]) (mvT hZ (W_ 249 rfl))) (mvT hZ (W_ 249 rfl)) (mvT hZ (W_ 248 rfl)) (by decide) (backOf (W := 0) (rm_seq l Z a0 hw [] b2 b2 T99.heap n0 O116 rfl) hZ (W_ 250 rfl) (W_ 6 rfl) (by decide) (by decide)) q118a q118c (g := (mkF m 148 #[iv sh, iv x0, iv x1, iv x2, .val (.int (sh &&& (3 : Int32))), .val (.int (((sh.toUInt32 >>> ((2 : Int32) &&& 31).toUInt32).toInt32) &&& (3 : Int32))), .val (.int (((sh.toUInt32 >>> ((4 : Int32) &&& 31).toUInt32).toInt32) &&& (3 : Int32))), rv b2, rv b10, rv b21, rv u0, .val (own_pick (((sh.toUInt32 >>> ((2 : Int32) &&& 31).toUInt32).toInt32) &&& (3 : Int32)) b10 b21 u0), .val (own_pick (((sh.toUInt32 >>> ((4 : Int32) &&& 31).toUInt32).toInt32) &&& (3 : Int32)) b10 b21 u0), rv b42, iv 1, iv 1, rv b2, rv b2, .unset, .unset] [(.ref b2), (.ref b2)])) rfl (by rw [hml]; rfl) (Steps.refl _) (argsL := [(.ref b2)]) (rest := []) (lenOf pd__28Ljava_2flang_2fObject_3b_29Z rfl) rfl (by show 2 * 0 + _ ≤ _; exact Nat.le_of_eq rfl) (hb hby at_148) (fun _ _ => ⟨rfl, rfl, (by decide : 23 + 0 ≤ _), (by decide : 86 + 0 ≤ _)⟩)
  dsimp only [Pt.U, Pt.locs, Pt.cells, Pt.slots] at X118 l118 y118 z118 st118 hQ118
  subst l118 y118 z118
  obtain ⟨rfl, Nq118, P119⟩ := hQ118
  have N118 := Fr.app N99 Nq118
  refine own_GH.st (T' := T118) 151 [(.int 1)] (fun _ kq => st118.trans kq) ?_
  have hc151 : ¬ ((1 : Int32) = (0 : Int32)) := (by decide)
  refine own_GH.sk 154 [] (fun _ kq => XS.ifNo X118.here hx rfl (hb hby at_151) rfl ((if0 _ _).trans (feq hc151).1) kq) ?_
  refine own_GH.sk 155 [(.int 1)] (fun _ kq => XS.iconst X118.here hx rfl (hb hby at_154) kq) ?_
  refine own_GH.sk 159 [(.int 1)] (fun _ kq => XS.goto X118.here hx rfl (pc0 := 155) (pc' := 159) rfl (hb hby at_155) (by decide) (by decide) kq) ?_
  refine own_GH.si 161 [] (fun _ kq => XS.istore X118.here hx rfl (hb hby at_159) rfl (l' := #[iv sh, iv x0, iv x1, iv x2, .val (.int (sh &&& (3 : Int32))), .val (.int (((sh.toUInt32 >>> ((2 : Int32) &&& 31).toUInt32).toInt32) &&& (3 : Int32))), .val (.int (((sh.toUInt32 >>> ((4 : Int32) &&& 31).toUInt32).toInt32) &&& (3 : Int32))), rv b2, rv b10, rv b21, rv u0, .val (own_pick (((sh.toUInt32 >>> ((2 : Int32) &&& 31).toUInt32).toInt32) &&& (3 : Int32)) b10 b21 u0), .val (own_pick (((sh.toUInt32 >>> ((4 : Int32) &&& 31).toUInt32).toInt32) &&& (3 : Int32)) b10 b21 u0), rv b42, iv 1, iv 1, rv b2, rv b2, iv 1, .unset]) rfl kq) ?_
  refine own_GH.sk 163 [(.ref b2)] (fun _ kq => XS.aload X118.here hx rfl (hb hby at_161) rfl rfl kq) ?_
  refine own_GH.sk 166 [] (fun _ kq => XS.ifnullNo X118.here hx rfl (hb hby at_163) rfl kq) ?_
  refine own_GH.sk 168 [(.ref b2)] (fun _ kq => XS.aload X118.here hx rfl (hb hby at_166) rfl rfl kq) ?_
  refine own_GH.sk 170 [(.ref b2), (.ref b2)] (fun _ kq => XS.aload X118.here hx rfl (hb hby at_168) rfl rfl kq) ?_
  obtain ⟨cq120, kq120, q120a, q120b, q120c⟩ := isOf hZ P119 F104
  obtain ⟨_, _, ⟨T120, L120, k120, n120⟩, -, X120, ⟨Lc120, hQ120, l120, y120, z120⟩, st120⟩ := X118.virtualBack hx (y := own_y39) (z := own_y39) hown (mvT hZ (W_ 246 rfl)) (mvT hZ (W_ 247 rfl)) (notFace_of_selects (args := #[]) (mvT hZ (W_ 249 rfl))) (mvT hZ (W_ 249 rfl)) (mvT hZ (W_ 248 rfl)) (by decide) (backOf (W := 0) (rm_seq l Z a0 hw [] b2 b2 T99.heap n0 O116 rfl) hZ (W_ 250 rfl) (W_ 6 rfl) (by decide) (by decide)) q120a q120c (g := (mkF m 170 #[iv sh, iv x0, iv x1, iv x2, .val (.int (sh &&& (3 : Int32))), .val (.int (((sh.toUInt32 >>> ((2 : Int32) &&& 31).toUInt32).toInt32) &&& (3 : Int32))), .val (.int (((sh.toUInt32 >>> ((4 : Int32) &&& 31).toUInt32).toInt32) &&& (3 : Int32))), rv b2, rv b10, rv b21, rv u0, .val (own_pick (((sh.toUInt32 >>> ((2 : Int32) &&& 31).toUInt32).toInt32) &&& (3 : Int32)) b10 b21 u0), .val (own_pick (((sh.toUInt32 >>> ((4 : Int32) &&& 31).toUInt32).toInt32) &&& (3 : Int32)) b10 b21 u0), rv b42, iv 1, iv 1, rv b2, rv b2, iv 1, .unset] [(.ref b2), (.ref b2)])) rfl (by rw [hml]; rfl) (Steps.refl _) (argsL := [(.ref b2)]) (rest := []) (lenOf pd__28Ljava_2flang_2fObject_3b_29Z rfl) rfl (by show 2 * 0 + _ ≤ _; exact Nat.le_of_eq rfl) (hb hby at_170) (fun _ _ => ⟨rfl, P119, (by decide : 23 + 0 ≤ _), (by decide : 86 + 0 ≤ _)⟩)
  dsimp only [Pt.U, Pt.locs, Pt.cells, Pt.slots] at X120 l120 y120 z120 st120 hQ120
  subst l120 y120 z120
  obtain ⟨rfl, Nq120, P121⟩ := hQ120
  have N120 := Fr.app N118 Nq120
  refine own_GH.st (T' := T120) 173 [(.int 1)] (fun _ kq => st120.trans kq) ?_
  have hc173 : ¬ ((1 : Int32) = (0 : Int32)) := (by decide)
  refine own_GH.sk 176 [] (fun _ kq => XS.ifNo X120.here hx rfl (hb hby at_173) rfl ((if0 _ _).trans (feq hc173).1) kq) ?_
  refine own_GH.sk 177 [(.int 1)] (fun _ kq => XS.iconst X120.here hx rfl (hb hby at_176) kq) ?_
  refine own_GH.sk 181 [(.int 1)] (fun _ kq => XS.goto X120.here hx rfl (pc0 := 177) (pc' := 181) rfl (hb hby at_177) (by decide) (by decide) kq) ?_
  refine own_GH.si 183 [] (fun _ kq => XS.istore X120.here hx rfl (hb hby at_181) rfl (l' := #[iv sh, iv x0, iv x1, iv x2, .val (.int (sh &&& (3 : Int32))), .val (.int (((sh.toUInt32 >>> ((2 : Int32) &&& 31).toUInt32).toInt32) &&& (3 : Int32))), .val (.int (((sh.toUInt32 >>> ((4 : Int32) &&& 31).toUInt32).toInt32) &&& (3 : Int32))), rv b2, rv b10, rv b21, rv u0, .val (own_pick (((sh.toUInt32 >>> ((2 : Int32) &&& 31).toUInt32).toInt32) &&& (3 : Int32)) b10 b21 u0), .val (own_pick (((sh.toUInt32 >>> ((4 : Int32) &&& 31).toUInt32).toInt32) &&& (3 : Int32)) b10 b21 u0), rv b42, iv 1, iv 1, rv b2, rv b2, iv 1, iv 1]) rfl kq) ?_
  refine own_GH.sk 185 [(.int 1)] (fun _ kq => XS.iload X120.here hx rfl (hb hby at_183) rfl kq) ?_
  have hc185 : ¬ ((1 : Int32) = (0 : Int32)) := (by decide)
  refine own_GH.sk 188 [] (fun _ kq => XS.ifNo X120.here hx rfl (hb hby at_185) rfl ((if0 _ _).trans (feq hc185).1) kq) ?_
  refine own_GH.sk 190 [(.int 1)] (fun _ kq => XS.iload X120.here hx rfl (hb hby at_188) rfl kq) ?_
  have hc190 : ¬ ((1 : Int32) = (0 : Int32)) := (by decide)
  refine own_GH.sk 193 [] (fun _ kq => XS.ifNo X120.here hx rfl (hb hby at_190) rfl ((if0 _ _).trans (feq hc190).1) kq) ?_
  refine own_GH.sk 195 [(.int 1)] (fun _ kq => XS.iload X120.here hx rfl (hb hby at_193) rfl kq) ?_
  have hc195 : ¬ ((1 : Int32) = (0 : Int32)) := (by decide)
  refine own_GH.sk 198 [] (fun _ kq => XS.ifNo X120.here hx rfl (hb hby at_195) rfl ((if0 _ _).trans (feq hc195).1) kq) ?_
  refine own_GH.sk 200 [(.int 1)] (fun _ kq => XS.iload X120.here hx rfl (hb hby at_198) rfl kq) ?_
  have hc200 : ¬ ((1 : Int32) = (0 : Int32)) := (by decide)
  refine own_GH.sk 203 [] (fun _ kq => XS.ifNo X120.here hx rfl (hb hby at_200) rfl ((if0 _ _).trans (feq hc200).1) kq) ?_
  refine own_GH.sk 204 [(.int 1)] (fun _ kq => XS.iconst X120.here hx rfl (hb hby at_203) kq) ?_
  refine own_GH.sk 208 [(.int 1)] (fun _ kq => XS.goto X120.here hx rfl (pc0 := 204) (pc' := 208) rfl (hb hby at_204) (by decide) (by decide) kq) ?_
  exact own_retH X120 hS P121 hkS hZ ew hH hh hR (v := some (.int 1)) (fun h => by rw [Bd.returns] at h; cases h) Bd.notSynchronized ⟨rfl, N120⟩ (by decide) (by decide) (fun fs hr => retN X120 hx (t := .boolean) Bd.returns (by simp) (hb hby at_208) hr)
set_option maxRecDepth 65536 in
set_option maxHeartbeats 40000000 in
theorem comes_1 {Post : Tables → Env → Array Value → State → Outcome → State → Prop} (hpost : ∀ tb e args s v u, (limb_1_1.after args s (.returned v) u = true ∧ limb_1_2.after args s (.returned v) u = true ∧ True) → ReturnedEndW s (.returned v) u (Jvm.fieldLocs frame_1_writes args s ++ Jvm.arrayLocs frame_1_arrays args s ++ Jvm.staticLocs frame_1_statics s) 48 2304 → Post tb e args s (.returned v) u) :
    ArmFor flags0 classFile x code maxLocals ret World_1 tables_1 room_1 Calls_1 rest_1 Pre_1 Post := by
  intro l hfl _ _ p e ha hc hk s m args below hf hA hF happ hP
  obtain ⟨hcalls, hrest, hpre⟩ := hP
  obtain ⟨-, -, -, hnamed, -, -, -, hat⟩ := (Spec.applies_iff hf).mp happ
  obtain ⟨hg, hn⟩ := and_e (Cond.before_iff.mp (show (Jvm.Cond.and given_1 narrow_1).before args s = true from hpre))
  obtain ⟨gz1, gz2⟩ := and_e hg
  obtain ⟨gz3, gz4⟩ := and_e gz2
  obtain ⟨gz5, gz6⟩ := and_e gz4
  obtain ⟨gz7, gz8⟩ := and_e gz6
  obtain ⟨u0, u1, u2, u3, rfl⟩ : ∃ u0 u1 u2 u3 : Value, args = #[u0, u1, u2, u3] := by
    have hs : args.size = 4 := by simpa [Cond.value, given_1] using gz1
    obtain ⟨L⟩ := args
    match L, hs with
    | [u0, u1, u2, u3], _ => exact ⟨u0, u1, u2, u3, rfl⟩
  have hw := fun d (hd : d ∈ tables_1) => atoms_spec (ws := Jvm.Cond.code x code maxLocals ret :: tables_1) hat d (List.mem_cons_of_mem _ hd)
  have W_ : ∀ {d : Jvm.Cond} (i : Nat), tables_1[i]? = some d → d.before _ s = true := fun i h => hw _ (List.mem_of_getElem? h)
  have hfit : Fit s := fun {y c} hc i hi => by
    obtain ⟨ha, rfl⟩ := Array.getElem?_eq_some_iff.mp hc
    have q := List.all_eq_true.mp ((Array.all_eq_true_iff_forall_mem.mp hF) _ (Array.getElem_mem ha)) i (List.mem_range.mpr hi)
    simpa [Array.getElem?_eq_getElem hi] using q
  obtain ⟨hsets, hown0⟩ := atoms_of _ (rest_1_c_eq ▸ (show rest_1_c.before _ s = true from hrest))
  have hr0 := Cond.before_iff.mp hown0
  obtain ⟨i0, ei0⟩ := is_v gz3
  obtain rfl : u0 = (.int i0) := Option.some.inj ei0
  obtain ⟨i1, ei1⟩ := is_v gz5
  obtain rfl : u1 = (.int i1) := Option.some.inj ei1
  obtain ⟨i2, ei2⟩ := is_v gz7
  obtain rfl : u2 = (.int i2) := Option.some.inj ei2
  obtain ⟨i3, ei3⟩ := is_v gz8
  obtain rfl : u3 = (.int i3) := Option.some.inj ei3
  obtain ⟨csz, ev_csz⟩ := is_v (Cond.before_iff.mp (hsets _ (List.mem_of_getElem? (i := 10) rfl)))
  have S_CS : Sta s s.heap "java/lang/String" "COMPACT_STRINGS" "Z" (.int csz) := Sta.start ev_csz (Or.inl (hsets _ (List.mem_of_getElem? (i := 9) rfl)))
  have hcs : ¬ csz = (0 : Int32) := gotF (Cond.eq_ints ev_csz (Term.int_eval (0))) (not_v (Cond.before_iff.mp (hsets _ (List.mem_of_getElem? (i := 11) rfl))))
  obtain ⟨dc, ev_dc⟩ := arr_v (Cond.before_iff.mp (hsets _ (List.mem_of_getElem? (i := 6) rfl)))
  have S_DC : Sta s s.heap "java/util/ArrayList" "DEFAULTCAPACITY_EMPTY_ELEMENTDATA" "[Ljava/lang/Object;" (.ref dc) := Sta.start ev_dc (Or.inr ⟨(W_ 84 rfl), (hsets _ (List.mem_of_getElem? (i := 2) rfl))⟩)
  obtain ⟨u0, ev_UNCONSTRAINED⟩ := exa_v hn
  have S_UNCONSTRAINED : Sta s s.heap "com/example/concordant/concordant/model/Schema" "UNCONSTRAINED" "Lcom/example/concordant/concordant/model/Schema;" (.ref u0) := Sta.start ev_UNCONSTRAINED (Or.inr ⟨(W_ 28 rfl), (W_ 37 rfl)⟩)
  have E_UNCONSTRAINED : Exa s s.heap u0 "com/example/concordant/concordant/model/Schema" := Exa.start ev_UNCONSTRAINED hn
  have hcc : ∀ q ∈ consts_1, Jvm.Lit.constHeld s q.1 q.2 := And.left hcalls
  have hCH : CHv s own_EL s.vm s.heap := CHv.start (own_EW s _ hw) (fun p hp => hcc p ((by decide : ∀ p ∈ own_EL, p ∈ consts_1) p hp)) (hsets _ (List.mem_of_getElem? (i := 11) rfl)) (W_ 19 rfl) (W_ 5 rfl)
  obtain ⟨n, o, h1, h2, h3, _, L, rfl, ⟨rfl, N⟩, -, hq⟩ := rm_law l s _ hw tables_1 i0 i1 i2 i3 csz dc u0 s.heap s.heap.size (Old.start s) S_CS hcs S_DC S_UNCONSTRAINED p e ha hc hk s m _ below hf ((Spec.applies_iff_loose hf).mp happ).1 ⟨rfl, State.Warmed39.refl s, rfl, hCH⟩ trivial
  refine ⟨n, _, h1, h2, h3, hpost _ _ _ _ _ _ ⟨Cond.after_iff.mpr rfl, Cond.after_iff.mpr (eq_i res_at (Term.int_eval (1)) rfl), trivial⟩ ⟨hq.1, hq.2.1, hq.2.2.1, (hq.2.2.2.sift fun y hy => Or.inr (N y hy)).mono (by decide) (by decide)⟩⟩
theorem main_1_1 : Claimed_1_1 := comes_1 fun _ _ _ _ _ _ h hF => ⟨h.1, hF⟩
theorem main_1_2 : Claimed_1_2 := comes_1 fun _ _ _ _ _ _ h hF => ⟨h.2.1, hF⟩
end Jvm.Pilot.@@N@@
namespace Jvm.Pilot.@@N@@
open Jvm Jvm.ClassFile Sem Op Lib Jvm.Free Jvm.Stand Jvm.Pilot.@@N@@.Jvm.D
/-! MADE BY PROGRAM (witnessworld.py) out of the Statement's table words and the real class files: 40 classes; the members and pool entries that the words name. The judged class is class 1, her method 3. -/
namespace start1
open Jvm.ClassFile
def u (s : String) : CpInfo := .utf8 (stringToUtf16 s)
/-- a pool by its gaps: so many unusable entries, then the entry; so many at the end -/
def gap : Nat → List CpInfo → List CpInfo
  | 0, r => r
  | n + 1, r => .unusable :: gap n r
def poolList (es : List (Nat × CpInfo)) (last : Nat) : List CpInfo := es.foldr (fun e r => gap e.1 (e.2 :: r)) (gap last [])
def pool (es : List (Nat × CpInfo)) (last : Nat) : Array CpInfo := ⟨poolList es last⟩
def fileOf (pool : Array CpInfo) (this : Nat) (attrs : Array Attribute := #[]) (ms : Array MethodInfo := #[]) (fl : Nat := 33) (sup : Nat := 0) (ifs : Array Nat := #[]) (fds : Array FieldInfo := #[]) : ClassFile where
  minorVersion := 0
  majorVersion := 65
  constantPool := pool
  accessFlags := fl
  thisClass := this
  superClass := sup
  interfaces := ifs
  fields := fds
  methods := ms
  attributes := attrs
def plain (name : String) (sup : Option ClassId) : Class where
  name := name
  kind := .ordinary
  loader := none
  accessFlags := 33
  super := sup
  interfaces := #[]
  cf := none
  fields := #[]
  methods := #[]
  instanceTypes := #[]
  staticTypes := #[]
  resolved := #[]
  callSites := []
  init := .initialized
  statics := none
  mirror := none

def pool0 : Array CpInfo := pool [(5, u "<init>"), (0, u "()V"), (1, .class_ 10), (1, u "java/lang/Object")] 113

def k0c0 : Code := { maxStack := 0, maxLocals := 1, code := object_method_1_code, exceptionTable := #[], attributes := #[] }
def k0m0 : Method := { name := "<init>", desc := "()V", sig := { parameters := [], returnType := none }, accessFlags := 1, code := some k0c0 }
/-- java/lang/Object -/
def k0 : Class := { plain "java/lang/Object" none with
  accessFlags := 33
  interfaces := #[]
  cf := some (fileOf pool0 8 #[] #[{ accessFlags := 1, nameIndex := 5, descriptorIndex := 6, attributes := #[] }] 33 0 #[] #[])
  fields := #[]
  methods := #[k0m0]
  instanceTypes := #[]
  staticTypes := #[]
  resolved := Array.replicate 124 none
  statics := none }

def pool1 : Array CpInfo := pool [(2, .class_ 4), (0, .nameAndType 5 6), (0, u "java/lang/Object"), (0, u "<init>"), (0, u "()V"), (0, .class_ 8), (0, u "java/lang/String"), (0, .methodref 7 10), (0, .nameAndType 5 11), (0, u "([C)V"), (0, .methodref 13 14), (0, .class_ 15), (0, .nameAndType 16 17), (0, u "com/example/concordant/concordant/rules/SchemaPairsRootPinLaw"), (0, u "drawn"), (0, u "(IIII)Ljava/lang/String;"), (0, .class_ 19), (0, u "com/example/concordant/concordant/model/Schema"), (0, .methodref 18 3), (0, .methodref 18 22), (0, .nameAndType 23 24), (0, u "unconstrained"), (0, u "()Lcom/example/concordant/concordant/model/Schema;"), (0, .methodref 13 26), (0, .nameAndType 27 28), (0, u "pick"), (0, u "(ILcom/example/concordant/concordant/model/Schema;Lcom/example/concordant/concordant/model/Schema;Lcom/example/concordant/concordant/model/Schema;)Lcom/example/concordant/concordant/model/Schema;"), (0, .methodref 30 31), (0, .class_ 32), (0, .nameAndType 33 34), (0, u "com/example/concordant/concordant/rules/SchemaPairs$SchemaPair"), (0, u "root"), (0, u "(Ljava/lang/String;Lcom/example/concordant/concordant/model/Schema;Lcom/example/concordant/concordant/model/Schema;)Lcom/example/concordant/concordant/rules/SchemaPairs$SchemaPair;"), (0, .methodref 30 36), (0, .nameAndType 37 24), (0, u "older"), (0, .methodref 30 39), (0, .nameAndType 40 24), (0, u "newer"), (0, .methodref 30 42), (0, .nameAndType 43 44), (0, u "subject"), (0, u "()Ljava/lang/String;"), (0, .string 46), (0, u ""), (0, .methodref 30 48), (0, .nameAndType 43 49), (0, u "(Ljava/lang/String;)Ljava/lang/String;"), (0, .methodref 7 51), (0, .nameAndType 52 53), (0, u "equals"), (0, u "(Ljava/lang/Object;)Z"), (3, u "law"), (0, u "(IIII)Z")] 6

def k1m0 : Method := { name := "<init>", desc := "()V", sig := { parameters := [], returnType := none }, accessFlags := 2, code := none }
def k1c1 : Code := { maxStack := 6, maxLocals := 7, code := method_2_code, exceptionTable := #[], attributes := #[] }
def k1m1 : Method := { name := "drawn", desc := "(IIII)Ljava/lang/String;", sig := { parameters := [.int, .int, .int, .int], returnType := some (.object "java/lang/String") }, accessFlags := 10, code := some k1c1 }
def k1c2 : Code := { maxStack := 2, maxLocals := 4, code := method_3_code, exceptionTable := #[], attributes := #[] }
def k1m2 : Method := { name := "pick", desc := "(ILcom/example/concordant/concordant/model/Schema;Lcom/example/concordant/concordant/model/Schema;Lcom/example/concordant/concordant/model/Schema;)Lcom/example/concordant/concordant/model/Schema;", sig := { parameters := [.int, (.object "com/example/concordant/concordant/model/Schema"), (.object "com/example/concordant/concordant/model/Schema"), (.object "com/example/concordant/concordant/model/Schema")], returnType := some (.object "com/example/concordant/concordant/model/Schema") }, accessFlags := 10, code := some k1c2 }
def k1c3 : Code := { maxStack := 4, maxLocals := 20, code := code, exceptionTable := #[], attributes := #[] }
def k1m3 : Method := { name := "law", desc := "(IIII)Z", sig := { parameters := [.int, .int, .int, .int], returnType := some .boolean }, accessFlags := 9, code := some k1c3 }
/-- com/example/concordant/concordant/rules/SchemaPairsRootPinLaw -/
def k1 : Class := { plain "com/example/concordant/concordant/rules/SchemaPairsRootPinLaw" (some 0) with
  accessFlags := 49
  interfaces := #[]
  cf := some (fileOf pool1 13 #[] #[{ accessFlags := 2, nameIndex := 5, descriptorIndex := 6, attributes := #[] }, { accessFlags := 10, nameIndex := 16, descriptorIndex := 17, attributes := #[] }, { accessFlags := 10, nameIndex := 27, descriptorIndex := 28, attributes := #[] }, { accessFlags := 9, nameIndex := 57, descriptorIndex := 58, attributes := #[] }] 49 2 #[] #[])
  fields := #[]
  methods := #[k1m0, k1m1, k1m2, k1m3]
  instanceTypes := #[]
  staticTypes := #[]
  resolved := Array.replicate 65 none
  statics := none }

def pool2 : Array CpInfo := pool [(1, .class_ 2), (0, u "java/io/Serializable"), (0, .class_ 4), (0, u "java/lang/Object")] 2

/-- java/io/Serializable -/
def k2 : Class := { plain "java/io/Serializable" (some 0) with
  accessFlags := 1537
  interfaces := #[]
  cf := some (fileOf pool2 1 #[] #[] 1537 3 #[] #[])
  fields := #[]
  methods := #[]
  instanceTypes := #[]
  staticTypes := #[]
  resolved := Array.replicate 7 none
  statics := none }

def pool3 : Array CpInfo := pool [(1, .class_ 2), (0, u "java/lang/Comparable"), (0, .class_ 4), (0, u "java/lang/Object")] 7

/-- java/lang/Comparable -/
def k3 : Class := { plain "java/lang/Comparable" (some 0) with
  accessFlags := 1537
  interfaces := #[]
  cf := some (fileOf pool3 1 #[] #[] 1537 3 #[] #[])
  fields := #[]
  methods := #[]
  instanceTypes := #[]
  staticTypes := #[]
  resolved := Array.replicate 12 none
  statics := none }

def pool4 : Array CpInfo := pool [(2, .class_ 4), (1, u "java/lang/CharSequence"), (42, .class_ 48), (0, u "java/lang/CharSequence$1CodePointIterator"), (10, .class_ 60), (0, u "java/lang/CharSequence$1CharIterator"), (5, .class_ 67), (0, u "java/lang/Object")] 63

/-- java/lang/CharSequence -/
def k4 : Class := { plain "java/lang/CharSequence" (some 0) with
  accessFlags := 1537
  interfaces := #[]
  cf := some (fileOf pool4 2 #[.nestMembers #[47, 59]] #[] 1537 66 #[] #[])
  fields := #[]
  methods := #[]
  instanceTypes := #[]
  staticTypes := #[]
  resolved := Array.replicate 131 none
  statics := none }

def pool5 : Array CpInfo := pool [(1, .class_ 2), (0, u "java/lang/constant/Constable"), (0, .class_ 4), (0, u "java/lang/Object")] 6

/-- java/lang/constant/Constable -/
def k5 : Class := { plain "java/lang/constant/Constable" (some 0) with
  accessFlags := 1537
  interfaces := #[]
  cf := some (fileOf pool5 1 #[] #[] 1537 3 #[] #[])
  fields := #[]
  methods := #[]
  instanceTypes := #[]
  staticTypes := #[]
  resolved := Array.replicate 11 none
  statics := none }

def pool6 : Array CpInfo := pool [(1, .class_ 2), (0, u "java/lang/constant/ConstantDesc"), (0, .class_ 4), (0, u "java/lang/Object")] 32

/-- java/lang/constant/ConstantDesc -/
def k6 : Class := { plain "java/lang/constant/ConstantDesc" (some 0) with
  accessFlags := 1537
  interfaces := #[]
  cf := some (fileOf pool6 1 #[] #[] 1537 3 #[] #[])
  fields := #[]
  methods := #[]
  instanceTypes := #[]
  staticTypes := #[]
  resolved := Array.replicate 37 none
  statics := none }

def pool7 : Array CpInfo := pool [(1, .methodref 2 3), (0, .class_ 4), (0, .nameAndType 5 6), (0, u "java/lang/Object"), (0, u "<init>"), (0, u "()V"), (0, .string 8), (0, u ""), (0, .fieldref 10 11), (0, .class_ 12), (0, .nameAndType 13 14), (0, u "java/lang/String"), (0, u "value"), (0, u "[B"), (0, .fieldref 10 16), (0, .nameAndType 17 18), (0, u "coder"), (0, u "B"), (2, u "hash"), (0, u "I"), (2, u "hashIsZero"), (0, u "Z"), (0, .methodref 10 28), (0, .nameAndType 5 29), (0, u "([CIILjava/lang/Void;)V"), (8, .fieldref 10 39), (0, .nameAndType 40 26), (0, u "COMPACT_STRINGS"), (1, .class_ 44), (1, u "java/lang/StringUTF16"), (0, u "compress"), (1, .methodref 42 48), (0, .nameAndType 49 50), (0, u "coderFromArrayLen"), (0, u "([BI)B"), (3, .methodref 55 56), (0, .class_ 57), (0, .nameAndType 58 59), (0, u "java/util/Arrays"), (0, u "copyOfRange"), (0, u "([BII)[B"), (82, u "()Z"), (34, .methodref 42 178), (0, .nameAndType 45 179), (0, u "([CII)[B"), (154, u "()I"), (5, u "()[B"), (148, .methodref 10 490), (0, .nameAndType 5 491), (0, u "(Ljava/lang/AbstractStringBuilder;Ljava/lang/Void;)V"), (1, .nameAndType 494 142), (0, u "isLatin1"), (11, .nameAndType 507 334), (0, u "length"), (35, u "equals"), (5, .methodref 550 506), (0, .class_ 551), (0, u "java/lang/AbstractStringBuilder"), (0, .methodref 550 553), (0, .nameAndType 554 340), (0, u "getValue"), (18, u "(Ljava/lang/Object;)Z"), (1, .class_ 576), (0, u "java/lang/CharSequence"), (22, u "CASE_INSENSITIVE_ORDER"), (0, u "Ljava/util/Comparator;"), (91, u "isEmpty"), (317, u "([C)V"), (36, .methodref 550 493), (53, u "serialPersistentFields"), (0, u "[Ljava/io/ObjectStreamField;"), (0, .class_ 1104), (0, u "java/lang/String$CaseInsensitiveComparator"), (1, .class_ 1107), (0, u "java/io/Serializable"), (0, .class_ 1109), (0, u "java/lang/Comparable"), (0, .class_ 1111), (0, u "java/lang/constant/Constable"), (0, .class_ 1113), (0, u "java/lang/constant/ConstantDesc"), (2, u "serialVersionUID"), (0, u "J"), (3, u "REPL"), (0, u "C"), (2, u "LATIN1"), (1, u "UTF16"), (105, u "(Ljava/lang/StringBuilder;)V")] 217

def k7m0 : Method := { name := "<init>", desc := "()V", sig := { parameters := [], returnType := none }, accessFlags := 1, code := none }
def k7c1 : Code := { maxStack := 5, maxLocals := 2, code := jdk_42_method_3_code, exceptionTable := #[], attributes := #[] }
def k7m1 : Method := { name := "<init>", desc := "([C)V", sig := { parameters := [(.array .char)], returnType := none }, accessFlags := 1, code := some k7c1 }
def k7c2 : Code := { maxStack := 3, maxLocals := 2, code := jdk_42_method_53_code, exceptionTable := #[], attributes := #[] }
def k7m2 : Method := { name := "<init>", desc := "(Ljava/lang/StringBuilder;)V", sig := { parameters := [(.object "java/lang/StringBuilder")], returnType := none }, accessFlags := 1, code := some k7c2 }
def k7c3 : Code := { maxStack := 1, maxLocals := 1, code := jdk_42_method_55_code, exceptionTable := #[], attributes := #[] }
def k7m3 : Method := { name := "isEmpty", desc := "()Z", sig := { parameters := [], returnType := some .boolean }, accessFlags := 1, code := some k7c3 }
def k7c4 : Code := { maxStack := 2, maxLocals := 3, code := jdk_42_method_66_code, exceptionTable := #[], attributes := #[] }
def k7m4 : Method := { name := "equals", desc := "(Ljava/lang/Object;)Z", sig := { parameters := [(.object "java/lang/Object")], returnType := some .boolean }, accessFlags := 1, code := some k7c4 }
def k7c5 : Code := { maxStack := 4, maxLocals := 6, code := jdk_42_method_149_code, exceptionTable := #[], attributes := #[] }
def k7m5 : Method := { name := "<init>", desc := "([CIILjava/lang/Void;)V", sig := { parameters := [(.array .char), .int, .int, (.object "java/lang/Void")], returnType := none }, accessFlags := 2, code := some k7c5 }
def k7c6 : Code := { maxStack := 5, maxLocals := 5, code := jdk_42_method_150_code, exceptionTable := #[], attributes := #[] }
def k7m6 : Method := { name := "<init>", desc := "(Ljava/lang/AbstractStringBuilder;Ljava/lang/Void;)V", sig := { parameters := [(.object "java/lang/AbstractStringBuilder"), (.object "java/lang/Void")], returnType := none }, accessFlags := 0, code := some k7c6 }
/-- java/lang/String -/
def k7 : Class := { plain "java/lang/String" (some 0) with
  accessFlags := 49
  interfaces := #[2, 3, 4, 5, 6]
  cf := some (fileOf pool7 10 #[.nestMembers #[1103]] #[{ accessFlags := 1, nameIndex := 5, descriptorIndex := 6, attributes := #[] }, { accessFlags := 1, nameIndex := 5, descriptorIndex := 1010, attributes := #[] }, { accessFlags := 1, nameIndex := 5, descriptorIndex := 1233, attributes := #[] }, { accessFlags := 1, nameIndex := 692, descriptorIndex := 142, attributes := #[] }, { accessFlags := 1, nameIndex := 543, descriptorIndex := 573, attributes := #[] }, { accessFlags := 2, nameIndex := 5, descriptorIndex := 29, attributes := #[] }, { accessFlags := 0, nameIndex := 5, descriptorIndex := 491, attributes := #[] }] 49 2 #[1106, 1108, 575, 1110, 1112] #[{ accessFlags := 18, nameIndex := 13, descriptorIndex := 14, attributes := #[] }, { accessFlags := 18, nameIndex := 17, descriptorIndex := 18, attributes := #[] }, { accessFlags := 2, nameIndex := 21, descriptorIndex := 22, attributes := #[] }, { accessFlags := 2, nameIndex := 25, descriptorIndex := 26, attributes := #[] }, { accessFlags := 26, nameIndex := 1116, descriptorIndex := 1117, attributes := #[] }, { accessFlags := 24, nameIndex := 40, descriptorIndex := 26, attributes := #[] }, { accessFlags := 26, nameIndex := 1101, descriptorIndex := 1102, attributes := #[] }, { accessFlags := 26, nameIndex := 1121, descriptorIndex := 1122, attributes := #[] }, { accessFlags := 25, nameIndex := 599, descriptorIndex := 600, attributes := #[] }, { accessFlags := 24, nameIndex := 1125, descriptorIndex := 18, attributes := #[] }, { accessFlags := 24, nameIndex := 1127, descriptorIndex := 18, attributes := #[] }])
  fields := #[{ name := "value", type := (.array .byte), accessFlags := 18, slot := 0, constantValue := 0 }, { name := "coder", type := .byte, accessFlags := 18, slot := 1, constantValue := 0 }, { name := "hash", type := .int, accessFlags := 2, slot := 2, constantValue := 0 }, { name := "hashIsZero", type := .boolean, accessFlags := 2, slot := 3, constantValue := 0 }, { name := "serialVersionUID", type := .long, accessFlags := 26, slot := 0, constantValue := 0 }, { name := "COMPACT_STRINGS", type := .boolean, accessFlags := 24, slot := 1, constantValue := 0 }, { name := "serialPersistentFields", type := (.array (.object "java/io/ObjectStreamField")), accessFlags := 26, slot := 2, constantValue := 0 }, { name := "REPL", type := .char, accessFlags := 26, slot := 3, constantValue := 0 }, { name := "CASE_INSENSITIVE_ORDER", type := (.object "java/util/Comparator"), accessFlags := 25, slot := 4, constantValue := 0 }, { name := "LATIN1", type := .byte, accessFlags := 24, slot := 5, constantValue := 0 }, { name := "UTF16", type := .byte, accessFlags := 24, slot := 6, constantValue := 0 }]
  methods := #[k7m0, k7m1, k7m2, k7m3, k7m4, k7m5, k7m6]
  instanceTypes := #[(.array .byte), .byte, .int, .boolean]
  staticTypes := #[.long, .boolean, (.array (.object "java/io/ObjectStreamField")), .char, (.object "java/util/Comparator"), .byte, .byte]
  resolved := Array.replicate 1451 none
  statics := some 0 }

def pool8 : Array CpInfo := pool [(1, .methodref 2 3), (0, .class_ 4), (0, .nameAndType 5 6), (0, u "java/lang/Object"), (0, u "<init>"), (0, u "()V"), (0, .fieldref 8 9), (0, .class_ 10), (0, .nameAndType 11 12), (0, u "com/example/concordant/concordant/model/Schema"), (0, u "UNCONSTRAINED"), (0, u "Lcom/example/concordant/concordant/model/Schema;"), (2, u "content"), (0, u "Lcom/example/concordant/concordant/model/Schema$Content;"), (11, .class_ 30), (1, u "com/example/concordant/concordant/model/Schema$Content"), (9, u "()Lcom/example/concordant/concordant/model/Schema;"), (39, .class_ 81), (0, u "com/example/concordant/concordant/model/Schema$Content$Builder"), (10, u "unconstrained")] 16

def k8c0 : Code := { maxStack := 1, maxLocals := 1, code := prog_12_method_1_code, exceptionTable := #[], attributes := #[] }
def k8m0 : Method := { name := "<init>", desc := "()V", sig := { parameters := [], returnType := none }, accessFlags := 1, code := some k8c0 }
def k8c1 : Code := { maxStack := 1, maxLocals := 0, code := prog_12_method_2_code, exceptionTable := #[], attributes := #[] }
def k8m1 : Method := { name := "unconstrained", desc := "()Lcom/example/concordant/concordant/model/Schema;", sig := { parameters := [], returnType := some (.object "com/example/concordant/concordant/model/Schema") }, accessFlags := 9, code := some k8c1 }
/-- com/example/concordant/concordant/model/Schema -/
def k8 : Class := { plain "com/example/concordant/concordant/model/Schema" (some 0) with
  accessFlags := 49
  interfaces := #[]
  cf := some (fileOf pool8 8 #[.nestMembers #[28, 80]] #[{ accessFlags := 1, nameIndex := 5, descriptorIndex := 6, attributes := #[] }, { accessFlags := 9, nameIndex := 92, descriptorIndex := 40, attributes := #[] }] 49 2 #[] #[{ accessFlags := 26, nameIndex := 11, descriptorIndex := 12, attributes := #[] }, { accessFlags := 2, nameIndex := 15, descriptorIndex := 16, attributes := #[] }])
  fields := #[{ name := "UNCONSTRAINED", type := (.object "com/example/concordant/concordant/model/Schema"), accessFlags := 26, slot := 0, constantValue := 0 }, { name := "content", type := (.object "com/example/concordant/concordant/model/Schema$Content"), accessFlags := 2, slot := 0, constantValue := 0 }]
  methods := #[k8m0, k8m1]
  instanceTypes := #[(.object "com/example/concordant/concordant/model/Schema$Content")]
  staticTypes := #[(.object "com/example/concordant/concordant/model/Schema")]
  resolved := Array.replicate 109 none
  statics := some 1 }

def pool9 : Array CpInfo := pool [(1, .methodref 2 3), (0, .class_ 4), (0, .nameAndType 5 6), (0, u "java/lang/Object"), (0, u "<init>"), (0, u "()V"), (0, .fieldref 8 9), (0, .class_ 10), (0, .nameAndType 11 12), (0, u "com/example/concordant/concordant/rules/SchemaPairs$SchemaPair"), (0, u "part"), (0, u "Ljava/lang/String;"), (0, .fieldref 8 14), (0, .nameAndType 15 16), (0, u "holder"), (0, u "Lcom/example/concordant/concordant/rules/SchemaPairs$SchemaPair;"), (0, .fieldref 8 18), (0, .nameAndType 19 20), (0, u "way"), (0, u "Lcom/example/concordant/concordant/rules/SchemaPairs$Way;"), (0, .fieldref 8 22), (0, .nameAndType 23 12), (0, u "propertyName"), (0, .fieldref 8 25), (0, .nameAndType 26 27), (0, u "older"), (0, u "Lcom/example/concordant/concordant/model/Schema;"), (0, .fieldref 8 29), (0, .nameAndType 30 27), (0, u "newer"), (0, .methodref 8 32), (0, .nameAndType 5 33), (0, u "(Ljava/lang/String;Lcom/example/concordant/concordant/rules/SchemaPairs$SchemaPair;Lcom/example/concordant/concordant/rules/SchemaPairs$Way;Ljava/lang/String;Lcom/example/concordant/concordant/model/Schema;Lcom/example/concordant/concordant/model/Schema;)V"), (0, .methodref 8 35), (0, .nameAndType 36 37), (0, u "location"), (0, u "()Ljava/lang/String;"), (0, .methodref 8 39), (0, .nameAndType 40 41), (0, u "subjectAt"), (0, u "(Ljava/lang/String;)Ljava/lang/String;"), (0, .methodref 43 44), (0, .class_ 45), (0, .nameAndType 36 46), (0, u "com/example/concordant/concordant/rules/SchemaPairs"), (0, u "(Ljava/lang/String;Ljava/lang/String;)Ljava/lang/String;"), (0, .class_ 48), (0, u "java/util/ArrayList"), (0, .methodref 47 3), (1, .class_ 53), (1, u "java/util/List"), (2, .methodref 57 58), (0, .class_ 59), (0, .nameAndType 60 61), (0, u "java/util/Collections"), (0, u "reverse"), (0, u "(Ljava/util/List;)V"), (0, .class_ 63), (0, u "java/lang/StringBuilder"), (0, .methodref 62 3), (0, .interfaceMethodref 51 66), (0, .nameAndType 67 68), (0, u "iterator"), (0, u "()Ljava/util/Iterator;"), (0, .interfaceMethodref 70 71), (0, .class_ 72), (0, .nameAndType 73 74), (0, u "java/util/Iterator"), (0, u "hasNext"), (0, u "()Z"), (9, u "()I"), (0, .methodref 62 86), (0, .nameAndType 87 84), (0, u "length"), (14, .methodref 62 103), (0, .nameAndType 104 37), (0, u "toString"), (0, .methodref 106 107), (0, .class_ 108), (0, .nameAndType 109 74), (0, u "java/lang/String"), (0, u "isEmpty"), (12, u "root"), (0, u "(Ljava/lang/String;Lcom/example/concordant/concordant/model/Schema;Lcom/example/concordant/concordant/model/Schema;)Lcom/example/concordant/concordant/rules/SchemaPairs$SchemaPair;"), (0, u "()Lcom/example/concordant/concordant/model/Schema;"), (0, u "subject")] 23

def k9c0 : Code := { maxStack := 2, maxLocals := 7, code := prog_32_method_1_code, exceptionTable := #[], attributes := #[] }
def k9m0 : Method := { name := "<init>", desc := "(Ljava/lang/String;Lcom/example/concordant/concordant/rules/SchemaPairs$SchemaPair;Lcom/example/concordant/concordant/rules/SchemaPairs$Way;Ljava/lang/String;Lcom/example/concordant/concordant/model/Schema;Lcom/example/concordant/concordant/model/Schema;)V", sig := { parameters := [(.object "java/lang/String"), (.object "com/example/concordant/concordant/rules/SchemaPairs$SchemaPair"), (.object "com/example/concordant/concordant/rules/SchemaPairs$Way"), (.object "java/lang/String"), (.object "com/example/concordant/concordant/model/Schema"), (.object "com/example/concordant/concordant/model/Schema")], returnType := none }, accessFlags := 2, code := some k9c0 }
def k9c1 : Code := { maxStack := 8, maxLocals := 3, code := prog_32_method_2_code, exceptionTable := #[], attributes := #[] }
def k9m1 : Method := { name := "root", desc := "(Ljava/lang/String;Lcom/example/concordant/concordant/model/Schema;Lcom/example/concordant/concordant/model/Schema;)Lcom/example/concordant/concordant/rules/SchemaPairs$SchemaPair;", sig := { parameters := [(.object "java/lang/String"), (.object "com/example/concordant/concordant/model/Schema"), (.object "com/example/concordant/concordant/model/Schema")], returnType := some (.object "com/example/concordant/concordant/rules/SchemaPairs$SchemaPair") }, accessFlags := 8, code := some k9c1 }
def k9c2 : Code := { maxStack := 1, maxLocals := 1, code := prog_32_method_3_code, exceptionTable := #[], attributes := #[] }
def k9m2 : Method := { name := "older", desc := "()Lcom/example/concordant/concordant/model/Schema;", sig := { parameters := [], returnType := some (.object "com/example/concordant/concordant/model/Schema") }, accessFlags := 0, code := some k9c2 }
def k9c3 : Code := { maxStack := 1, maxLocals := 1, code := prog_32_method_4_code, exceptionTable := #[], attributes := #[] }
def k9m3 : Method := { name := "newer", desc := "()Lcom/example/concordant/concordant/model/Schema;", sig := { parameters := [], returnType := some (.object "com/example/concordant/concordant/model/Schema") }, accessFlags := 0, code := some k9c3 }
def k9c4 : Code := { maxStack := 2, maxLocals := 1, code := prog_32_method_5_code, exceptionTable := #[], attributes := #[] }
def k9m4 : Method := { name := "subject", desc := "()Ljava/lang/String;", sig := { parameters := [], returnType := some (.object "java/lang/String") }, accessFlags := 0, code := some k9c4 }
def k9c5 : Code := { maxStack := 3, maxLocals := 2, code := prog_32_method_6_code, exceptionTable := #[], attributes := #[] }
def k9m5 : Method := { name := "subject", desc := "(Ljava/lang/String;)Ljava/lang/String;", sig := { parameters := [(.object "java/lang/String")], returnType := some (.object "java/lang/String") }, accessFlags := 0, code := some k9c5 }
def k9c6 : Code := { maxStack := 2, maxLocals := 5, code := prog_32_method_7_code, exceptionTable := #[], attributes := #[] }
def k9m6 : Method := { name := "location", desc := "()Ljava/lang/String;", sig := { parameters := [], returnType := some (.object "java/lang/String") }, accessFlags := 2, code := some k9c6 }
def k9c7 : Code := { maxStack := 2, maxLocals := 2, code := prog_32_method_8_code, exceptionTable := #[], attributes := #[] }
def k9m7 : Method := { name := "subjectAt", desc := "(Ljava/lang/String;)Ljava/lang/String;", sig := { parameters := [(.object "java/lang/String")], returnType := some (.object "java/lang/String") }, accessFlags := 2, code := some k9c7 }
/-- com/example/concordant/concordant/rules/SchemaPairs$SchemaPair -/
def k9 : Class := { plain "com/example/concordant/concordant/rules/SchemaPairs$SchemaPair" (some 0) with
  accessFlags := 48
  interfaces := #[]
  cf := some (fileOf pool9 8 #[.nestHost 43] #[{ accessFlags := 2, nameIndex := 5, descriptorIndex := 33, attributes := #[] }, { accessFlags := 8, nameIndex := 122, descriptorIndex := 123, attributes := #[] }, { accessFlags := 0, nameIndex := 26, descriptorIndex := 124, attributes := #[] }, { accessFlags := 0, nameIndex := 30, descriptorIndex := 124, attributes := #[] }, { accessFlags := 0, nameIndex := 125, descriptorIndex := 37, attributes := #[] }, { accessFlags := 0, nameIndex := 125, descriptorIndex := 41, attributes := #[] }, { accessFlags := 2, nameIndex := 36, descriptorIndex := 37, attributes := #[] }, { accessFlags := 2, nameIndex := 40, descriptorIndex := 41, attributes := #[] }] 48 2 #[] #[{ accessFlags := 18, nameIndex := 11, descriptorIndex := 12, attributes := #[] }, { accessFlags := 18, nameIndex := 15, descriptorIndex := 16, attributes := #[] }, { accessFlags := 18, nameIndex := 19, descriptorIndex := 20, attributes := #[] }, { accessFlags := 18, nameIndex := 23, descriptorIndex := 12, attributes := #[] }, { accessFlags := 18, nameIndex := 26, descriptorIndex := 27, attributes := #[] }, { accessFlags := 18, nameIndex := 30, descriptorIndex := 27, attributes := #[] }])
  fields := #[{ name := "part", type := (.object "java/lang/String"), accessFlags := 18, slot := 0, constantValue := 0 }, { name := "holder", type := (.object "com/example/concordant/concordant/rules/SchemaPairs$SchemaPair"), accessFlags := 18, slot := 1, constantValue := 0 }, { name := "way", type := (.object "com/example/concordant/concordant/rules/SchemaPairs$Way"), accessFlags := 18, slot := 2, constantValue := 0 }, { name := "propertyName", type := (.object "java/lang/String"), accessFlags := 18, slot := 3, constantValue := 0 }, { name := "older", type := (.object "com/example/concordant/concordant/model/Schema"), accessFlags := 18, slot := 4, constantValue := 0 }, { name := "newer", type := (.object "com/example/concordant/concordant/model/Schema"), accessFlags := 18, slot := 5, constantValue := 0 }]
  methods := #[k9m0, k9m1, k9m2, k9m3, k9m4, k9m5, k9m6, k9m7]
  instanceTypes := #[(.object "java/lang/String"), (.object "com/example/concordant/concordant/rules/SchemaPairs$SchemaPair"), (.object "com/example/concordant/concordant/rules/SchemaPairs$Way"), (.object "java/lang/String"), (.object "com/example/concordant/concordant/model/Schema"), (.object "com/example/concordant/concordant/model/Schema")]
  staticTypes := #[]
  resolved := Array.replicate 149 none
  statics := none }

def pool10 : Array CpInfo := pool [(8, .class_ 10), (1, u "java/lang/Iterable"), (24, .class_ 36), (0, u "java/lang/Object")] 25

/-- java/lang/Iterable -/
def k10 : Class := { plain "java/lang/Iterable" (some 0) with
  accessFlags := 1537
  interfaces := #[]
  cf := some (fileOf pool10 8 #[] #[] 1537 35 #[] #[])
  fields := #[]
  methods := #[]
  instanceTypes := #[]
  staticTypes := #[]
  resolved := Array.replicate 62 none
  statics := none }

def pool11 : Array CpInfo := pool [(10, .class_ 12), (1, u "java/util/Collection"), (47, .class_ 61), (0, u "java/lang/Object"), (0, .class_ 63), (0, u "java/lang/Iterable")] 51

/-- java/util/Collection -/
def k11 : Class := { plain "java/util/Collection" (some 0) with
  accessFlags := 1537
  interfaces := #[10]
  cf := some (fileOf pool11 10 #[] #[] 1537 60 #[62] #[])
  fields := #[]
  methods := #[]
  instanceTypes := #[]
  staticTypes := #[]
  resolved := Array.replicate 115 none
  statics := none }

def pool12 : Array CpInfo := pool [(1, .methodref 2 3), (0, .class_ 4), (0, .nameAndType 5 6), (0, u "java/lang/Object"), (0, u "<init>"), (0, u "()V"), (1, .class_ 10), (1, u "java/util/AbstractCollection"), (66, .class_ 78), (0, u "java/util/Collection")] 81

def k12c0 : Code := { maxStack := 1, maxLocals := 1, code := jdk_22_method_1_code, exceptionTable := #[], attributes := #[] }
def k12m0 : Method := { name := "<init>", desc := "()V", sig := { parameters := [], returnType := none }, accessFlags := 4, code := some k12c0 }
/-- java/util/AbstractCollection -/
def k12 : Class := { plain "java/util/AbstractCollection" (some 0) with
  accessFlags := 1057
  interfaces := #[11]
  cf := some (fileOf pool12 8 #[] #[{ accessFlags := 4, nameIndex := 5, descriptorIndex := 6, attributes := #[] }] 1057 2 #[77] #[])
  fields := #[]
  methods := #[k12m0]
  instanceTypes := #[]
  staticTypes := #[]
  resolved := Array.replicate 160 none
  statics := none }

def pool13 : Array CpInfo := pool [(8, .class_ 10), (1, u "java/util/SequencedCollection"), (15, .class_ 27), (0, u "java/lang/Object"), (0, .class_ 29), (0, u "java/util/Collection")] 27

/-- java/util/SequencedCollection -/
def k13 : Class := { plain "java/util/SequencedCollection" (some 0) with
  accessFlags := 1537
  interfaces := #[11]
  cf := some (fileOf pool13 8 #[] #[] 1537 26 #[28] #[])
  fields := #[]
  methods := #[]
  instanceTypes := #[]
  staticTypes := #[]
  resolved := Array.replicate 57 none
  statics := none }

def pool14 : Array CpInfo := pool [(8, .class_ 10), (1, u "java/util/List"), (68, u "size"), (0, u "()I"), (22, .class_ 104), (0, u "java/lang/Object"), (15, .class_ 121), (0, u "java/util/SequencedCollection"), (1, u "iterator"), (0, u "()Ljava/util/Iterator;")] 126

def k14m0 : Method := { name := "size", desc := "()I", sig := { parameters := [], returnType := some .int }, accessFlags := 1025, code := none }
def k14m1 : Method := { name := "iterator", desc := "()Ljava/util/Iterator;", sig := { parameters := [], returnType := some (.object "java/util/Iterator") }, accessFlags := 1025, code := none }
/-- java/util/List -/
def k14 : Class := { plain "java/util/List" (some 0) with
  accessFlags := 1537
  interfaces := #[13]
  cf := some (fileOf pool14 8 #[] #[{ accessFlags := 1025, nameIndex := 79, descriptorIndex := 80, attributes := #[] }, { accessFlags := 1025, nameIndex := 123, descriptorIndex := 124, attributes := #[] }] 1537 103 #[120] #[])
  fields := #[]
  methods := #[k14m0, k14m1]
  instanceTypes := #[]
  staticTypes := #[]
  resolved := Array.replicate 251 none
  statics := none }

def pool15 : Array CpInfo := pool [(1, .methodref 2 3), (0, .class_ 4), (0, .nameAndType 5 6), (0, u "java/util/AbstractCollection"), (0, u "<init>"), (0, u "()V"), (0, .fieldref 8 9), (0, .class_ 10), (0, .nameAndType 11 12), (0, u "java/util/AbstractList"), (0, u "modCount"), (0, u "I"), (64, .class_ 78), (0, u "java/util/AbstractList$Itr"), (3, .class_ 83), (0, u "java/util/AbstractList$ListItr"), (9, .class_ 94), (0, u "java/util/AbstractList$RandomAccessSubList"), (3, .class_ 99), (0, u "java/util/AbstractList$SubList"), (33, .class_ 134), (0, u "java/util/List"), (73, .class_ 209), (0, u "java/util/AbstractList$SubList$1"), (0, .class_ 211), (0, u "java/util/AbstractList$RandomAccessSpliterator")] 6

def k15c0 : Code := { maxStack := 2, maxLocals := 1, code := jdk_39_method_1_code, exceptionTable := #[], attributes := #[] }
def k15m0 : Method := { name := "<init>", desc := "()V", sig := { parameters := [], returnType := none }, accessFlags := 4, code := some k15c0 }
/-- java/util/AbstractList -/
def k15 : Class := { plain "java/util/AbstractList" (some 12) with
  accessFlags := 1057
  interfaces := #[14]
  cf := some (fileOf pool15 8 #[.nestMembers #[93, 98, 208, 210, 82, 77]] #[{ accessFlags := 4, nameIndex := 5, descriptorIndex := 6, attributes := #[] }] 1057 2 #[133] #[{ accessFlags := 132, nameIndex := 11, descriptorIndex := 12, attributes := #[] }])
  fields := #[{ name := "modCount", type := .int, accessFlags := 132, slot := 0, constantValue := 0 }]
  methods := #[k15m0]
  instanceTypes := #[.int]
  staticTypes := #[]
  resolved := Array.replicate 218 none
  statics := none }

def pool16 : Array CpInfo := pool [(1, .class_ 2), (0, u "java/util/RandomAccess"), (0, .class_ 4), (0, u "java/lang/Object")] 2

/-- java/util/RandomAccess -/
def k16 : Class := { plain "java/util/RandomAccess" (some 0) with
  accessFlags := 1537
  interfaces := #[]
  cf := some (fileOf pool16 1 #[] #[] 1537 3 #[] #[])
  fields := #[]
  methods := #[]
  instanceTypes := #[]
  staticTypes := #[]
  resolved := Array.replicate 7 none
  statics := none }

def pool17 : Array CpInfo := pool [(1, .class_ 2), (0, u "java/lang/Cloneable"), (0, .class_ 4), (0, u "java/lang/Object")] 2

/-- java/lang/Cloneable -/
def k17 : Class := { plain "java/lang/Cloneable" (some 0) with
  accessFlags := 1537
  interfaces := #[]
  cf := some (fileOf pool17 1 #[] #[] 1537 3 #[] #[])
  fields := #[]
  methods := #[]
  instanceTypes := #[]
  staticTypes := #[]
  resolved := Array.replicate 7 none
  statics := none }

def pool18 : Array CpInfo := pool [(1, .methodref 2 3), (0, .class_ 4), (0, .nameAndType 5 6), (0, u "java/util/AbstractList"), (0, u "<init>"), (0, u "()V"), (2, .fieldref 10 11), (0, .class_ 12), (0, .nameAndType 13 14), (0, u "java/util/ArrayList"), (0, u "elementData"), (0, u "[Ljava/lang/Object;"), (2, u "EMPTY_ELEMENTDATA"), (21, .fieldref 10 40), (0, .nameAndType 41 14), (0, u "DEFAULTCAPACITY_EMPTY_ELEMENTDATA"), (6, .fieldref 10 49), (0, .nameAndType 50 51), (0, u "size"), (0, u "I"), (96, .class_ 149), (0, u "java/util/List"), (16, u "iterator"), (0, u "()Ljava/util/Iterator;"), (18, u "()I"), (75, .class_ 263), (0, u "java/util/ArrayList$ListItr"), (3, .class_ 268), (0, u "java/util/ArrayList$Itr"), (0, .methodref 267 270), (0, .nameAndType 5 271), (0, u "(Ljava/util/ArrayList;)V"), (4, .class_ 277), (0, u "java/util/ArrayList$SubList"), (12, .class_ 291), (0, u "java/util/ArrayList$ArrayListSpliterator"), (37, .class_ 330), (0, u "java/util/RandomAccess"), (0, .class_ 332), (0, u "java/lang/Cloneable"), (0, .class_ 334), (0, u "java/io/Serializable"), (0, u "serialVersionUID"), (0, u "J"), (3, u "DEFAULT_CAPACITY"), (159, .class_ 501), (0, u "java/util/ArrayList$SubList$2"), (0, .class_ 503), (0, u "java/util/ArrayList$SubList$1")] 5

def k18c0 : Code := { maxStack := 2, maxLocals := 1, code := jdk_38_method_2_code, exceptionTable := #[], attributes := #[] }
def k18m0 : Method := { name := "<init>", desc := "()V", sig := { parameters := [], returnType := none }, accessFlags := 1, code := some k18c0 }
def k18c1 : Code := { maxStack := 1, maxLocals := 1, code := jdk_38_method_8_code, exceptionTable := #[], attributes := #[] }
def k18m1 : Method := { name := "size", desc := "()I", sig := { parameters := [], returnType := some .int }, accessFlags := 1, code := some k18c1 }
def k18c2 : Code := { maxStack := 3, maxLocals := 1, code := jdk_38_method_55_code, exceptionTable := #[], attributes := #[] }
def k18m2 : Method := { name := "iterator", desc := "()Ljava/util/Iterator;", sig := { parameters := [], returnType := some (.object "java/util/Iterator") }, accessFlags := 1, code := some k18c2 }
/-- java/util/ArrayList -/
def k18 : Class := { plain "java/util/ArrayList" (some 15) with
  accessFlags := 33
  interfaces := #[14, 16, 17, 2]
  cf := some (fileOf pool18 10 #[.nestMembers #[290, 276, 500, 502, 262, 267]] #[{ accessFlags := 1, nameIndex := 5, descriptorIndex := 6, attributes := #[] }, { accessFlags := 1, nameIndex := 50, descriptorIndex := 186, attributes := #[] }, { accessFlags := 1, nameIndex := 166, descriptorIndex := 167, attributes := #[] }] 33 2 #[148, 329, 331, 333] #[{ accessFlags := 26, nameIndex := 335, descriptorIndex := 336, attributes := #[] }, { accessFlags := 26, nameIndex := 340, descriptorIndex := 51, attributes := #[] }, { accessFlags := 26, nameIndex := 17, descriptorIndex := 14, attributes := #[] }, { accessFlags := 26, nameIndex := 41, descriptorIndex := 14, attributes := #[] }, { accessFlags := 128, nameIndex := 13, descriptorIndex := 14, attributes := #[] }, { accessFlags := 2, nameIndex := 50, descriptorIndex := 51, attributes := #[] }])
  fields := #[{ name := "serialVersionUID", type := .long, accessFlags := 26, slot := 0, constantValue := 0 }, { name := "DEFAULT_CAPACITY", type := .int, accessFlags := 26, slot := 1, constantValue := 0 }, { name := "EMPTY_ELEMENTDATA", type := (.array (.object "java/lang/Object")), accessFlags := 26, slot := 2, constantValue := 0 }, { name := "DEFAULTCAPACITY_EMPTY_ELEMENTDATA", type := (.array (.object "java/lang/Object")), accessFlags := 26, slot := 3, constantValue := 0 }, { name := "elementData", type := (.array (.object "java/lang/Object")), accessFlags := 128, slot := 1, constantValue := 0 }, { name := "size", type := .int, accessFlags := 2, slot := 2, constantValue := 0 }]
  methods := #[k18m0, k18m1, k18m2]
  instanceTypes := #[.int, (.array (.object "java/lang/Object")), .int]
  staticTypes := #[.long, .int, (.array (.object "java/lang/Object")), (.array (.object "java/lang/Object"))]
  resolved := Array.replicate 509 none
  statics := some 2 }

def pool19 : Array CpInfo := pool [(2, .class_ 4), (1, u "java/lang/Object"), (0, u "<init>"), (0, u "()V"), (1, .class_ 10), (1, u "java/util/List"), (4, .interfaceMethodref 8 16), (0, .nameAndType 17 18), (0, u "size"), (0, u "()I"), (0, .class_ 20), (0, u "java/util/Collections"), (63, u "r"), (0, u "Ljava/util/Random;"), (66, u "reverse"), (0, u "(Ljava/util/List;)V"), (12, .class_ 167), (0, u "java/util/Collections$UnmodifiableCollection"), (6, .class_ 175), (0, u "java/util/Collections$UnmodifiableSequencedCollection"), (6, .class_ 183), (0, u "java/util/Collections$UnmodifiableSet"), (6, .class_ 191), (0, u "java/util/Collections$UnmodifiableSequencedSet"), (6, .class_ 199), (0, u "java/util/Collections$UnmodifiableSortedSet"), (6, .class_ 207), (0, u "java/util/Collections$UnmodifiableNavigableSet"), (4, .class_ 213), (0, u "java/util/Collections$UnmodifiableList"), (1, .class_ 216), (0, u "java/util/Collections$UnmodifiableRandomAccessList"), (6, .class_ 224), (0, u "java/util/Collections$UnmodifiableMap"), (6, .class_ 232), (0, u "java/util/Collections$UnmodifiableSequencedMap"), (4, .class_ 238), (0, u "java/util/Collections$UnmodifiableSortedMap"), (6, .class_ 246), (0, u "java/util/Collections$UnmodifiableNavigableMap"), (3, .class_ 251), (0, u "java/util/Collections$SynchronizedCollection"), (4, .class_ 257), (0, u "java/util/Collections$SynchronizedSet"), (4, .class_ 263), (0, u "java/util/Collections$SynchronizedSortedSet"), (1, .class_ 266), (0, u "java/util/Collections$SynchronizedNavigableSet"), (1, .class_ 269), (0, u "java/util/Collections$SynchronizedRandomAccessList"), (1, .class_ 272), (0, u "java/util/Collections$SynchronizedList"), (5, .class_ 279), (0, u "java/util/Collections$SynchronizedMap"), (1, .class_ 282), (0, u "java/util/Collections$SynchronizedSortedMap"), (1, .class_ 285), (0, u "java/util/Collections$SynchronizedNavigableMap"), (1, .class_ 288), (0, u "java/util/Collections$CheckedCollection"), (11, .class_ 301), (0, u "java/util/Collections$CheckedQueue"), (3, .class_ 306), (0, u "java/util/Collections$CheckedSet"), (3, .class_ 311), (0, u "java/util/Collections$CheckedSortedSet"), (3, .class_ 316), (0, u "java/util/Collections$CheckedNavigableSet"), (3, .class_ 321), (0, u "java/util/Collections$CheckedRandomAccessList"), (3, .class_ 326), (0, u "java/util/Collections$CheckedList"), (1, .class_ 329), (0, u "java/util/Collections$CheckedMap"), (3, .class_ 334), (0, u "java/util/Collections$CheckedSortedMap"), (3, .class_ 339), (0, u "java/util/Collections$CheckedNavigableMap"), (4, .class_ 346), (1, u "java/util/Collections$EmptyIterator"), (3, .class_ 352), (1, u "java/util/Collections$EmptyListIterator"), (2, .class_ 357), (1, u "java/util/Collections$EmptyEnumeration"), (4, u "EMPTY_SET"), (0, u "Ljava/util/Set;"), (6, u "EMPTY_LIST"), (0, u "Ljava/util/List;"), (2, u "EMPTY_MAP"), (0, u "Ljava/util/Map;"), (4, .class_ 381), (0, u "java/util/Collections$SingletonSet"), (2, .class_ 385), (0, u "java/util/Collections$1"), (1, .class_ 388), (0, u "java/util/Collections$2"), (1, .class_ 391), (0, u "java/util/Collections$SingletonList"), (1, .class_ 394), (0, u "java/util/Collections$SingletonMap"), (22, .class_ 418), (0, u "java/util/Collections$CopiesList"), (4, .class_ 425), (1, u "java/util/Collections$ReverseComparator"), (8, .class_ 435), (0, u "java/util/Collections$ReverseComparator2"), (6, .class_ 443), (0, u "java/util/Collections$3"), (25, .class_ 470), (0, u "java/util/Collections$SetFromMap"), (2, .class_ 474), (0, u "java/util/Collections$SequencedSetFromMap"), (3, .class_ 479), (0, u "java/util/Collections$AsLIFOQueue"), (11, .class_ 492), (0, u "java/util/Collections$EmptySet"), (1, .class_ 495), (0, u "java/util/Collections$EmptyList"), (1, .class_ 498), (0, u "java/util/Collections$EmptyMap"), (1, u "BINARYSEARCH_THRESHOLD"), (0, u "I"), (2, u "REVERSE_THRESHOLD"), (1, u "SHUFFLE_THRESHOLD"), (1, u "FILL_THRESHOLD"), (1, u "ROTATE_THRESHOLD"), (1, u "COPY_THRESHOLD"), (1, u "REPLACEALL_THRESHOLD"), (1, u "INDEXOFSUBLIST_THRESHOLD"), (333, .class_ 851), (0, u "java/util/Collections$CheckedMap$CheckedEntrySet"), (0, .class_ 853), (0, u "java/util/Collections$CheckedMap$CheckedEntrySet$CheckedEntry"), (0, .class_ 855), (0, u "java/util/Collections$CheckedMap$CheckedEntrySet$1"), (0, .class_ 857), (0, u "java/util/Collections$CheckedList$1"), (0, .class_ 859), (0, u "java/util/Collections$CheckedCollection$1"), (0, .class_ 861), (0, u "java/util/Collections$UnmodifiableNavigableMap$EmptyNavigableMap"), (0, .class_ 863), (0, u "java/util/Collections$UnmodifiableMap$UnmodifiableEntrySet"), (0, .class_ 865), (0, u "java/util/Collections$UnmodifiableMap$UnmodifiableEntrySet$UnmodifiableEntry"), (0, .class_ 867), (0, u "java/util/Collections$UnmodifiableMap$UnmodifiableEntrySet$UnmodifiableEntrySetSpliterator"), (0, .class_ 869), (0, u "java/util/Collections$UnmodifiableMap$UnmodifiableEntrySet$1"), (0, .class_ 871), (0, u "java/util/Collections$UnmodifiableList$1"), (0, .class_ 873), (0, u "java/util/Collections$UnmodifiableNavigableSet$EmptyNavigableSet"), (0, .class_ 875), (0, u "java/util/Collections$UnmodifiableCollection$1")] 57

def k19m0 : Method := { name := "<init>", desc := "()V", sig := { parameters := [], returnType := none }, accessFlags := 2, code := none }
def k19c1 : Code := { maxStack := 3, maxLocals := 7, code := jdk_79_method_11_code, exceptionTable := #[], attributes := #[] }
def k19m1 : Method := { name := "reverse", desc := "(Ljava/util/List;)V", sig := { parameters := [(.object "java/util/List")], returnType := none }, accessFlags := 9, code := some k19c1 }
/-- java/util/Collections -/
def k19 : Class := { plain "java/util/Collections" (some 0) with
  accessFlags := 33
  interfaces := #[]
  cf := some (fileOf pool19 19 #[.nestMembers #[478, 473, 469, 434, 423, 417, 393, 390, 380, 497, 494, 491, 355, 350, 344, 338, 333, 328, 850, 852, 854, 320, 325, 856, 315, 310, 305, 300, 287, 858, 284, 281, 278, 268, 271, 265, 262, 256, 250, 245, 860, 237, 231, 223, 862, 864, 866, 868, 215, 212, 870, 206, 872, 198, 190, 182, 174, 166, 874, 442, 387, 384]] #[{ accessFlags := 2, nameIndex := 5, descriptorIndex := 6, attributes := #[] }, { accessFlags := 9, nameIndex := 152, descriptorIndex := 153, attributes := #[] }] 33 2 #[] #[{ accessFlags := 26, nameIndex := 500, descriptorIndex := 501, attributes := #[] }, { accessFlags := 26, nameIndex := 504, descriptorIndex := 501, attributes := #[] }, { accessFlags := 26, nameIndex := 506, descriptorIndex := 501, attributes := #[] }, { accessFlags := 26, nameIndex := 508, descriptorIndex := 501, attributes := #[] }, { accessFlags := 26, nameIndex := 510, descriptorIndex := 501, attributes := #[] }, { accessFlags := 26, nameIndex := 512, descriptorIndex := 501, attributes := #[] }, { accessFlags := 26, nameIndex := 514, descriptorIndex := 501, attributes := #[] }, { accessFlags := 26, nameIndex := 516, descriptorIndex := 501, attributes := #[] }, { accessFlags := 10, nameIndex := 84, descriptorIndex := 85, attributes := #[] }, { accessFlags := 25, nameIndex := 362, descriptorIndex := 363, attributes := #[] }, { accessFlags := 25, nameIndex := 370, descriptorIndex := 371, attributes := #[] }, { accessFlags := 25, nameIndex := 374, descriptorIndex := 375, attributes := #[] }])
  fields := #[{ name := "BINARYSEARCH_THRESHOLD", type := .int, accessFlags := 26, slot := 0, constantValue := 0 }, { name := "REVERSE_THRESHOLD", type := .int, accessFlags := 26, slot := 1, constantValue := 0 }, { name := "SHUFFLE_THRESHOLD", type := .int, accessFlags := 26, slot := 2, constantValue := 0 }, { name := "FILL_THRESHOLD", type := .int, accessFlags := 26, slot := 3, constantValue := 0 }, { name := "ROTATE_THRESHOLD", type := .int, accessFlags := 26, slot := 4, constantValue := 0 }, { name := "COPY_THRESHOLD", type := .int, accessFlags := 26, slot := 5, constantValue := 0 }, { name := "REPLACEALL_THRESHOLD", type := .int, accessFlags := 26, slot := 6, constantValue := 0 }, { name := "INDEXOFSUBLIST_THRESHOLD", type := .int, accessFlags := 26, slot := 7, constantValue := 0 }, { name := "r", type := (.object "java/util/Random"), accessFlags := 10, slot := 8, constantValue := 0 }, { name := "EMPTY_SET", type := (.object "java/util/Set"), accessFlags := 25, slot := 9, constantValue := 0 }, { name := "EMPTY_LIST", type := (.object "java/util/List"), accessFlags := 25, slot := 10, constantValue := 0 }, { name := "EMPTY_MAP", type := (.object "java/util/Map"), accessFlags := 25, slot := 11, constantValue := 0 }]
  methods := #[k19m0, k19m1]
  instanceTypes := #[]
  staticTypes := #[.int, .int, .int, .int, .int, .int, .int, .int, (.object "java/util/Random"), (.object "java/util/Set"), (.object "java/util/List"), (.object "java/util/Map")]
  resolved := Array.replicate 933 none
  statics := none }

def pool20 : Array CpInfo := pool [(1, .class_ 2), (0, u "java/lang/Appendable"), (0, .class_ 4), (0, u "java/lang/Object")] 9

/-- java/lang/Appendable -/
def k20 : Class := { plain "java/lang/Appendable" (some 0) with
  accessFlags := 1537
  interfaces := #[]
  cf := some (fileOf pool20 1 #[] #[] 1537 3 #[] #[])
  fields := #[]
  methods := #[]
  instanceTypes := #[]
  staticTypes := #[]
  resolved := Array.replicate 14 none
  statics := none }

def pool21 : Array CpInfo := pool [(1, .class_ 2), (0, u "java/lang/String"), (0, .methodref 4 5), (0, .class_ 6), (0, .nameAndType 7 8), (0, u "java/lang/Object"), (0, u "<init>"), (0, u "()V"), (1, .class_ 12), (1, u "java/lang/AbstractStringBuilder"), (0, u "EMPTYVALUE"), (0, u "[B"), (0, .fieldref 10 16), (0, .nameAndType 17 14), (0, u "value"), (0, .fieldref 1 19), (0, .nameAndType 20 21), (0, u "COMPACT_STRINGS"), (0, u "Z"), (0, .fieldref 10 23), (0, .nameAndType 24 25), (0, u "coder"), (0, u "B"), (8, u "length"), (0, u "()I"), (12, .class_ 49), (0, u "java/lang/CharSequence"), (25, u "maybeLatin1"), (3, .fieldref 10 80), (0, .nameAndType 81 82), (0, u "count"), (0, u "I"), (2, u "isLatin1"), (0, u "()Z"), (16, u "(I)V"), (299, u "()[B"), (40, .class_ 445), (0, u "java/lang/Appendable"), (106, u "getValue")] 56

def k21m0 : Method := { name := "<init>", desc := "()V", sig := { parameters := [], returnType := none }, accessFlags := 0, code := none }
def k21c1 : Code := { maxStack := 2, maxLocals := 2, code := jdk_68_method_2_code, exceptionTable := #[], attributes := #[] }
def k21m1 : Method := { name := "<init>", desc := "(I)V", sig := { parameters := [.int], returnType := none }, accessFlags := 0, code := some k21c1 }
def k21c2 : Code := { maxStack := 1, maxLocals := 1, code := jdk_68_method_6_code, exceptionTable := #[], attributes := #[] }
def k21m2 : Method := { name := "length", desc := "()I", sig := { parameters := [], returnType := some .int }, accessFlags := 1, code := some k21c2 }
def k21c3 : Code := { maxStack := 1, maxLocals := 1, code := jdk_68_method_64_code, exceptionTable := #[], attributes := #[] }
def k21m3 : Method := { name := "getValue", desc := "()[B", sig := { parameters := [], returnType := some (.array .byte) }, accessFlags := 16, code := some k21c3 }
def k21c4 : Code := { maxStack := 1, maxLocals := 1, code := jdk_68_method_68_code, exceptionTable := #[], attributes := #[] }
def k21m4 : Method := { name := "isLatin1", desc := "()Z", sig := { parameters := [], returnType := some .boolean }, accessFlags := 16, code := some k21c4 }
/-- java/lang/AbstractStringBuilder -/
def k21 : Class := { plain "java/lang/AbstractStringBuilder" (some 0) with
  accessFlags := 1056
  interfaces := #[20, 4]
  cf := some (fileOf pool21 10 #[] #[{ accessFlags := 0, nameIndex := 7, descriptorIndex := 8, attributes := #[] }, { accessFlags := 0, nameIndex := 7, descriptorIndex := 103, attributes := #[] }, { accessFlags := 1, nameIndex := 34, descriptorIndex := 35, attributes := #[] }, { accessFlags := 16, nameIndex := 552, descriptorIndex := 403, attributes := #[] }, { accessFlags := 16, nameIndex := 85, descriptorIndex := 86, attributes := #[] }] 1056 4 #[444, 48] #[{ accessFlags := 0, nameIndex := 17, descriptorIndex := 14, attributes := #[] }, { accessFlags := 0, nameIndex := 24, descriptorIndex := 25, attributes := #[] }, { accessFlags := 0, nameIndex := 75, descriptorIndex := 21, attributes := #[] }, { accessFlags := 0, nameIndex := 81, descriptorIndex := 82, attributes := #[] }, { accessFlags := 26, nameIndex := 13, descriptorIndex := 14, attributes := #[] }])
  fields := #[{ name := "value", type := (.array .byte), accessFlags := 0, slot := 0, constantValue := 0 }, { name := "coder", type := .byte, accessFlags := 0, slot := 1, constantValue := 0 }, { name := "maybeLatin1", type := .boolean, accessFlags := 0, slot := 2, constantValue := 0 }, { name := "count", type := .int, accessFlags := 0, slot := 3, constantValue := 0 }, { name := "EMPTYVALUE", type := (.array .byte), accessFlags := 26, slot := 0, constantValue := 0 }]
  methods := #[k21m0, k21m1, k21m2, k21m3, k21m4]
  instanceTypes := #[(.array .byte), .byte, .boolean, .int]
  staticTypes := #[(.array .byte)]
  resolved := Array.replicate 609 none
  statics := none }

def pool22 : Array CpInfo := pool [(1, .methodref 2 3), (0, .class_ 4), (0, .nameAndType 5 6), (0, u "java/lang/AbstractStringBuilder"), (0, u "<init>"), (0, u "(I)V"), (11, .class_ 20), (1, u "java/lang/String"), (3, .class_ 26), (1, u "java/lang/StringBuilder"), (110, .methodref 18 138), (0, .nameAndType 5 139), (0, u "(Ljava/lang/StringBuilder;)V"), (5, u "()V"), (10, u "()I"), (186, .methodref 2 344), (0, .nameAndType 345 156), (0, u "length"), (3, .class_ 350), (0, u "java/lang/Appendable"), (0, .class_ 352), (0, u "java/io/Serializable"), (0, .class_ 354), (0, u "java/lang/Comparable"), (0, .class_ 356), (0, u "java/lang/CharSequence"), (0, u "serialVersionUID"), (0, u "J"), (40, u "toString"), (0, u "()Ljava/lang/String;")] 21

def k22c0 : Code := { maxStack := 2, maxLocals := 1, code := jdk_67_method_1_code, exceptionTable := #[], attributes := #[] }
def k22m0 : Method := { name := "<init>", desc := "()V", sig := { parameters := [], returnType := none }, accessFlags := 1, code := some k22c0 }
def k22c1 : Code := { maxStack := 3, maxLocals := 1, code := jdk_67_method_42_code, exceptionTable := #[], attributes := #[] }
def k22m1 : Method := { name := "toString", desc := "()Ljava/lang/String;", sig := { parameters := [], returnType := some (.object "java/lang/String") }, accessFlags := 1, code := some k22c1 }
def k22c2 : Code := { maxStack := 1, maxLocals := 1, code := jdk_67_method_93_code, exceptionTable := #[], attributes := #[] }
def k22m2 : Method := { name := "length", desc := "()I", sig := { parameters := [], returnType := some .int }, accessFlags := 4161, code := some k22c2 }
/-- java/lang/StringBuilder -/
def k22 : Class := { plain "java/lang/StringBuilder" (some 21) with
  accessFlags := 49
  interfaces := #[20, 2, 3, 4]
  cf := some (fileOf pool22 24 #[] #[{ accessFlags := 1, nameIndex := 5, descriptorIndex := 145, attributes := #[] }, { accessFlags := 1, nameIndex := 399, descriptorIndex := 400, attributes := #[] }, { accessFlags := 4161, nameIndex := 345, descriptorIndex := 156, attributes := #[] }] 49 2 #[349, 351, 353, 355] #[{ accessFlags := 24, nameIndex := 357, descriptorIndex := 358, attributes := #[] }])
  fields := #[{ name := "serialVersionUID", type := .long, accessFlags := 24, slot := 0, constantValue := 0 }]
  methods := #[k22m0, k22m1, k22m2]
  instanceTypes := #[(.array .byte), .byte, .boolean, .int]
  staticTypes := #[.long]
  resolved := Array.replicate 422 none
  statics := none }

def pool23 : Array CpInfo := pool [(16, .class_ 18), (1, u "java/util/Iterator"), (0, u "hasNext"), (0, u "()Z"), (10, .class_ 32), (0, u "java/lang/Object")] 20

def k23m0 : Method := { name := "hasNext", desc := "()Z", sig := { parameters := [], returnType := some .boolean }, accessFlags := 1025, code := none }
/-- java/util/Iterator -/
def k23 : Class := { plain "java/util/Iterator" (some 0) with
  accessFlags := 1537
  interfaces := #[]
  cf := some (fileOf pool23 16 #[] #[{ accessFlags := 1025, nameIndex := 19, descriptorIndex := 20, attributes := #[] }] 1537 31 #[] #[])
  fields := #[]
  methods := #[k23m0]
  instanceTypes := #[]
  staticTypes := #[]
  resolved := Array.replicate 53 none
  statics := none }

def pool24 : Array CpInfo := pool [(1, .fieldref 2 3), (0, .class_ 4), (0, .nameAndType 5 6), (0, u "java/util/ArrayList$Itr"), (0, u "this$0"), (0, u "Ljava/util/ArrayList;"), (0, .methodref 8 9), (0, .class_ 10), (0, .nameAndType 11 12), (0, u "java/lang/Object"), (0, u "<init>"), (0, u "()V"), (0, .fieldref 2 14), (0, .nameAndType 15 16), (0, u "lastRet"), (0, u "I"), (0, .fieldref 18 19), (0, .class_ 20), (0, .nameAndType 21 16), (0, u "java/util/ArrayList"), (0, u "modCount"), (0, .fieldref 2 23), (0, .nameAndType 24 16), (0, u "expectedModCount"), (0, .fieldref 2 26), (0, .nameAndType 27 16), (0, u "cursor"), (0, .fieldref 18 29), (0, .nameAndType 30 16), (0, u "size"), (38, .class_ 70), (0, u "java/util/Iterator"), (0, u "(Ljava/util/ArrayList;)V"), (8, u "hasNext"), (0, u "()Z")] 22

def k24c0 : Code := { maxStack := 2, maxLocals := 2, code := jdk_49_method_1_code, exceptionTable := #[], attributes := #[] }
def k24m0 : Method := { name := "<init>", desc := "(Ljava/util/ArrayList;)V", sig := { parameters := [(.object "java/util/ArrayList")], returnType := none }, accessFlags := 0, code := some k24c0 }
def k24c1 : Code := { maxStack := 2, maxLocals := 1, code := jdk_49_method_2_code, exceptionTable := #[], attributes := #[] }
def k24m1 : Method := { name := "hasNext", desc := "()Z", sig := { parameters := [], returnType := some .boolean }, accessFlags := 1, code := some k24c1 }
/-- java/util/ArrayList$Itr -/
def k24 : Class := { plain "java/util/ArrayList$Itr" (some 0) with
  accessFlags := 32
  interfaces := #[23]
  cf := some (fileOf pool24 2 #[.nestHost 18] #[{ accessFlags := 0, nameIndex := 11, descriptorIndex := 71, attributes := #[] }, { accessFlags := 1, nameIndex := 80, descriptorIndex := 81, attributes := #[] }] 32 8 #[69] #[{ accessFlags := 0, nameIndex := 27, descriptorIndex := 16, attributes := #[] }, { accessFlags := 0, nameIndex := 15, descriptorIndex := 16, attributes := #[] }, { accessFlags := 0, nameIndex := 24, descriptorIndex := 16, attributes := #[] }, { accessFlags := 4112, nameIndex := 5, descriptorIndex := 6, attributes := #[] }])
  fields := #[{ name := "cursor", type := .int, accessFlags := 0, slot := 0, constantValue := 0 }, { name := "lastRet", type := .int, accessFlags := 0, slot := 1, constantValue := 0 }, { name := "expectedModCount", type := .int, accessFlags := 0, slot := 2, constantValue := 0 }, { name := "this$0", type := (.object "java/util/ArrayList"), accessFlags := 4112, slot := 3, constantValue := 0 }]
  methods := #[k24m0, k24m1]
  instanceTypes := #[.int, .int, .int, (.object "java/util/ArrayList")]
  staticTypes := #[]
  resolved := Array.replicate 104 none
  statics := none }

def pool25 : Array CpInfo := pool [(2, .class_ 4), (1, u "java/lang/Object"), (0, u "<init>"), (0, u "()V"), (7, .class_ 16), (1, u "java/util/Arrays"), (57, .class_ 76), (1, u "java/util/Arrays$NaturalOrder"), (36, .class_ 115), (1, u "java/util/Arrays$LegacyMergeSort"), (1, u "Z"), (21, u "copyOfRange"), (10, .methodref 151 152), (0, .class_ 153), (0, .nameAndType 154 155), (0, u "java/lang/System"), (0, u "arraycopy"), (0, u "(Ljava/lang/Object;ILjava/lang/Object;II)V"), (148, .methodref 305 306), (0, .class_ 307), (0, .nameAndType 308 309), (0, u "java/lang/Math"), (0, u "min"), (0, u "(II)I"), (29, .methodref 14 340), (0, .nameAndType 341 342), (0, u "copyOfRangeByte"), (0, u "([BII)[B"), (0, .methodref 14 344), (0, .nameAndType 345 346), (0, u "checkLength"), (0, u "(II)V"), (28, .class_ 376), (0, u "java/util/Arrays$ArrayList"), (68, u "$assertionsDisabled"), (269, u "MIN_ARRAY_SORT_GRAN"), (0, u "I"), (2, u "INSERTIONSORT_THRESHOLD"), (255, .class_ 976), (0, u "java/util/Arrays$ArrayItr")] 52

def k25m0 : Method := { name := "<init>", desc := "()V", sig := { parameters := [], returnType := none }, accessFlags := 2, code := none }
def k25c1 : Code := { maxStack := 4, maxLocals := 2, code := jdk_65_method_131_code, exceptionTable := #[], attributes := #[] }
def k25m1 : Method := { name := "checkLength", desc := "(II)V", sig := { parameters := [.int, .int], returnType := none }, accessFlags := 10, code := some k25c1 }
def k25c2 : Code := { maxStack := 3, maxLocals := 3, code := jdk_65_method_132_code, exceptionTable := #[], attributes := #[] }
def k25m2 : Method := { name := "copyOfRange", desc := "([BII)[B", sig := { parameters := [(.array .byte), .int, .int], returnType := some (.array .byte) }, accessFlags := 9, code := some k25c2 }
def k25c3 : Code := { maxStack := 6, maxLocals := 5, code := jdk_65_method_133_code, exceptionTable := #[], attributes := #[] }
def k25m3 : Method := { name := "copyOfRangeByte", desc := "([BII)[B", sig := { parameters := [(.array .byte), .int, .int], returnType := some (.array .byte) }, accessFlags := 10, code := some k25c3 }
/-- java/util/Arrays -/
def k25 : Class := { plain "java/util/Arrays" (some 0) with
  accessFlags := 49
  interfaces := #[]
  cf := some (fileOf pool25 14 #[.nestMembers #[975, 375, 113, 74]] #[{ accessFlags := 2, nameIndex := 5, descriptorIndex := 6, attributes := #[] }, { accessFlags := 10, nameIndex := 345, descriptorIndex := 346, attributes := #[] }, { accessFlags := 9, nameIndex := 139, descriptorIndex := 342, attributes := #[] }, { accessFlags := 10, nameIndex := 341, descriptorIndex := 342, attributes := #[] }] 49 2 #[] #[{ accessFlags := 26, nameIndex := 715, descriptorIndex := 716, attributes := #[] }, { accessFlags := 26, nameIndex := 719, descriptorIndex := 716, attributes := #[] }, { accessFlags := 4120, nameIndex := 445, descriptorIndex := 117, attributes := #[] }])
  fields := #[{ name := "MIN_ARRAY_SORT_GRAN", type := .int, accessFlags := 26, slot := 0, constantValue := 0 }, { name := "INSERTIONSORT_THRESHOLD", type := .int, accessFlags := 26, slot := 1, constantValue := 0 }, { name := "$assertionsDisabled", type := .boolean, accessFlags := 4120, slot := 2, constantValue := 0 }]
  methods := #[k25m0, k25m1, k25m2, k25m3]
  instanceTypes := #[]
  staticTypes := #[.int, .int, .boolean]
  resolved := Array.replicate 1029 none
  statics := none }

def pool26 : Array CpInfo := pool [(1, .class_ 2), (0, u "java/lang/Math"), (1, .class_ 6), (1, u "java/lang/Object"), (0, u "<init>"), (0, u "()V"), (89, .class_ 100), (1, u "java/lang/Math$RandomNumberGeneratorHolder"), (71, u "negativeZeroFloatBits"), (0, u "J"), (2, u "negativeZeroDoubleBits"), (24, u "min"), (43, u "$assertionsDisabled"), (0, u "Z"), (88, u "(II)I"), (2, u "twoToTheDoubleScaleDown"), (0, u "D"), (4, u "twoToTheDoubleScaleUp"), (9, u "E"), (3, u "PI"), (2, u "TAU"), (2, u "DEGREES_TO_RADIANS"), (0, u "RADIANS_TO_DEGREES")] 94

def k26m0 : Method := { name := "<init>", desc := "()V", sig := { parameters := [], returnType := none }, accessFlags := 2, code := none }
def k26c1 : Code := { maxStack := 2, maxLocals := 2, code := jdk_29_method_69_code, exceptionTable := #[], attributes := #[] }
def k26m1 : Method := { name := "min", desc := "(II)I", sig := { parameters := [.int, .int], returnType := some .int }, accessFlags := 9, code := some k26c1 }
/-- java/lang/Math -/
def k26 : Class := { plain "java/lang/Math" (some 0) with
  accessFlags := 49
  interfaces := #[]
  cf := some (fileOf pool26 1 #[.nestMembers #[98]] #[{ accessFlags := 2, nameIndex := 7, descriptorIndex := 8, attributes := #[] }, { accessFlags := 9, nameIndex := 201, descriptorIndex := 335, attributes := #[] }] 49 4 #[] #[{ accessFlags := 25, nameIndex := 354, descriptorIndex := 339, attributes := #[] }, { accessFlags := 25, nameIndex := 358, descriptorIndex := 339, attributes := #[] }, { accessFlags := 25, nameIndex := 361, descriptorIndex := 339, attributes := #[] }, { accessFlags := 26, nameIndex := 364, descriptorIndex := 339, attributes := #[] }, { accessFlags := 26, nameIndex := 365, descriptorIndex := 339, attributes := #[] }, { accessFlags := 26, nameIndex := 172, descriptorIndex := 173, attributes := #[] }, { accessFlags := 26, nameIndex := 176, descriptorIndex := 173, attributes := #[] }, { accessFlags := 8, nameIndex := 344, descriptorIndex := 339, attributes := #[] }, { accessFlags := 8, nameIndex := 338, descriptorIndex := 339, attributes := #[] }, { accessFlags := 4120, nameIndex := 245, descriptorIndex := 246, attributes := #[] }])
  fields := #[{ name := "E", type := .double, accessFlags := 25, slot := 0, constantValue := 0 }, { name := "PI", type := .double, accessFlags := 25, slot := 1, constantValue := 0 }, { name := "TAU", type := .double, accessFlags := 25, slot := 2, constantValue := 0 }, { name := "DEGREES_TO_RADIANS", type := .double, accessFlags := 26, slot := 3, constantValue := 0 }, { name := "RADIANS_TO_DEGREES", type := .double, accessFlags := 26, slot := 4, constantValue := 0 }, { name := "negativeZeroFloatBits", type := .long, accessFlags := 26, slot := 5, constantValue := 0 }, { name := "negativeZeroDoubleBits", type := .long, accessFlags := 26, slot := 6, constantValue := 0 }, { name := "twoToTheDoubleScaleUp", type := .double, accessFlags := 8, slot := 7, constantValue := 0 }, { name := "twoToTheDoubleScaleDown", type := .double, accessFlags := 8, slot := 8, constantValue := 0 }, { name := "$assertionsDisabled", type := .boolean, accessFlags := 4120, slot := 9, constantValue := 0 }]
  methods := #[k26m0, k26m1]
  instanceTypes := #[]
  staticTypes := #[.double, .double, .double, .double, .double, .long, .long, .double, .double, .boolean]
  resolved := Array.replicate 460 none
  statics := none }

def pool27 : Array CpInfo := pool [(2, .class_ 4), (1, u "java/lang/Object"), (0, u "<init>"), (0, u "()V"), (1, .class_ 10), (1, u "java/lang/System"), (0, u "allowSecurityManager"), (0, u "I"), (16, u "cons"), (0, u "Ljava/io/Console;"), (77, .class_ 110), (1, u "java/lang/System$CallersHolder"), (43, u "initialErrStream"), (0, u "Ljava/io/PrintStream;"), (19, u "security"), (0, u "Ljava/lang/SecurityManager;"), (31, .class_ 209), (0, u "java/lang/System$1"), (7, u "props"), (0, u "Ljava/util/Properties;"), (2, u "lineSeparator"), (0, u "Ljava/lang/String;"), (96, .class_ 321), (1, u "java/lang/System$LoggerFinder"), (5, .class_ 328), (0, u "java/lang/System$Logger"), (67, u "err"), (2, u "out"), (91, u "notSupportedJnuEncoding"), (15, u "in"), (17, u "initialIn"), (0, u "Ljava/io/InputStream;"), (35, u "bootLayer"), (0, u "Ljava/lang/ModuleLayer;"), (99, .class_ 664), (0, u "java/lang/System$2"), (9, u "NEVER"), (2, u "MAYBE"), (49, u "arraycopy"), (0, u "(Ljava/lang/Object;ILjava/lang/Object;II)V"), (72, .class_ 802), (0, u "java/lang/System$Logger$Level")] 31

def k27m0 : Method := { name := "<init>", desc := "()V", sig := { parameters := [], returnType := none }, accessFlags := 2, code := none }
def k27m1 : Method := { name := "arraycopy", desc := "(Ljava/lang/Object;ILjava/lang/Object;II)V", sig := { parameters := [(.object "java/lang/Object"), .int, (.object "java/lang/Object"), .int, .int], returnType := none }, accessFlags := 265, code := none }
/-- java/lang/System -/
def k27 : Class := { plain "java/lang/System" (some 0) with
  accessFlags := 49
  interfaces := #[]
  cf := some (fileOf pool27 8 #[.nestMembers #[319, 327, 801, 108, 663, 208]] #[{ accessFlags := 2, nameIndex := 5, descriptorIndex := 6, attributes := #[] }, { accessFlags := 265, nameIndex := 727, descriptorIndex := 728, attributes := #[] }] 49 2 #[] #[{ accessFlags := 25, nameIndex := 507, descriptorIndex := 526, attributes := #[] }, { accessFlags := 25, nameIndex := 399, descriptorIndex := 155, attributes := #[] }, { accessFlags := 25, nameIndex := 396, descriptorIndex := 155, attributes := #[] }, { accessFlags := 10, nameIndex := 525, descriptorIndex := 526, attributes := #[] }, { accessFlags := 26, nameIndex := 674, descriptorIndex := 12, attributes := #[] }, { accessFlags := 26, nameIndex := 677, descriptorIndex := 12, attributes := #[] }, { accessFlags := 10, nameIndex := 11, descriptorIndex := 12, attributes := #[] }, { accessFlags := 74, nameIndex := 175, descriptorIndex := 176, attributes := #[] }, { accessFlags := 10, nameIndex := 491, descriptorIndex := 222, attributes := #[] }, { accessFlags := 74, nameIndex := 29, descriptorIndex := 30, attributes := #[] }, { accessFlags := 74, nameIndex := 154, descriptorIndex := 155, attributes := #[] }, { accessFlags := 10, nameIndex := 217, descriptorIndex := 218, attributes := #[] }, { accessFlags := 10, nameIndex := 221, descriptorIndex := 222, attributes := #[] }, { accessFlags := 8, nameIndex := 562, descriptorIndex := 563, attributes := #[] }])
  fields := #[{ name := "in", type := (.object "java/io/InputStream"), accessFlags := 25, slot := 0, constantValue := 0 }, { name := "out", type := (.object "java/io/PrintStream"), accessFlags := 25, slot := 1, constantValue := 0 }, { name := "err", type := (.object "java/io/PrintStream"), accessFlags := 25, slot := 2, constantValue := 0 }, { name := "initialIn", type := (.object "java/io/InputStream"), accessFlags := 10, slot := 3, constantValue := 0 }, { name := "NEVER", type := .int, accessFlags := 26, slot := 4, constantValue := 0 }, { name := "MAYBE", type := .int, accessFlags := 26, slot := 5, constantValue := 0 }, { name := "allowSecurityManager", type := .int, accessFlags := 10, slot := 6, constantValue := 0 }, { name := "security", type := (.object "java/lang/SecurityManager"), accessFlags := 74, slot := 7, constantValue := 0 }, { name := "notSupportedJnuEncoding", type := (.object "java/lang/String"), accessFlags := 10, slot := 8, constantValue := 0 }, { name := "cons", type := (.object "java/io/Console"), accessFlags := 74, slot := 9, constantValue := 0 }, { name := "initialErrStream", type := (.object "java/io/PrintStream"), accessFlags := 74, slot := 10, constantValue := 0 }, { name := "props", type := (.object "java/util/Properties"), accessFlags := 10, slot := 11, constantValue := 0 }, { name := "lineSeparator", type := (.object "java/lang/String"), accessFlags := 10, slot := 12, constantValue := 0 }, { name := "bootLayer", type := (.object "java/lang/ModuleLayer"), accessFlags := 8, slot := 13, constantValue := 0 }]
  methods := #[k27m0, k27m1]
  instanceTypes := #[]
  staticTypes := #[(.object "java/io/InputStream"), (.object "java/io/PrintStream"), (.object "java/io/PrintStream"), (.object "java/io/InputStream"), .int, .int, .int, (.object "java/lang/SecurityManager"), (.object "java/lang/String"), (.object "java/io/Console"), (.object "java/io/PrintStream"), (.object "java/util/Properties"), (.object "java/lang/String"), (.object "java/lang/ModuleLayer")]
  resolved := Array.replicate 834 none
  statics := none }

def pool28 : Array CpInfo := pool [(2, .class_ 4), (1, u "java/lang/Object"), (0, u "<init>"), (0, u "()V"), (0, .class_ 8), (0, u "com/example/concordant/concordant/rules/SchemaPairs"), (4, u "recurrencesLeft"), (0, u "J"), (35, u "()Z"), (4, .class_ 56), (0, u "java/lang/String"), (4, .class_ 62), (0, u "com/example/concordant/concordant/rules/SchemaPairs$Visit"), (13, .class_ 78), (1, u "com/example/concordant/concordant/rules/SchemaPairs$SchemaPair"), (40, u "(Ljava/lang/String;Ljava/lang/String;)Ljava/lang/String;"), (18, .class_ 139), (0, u "com/example/concordant/concordant/rules/SchemaPairs$Reached"), (14, .nameAndType 155 50), (0, u "isEmpty"), (8, .class_ 166), (1, u "com/example/concordant/concordant/rules/SchemaPairs$Node"), (37, .class_ 205), (0, u "com/example/concordant/concordant/rules/SchemaPairs$Step"), (24, .class_ 232), (1, u "com/example/concordant/concordant/rules/SchemaPairs$Way"), (92, .methodref 55 154), (5, u "MAX_RECURRENCES"), (20, u "location")] 51

def k28m0 : Method := { name := "<init>", desc := "()V", sig := { parameters := [], returnType := none }, accessFlags := 0, code := none }
def k28c1 : Code := { maxStack := 2, maxLocals := 2, code := prog_29_method_10_code, exceptionTable := #[], attributes := #[] }
def k28m1 : Method := { name := "location", desc := "(Ljava/lang/String;Ljava/lang/String;)Ljava/lang/String;", sig := { parameters := [(.object "java/lang/String"), (.object "java/lang/String")], returnType := some (.object "java/lang/String") }, accessFlags := 10, code := some k28c1 }
/-- com/example/concordant/concordant/rules/SchemaPairs -/
def k28 : Class := { plain "com/example/concordant/concordant/rules/SchemaPairs" (some 0) with
  accessFlags := 48
  interfaces := #[]
  cf := some (fileOf pool28 7 #[.nestMembers #[138, 164, 204, 61, 76, 230]] #[{ accessFlags := 0, nameIndex := 5, descriptorIndex := 6, attributes := #[] }, { accessFlags := 10, nameIndex := 352, descriptorIndex := 119, attributes := #[] }] 48 2 #[] #[{ accessFlags := 24, nameIndex := 331, descriptorIndex := 14, attributes := #[] }, { accessFlags := 2, nameIndex := 13, descriptorIndex := 14, attributes := #[] }])
  fields := #[{ name := "MAX_RECURRENCES", type := .long, accessFlags := 24, slot := 0, constantValue := 0 }, { name := "recurrencesLeft", type := .long, accessFlags := 2, slot := 0, constantValue := 0 }]
  methods := #[k28m0, k28m1]
  instanceTypes := #[.long]
  staticTypes := #[.long]
  resolved := Array.replicate 404 none
  statics := none }

def pool29 : Array CpInfo := pool [(6, .class_ 8), (1, u "java/lang/Object"), (0, u "<init>"), (0, u "()V"), (1, .class_ 14), (1, u "java/lang/StringUTF16"), (31, u "$assertionsDisabled"), (0, u "Z"), (13, u "HI_BYTE_SHIFT"), (0, u "I"), (2, u "LO_BYTE_SHIFT"), (49, .methodref 12 116), (0, .nameAndType 117 118), (0, u "compress"), (0, u "([CI[BII)I"), (3, u "([CII)[B"), (138, u "coderFromArrayLen"), (0, u "([BI)B"), (106, .class_ 371), (1, u "java/lang/StringUTF16$LinesSpliterator"), (58, u "MAX_LENGTH"), (196, .class_ 628), (0, u "java/lang/StringUTF16$CodePointsSpliterator"), (0, .class_ 630), (0, u "java/lang/StringUTF16$CharsSpliterator")] 4

def k29m0 : Method := { name := "<init>", desc := "()V", sig := { parameters := [], returnType := none }, accessFlags := 0, code := none }
def k29c1 : Code := { maxStack := 2, maxLocals := 2, code := jdk_52_method_15_code, exceptionTable := #[], attributes := #[] }
def k29m1 : Method := { name := "coderFromArrayLen", desc := "([BI)B", sig := { parameters := [(.array .byte), .int], returnType := some .byte }, accessFlags := 8, code := some k29c1 }
def k29c2 : Code := { maxStack := 5, maxLocals := 6, code := jdk_52_method_16_code, exceptionTable := #[], attributes := #[] }
def k29m2 : Method := { name := "compress", desc := "([CII)[B", sig := { parameters := [(.array .char), .int, .int], returnType := some (.array .byte) }, accessFlags := 9, code := some k29c2 }
def k29c3 : Code := { maxStack := 3, maxLocals := 7, code := jdk_52_method_21_code, exceptionTable := #[], attributes := #[] }
def k29m3 : Method := { name := "compress", desc := "([CI[BII)I", sig := { parameters := [(.array .char), .int, (.array .byte), .int, .int], returnType := some .int }, accessFlags := 9, code := some k29c3 }
/-- java/lang/StringUTF16 -/
def k29 : Class := { plain "java/lang/StringUTF16" (some 0) with
  accessFlags := 48
  interfaces := #[]
  cf := some (fileOf pool29 12 #[.nestMembers #[627, 629, 369]] #[{ accessFlags := 0, nameIndex := 9, descriptorIndex := 10, attributes := #[] }, { accessFlags := 8, nameIndex := 261, descriptorIndex := 262, attributes := #[] }, { accessFlags := 9, nameIndex := 117, descriptorIndex := 122, attributes := #[] }, { accessFlags := 9, nameIndex := 117, descriptorIndex := 118, attributes := #[] }] 48 6 #[] #[{ accessFlags := 26, nameIndex := 61, descriptorIndex := 62, attributes := #[] }, { accessFlags := 26, nameIndex := 65, descriptorIndex := 62, attributes := #[] }, { accessFlags := 24, nameIndex := 430, descriptorIndex := 62, attributes := #[] }, { accessFlags := 4120, nameIndex := 46, descriptorIndex := 47, attributes := #[] }])
  fields := #[{ name := "HI_BYTE_SHIFT", type := .int, accessFlags := 26, slot := 0, constantValue := 0 }, { name := "LO_BYTE_SHIFT", type := .int, accessFlags := 26, slot := 1, constantValue := 0 }, { name := "MAX_LENGTH", type := .int, accessFlags := 24, slot := 2, constantValue := 0 }, { name := "$assertionsDisabled", type := .boolean, accessFlags := 4120, slot := 3, constantValue := 0 }]
  methods := #[k29m0, k29m1, k29m2, k29m3]
  instanceTypes := #[]
  staticTypes := #[.int, .int, .int, .boolean]
  resolved := Array.replicate 635 none
  statics := none }

def pool30 : Array CpInfo := pool [(4, .class_ 6), (1, u "java/lang/Object"), (0, u "<init>"), (0, u "()V"), (5, .class_ 16), (1, u "java/lang/StringLatin1"), (104, u "$assertionsDisabled"), (0, u "Z"), (98, .class_ 223), (1, u "java/lang/StringLatin1$LinesSpliterator"), (166, .class_ 391), (0, u "java/lang/StringLatin1$CharsSpliterator")] 3

def k30m0 : Method := { name := "<init>", desc := "()V", sig := { parameters := [], returnType := none }, accessFlags := 0, code := none }
/-- java/lang/StringLatin1 -/
def k30 : Class := { plain "java/lang/StringLatin1" (some 0) with
  accessFlags := 48
  interfaces := #[]
  cf := some (fileOf pool30 14 #[.nestMembers #[390, 221]] #[{ accessFlags := 0, nameIndex := 7, descriptorIndex := 8, attributes := #[] }] 48 4 #[] #[{ accessFlags := 4120, nameIndex := 121, descriptorIndex := 122, attributes := #[] }])
  fields := #[{ name := "$assertionsDisabled", type := .boolean, accessFlags := 4120, slot := 0, constantValue := 0 }]
  methods := #[k30m0]
  instanceTypes := #[]
  staticTypes := #[.boolean]
  resolved := Array.replicate 395 none
  statics := none }

def pool31 : Array CpInfo := pool [(2, .class_ 4), (1, u "java/lang/Object"), (0, u "<init>"), (0, u "()V"), (17, .class_ 26), (1, u "jdk/internal/util/Preconditions"), (28, .class_ 56), (0, u "jdk/internal/util/Preconditions$4"), (57, .class_ 115), (0, u "jdk/internal/util/Preconditions$1"), (7, u "SIOOBE_FORMATTER"), (0, u "Ljava/util/function/BiFunction;"), (0, .class_ 126), (0, u "jdk/internal/util/Preconditions$2"), (3, u "AIOOBE_FORMATTER"), (0, .class_ 132), (0, u "jdk/internal/util/Preconditions$3"), (3, u "IOOBE_FORMATTER")] 57

def k31m0 : Method := { name := "<init>", desc := "()V", sig := { parameters := [], returnType := none }, accessFlags := 1, code := none }
/-- jdk/internal/util/Preconditions -/
def k31 : Class := { plain "jdk/internal/util/Preconditions" (some 0) with
  accessFlags := 33
  interfaces := #[]
  cf := some (fileOf pool31 24 #[.nestMembers #[55, 131, 125, 114]] #[{ accessFlags := 1, nameIndex := 5, descriptorIndex := 6, attributes := #[] }] 33 2 #[] #[{ accessFlags := 25, nameIndex := 123, descriptorIndex := 124, attributes := #[] }, { accessFlags := 25, nameIndex := 130, descriptorIndex := 124, attributes := #[] }, { accessFlags := 25, nameIndex := 136, descriptorIndex := 124, attributes := #[] }])
  fields := #[{ name := "SIOOBE_FORMATTER", type := (.object "java/util/function/BiFunction"), accessFlags := 25, slot := 0, constantValue := 0 }, { name := "AIOOBE_FORMATTER", type := (.object "java/util/function/BiFunction"), accessFlags := 25, slot := 1, constantValue := 0 }, { name := "IOOBE_FORMATTER", type := (.object "java/util/function/BiFunction"), accessFlags := 25, slot := 2, constantValue := 0 }]
  methods := #[k31m0]
  instanceTypes := #[]
  staticTypes := #[(.object "java/util/function/BiFunction"), (.object "java/util/function/BiFunction"), (.object "java/util/function/BiFunction")]
  resolved := Array.replicate 194 none
  statics := some 3 }

def pool32 : Array CpInfo := pool [(9, u "<init>"), (6, .class_ 18), (1, u "java/lang/Object"), (0, u "()V"), (1, .class_ 23), (1, u "jdk/internal/util/ArraysSupport"), (0, u "LOG2_ARRAY_LONG_INDEX_SCALE"), (0, u "I"), (2, u "U"), (0, u "Ljdk/internal/misc/Unsafe;"), (8, u "BIG_ENDIAN"), (0, u "Z"), (8, u "LOG2_BYTE_BIT_SIZE"), (4, u "LOG2_ARRAY_INT_INDEX_SCALE"), (54, u "JLA"), (0, u "Ljdk/internal/access/JavaLangAccess;"), (11, u "LOG2_ARRAY_BOOLEAN_INDEX_SCALE"), (9, u "LOG2_ARRAY_BYTE_INDEX_SCALE"), (5, u "LOG2_ARRAY_CHAR_INDEX_SCALE"), (5, u "LOG2_ARRAY_SHORT_INDEX_SCALE"), (18, u "LOG2_ARRAY_FLOAT_INDEX_SCALE"), (24, u "LOG2_ARRAY_DOUBLE_INDEX_SCALE"), (89, u "T_BOOLEAN"), (2, u "T_CHAR"), (1, u "T_FLOAT"), (1, u "T_DOUBLE"), (1, u "T_BYTE"), (1, u "T_SHORT"), (1, u "T_INT"), (1, u "T_LONG"), (1, u "SOFT_MAX_ARRAY_LENGTH")] 83

def k32m0 : Method := { name := "<init>", desc := "()V", sig := { parameters := [], returnType := none }, accessFlags := 2, code := none }
/-- jdk/internal/util/ArraysSupport -/
def k32 : Class := { plain "jdk/internal/util/ArraysSupport" (some 0) with
  accessFlags := 33
  interfaces := #[]
  cf := some (fileOf pool32 21 #[] #[{ accessFlags := 2, nameIndex := 9, descriptorIndex := 19, attributes := #[] }] 33 16 #[] #[{ accessFlags := 24, nameIndex := 28, descriptorIndex := 29, attributes := #[] }, { accessFlags := 26, nameIndex := 38, descriptorIndex := 39, attributes := #[] }, { accessFlags := 25, nameIndex := 121, descriptorIndex := 25, attributes := #[] }, { accessFlags := 25, nameIndex := 131, descriptorIndex := 25, attributes := #[] }, { accessFlags := 25, nameIndex := 137, descriptorIndex := 25, attributes := #[] }, { accessFlags := 25, nameIndex := 143, descriptorIndex := 25, attributes := #[] }, { accessFlags := 25, nameIndex := 53, descriptorIndex := 25, attributes := #[] }, { accessFlags := 25, nameIndex := 24, descriptorIndex := 25, attributes := #[] }, { accessFlags := 25, nameIndex := 162, descriptorIndex := 25, attributes := #[] }, { accessFlags := 25, nameIndex := 187, descriptorIndex := 25, attributes := #[] }, { accessFlags := 26, nameIndex := 48, descriptorIndex := 25, attributes := #[] }, { accessFlags := 25, nameIndex := 277, descriptorIndex := 25, attributes := #[] }, { accessFlags := 25, nameIndex := 280, descriptorIndex := 25, attributes := #[] }, { accessFlags := 25, nameIndex := 282, descriptorIndex := 25, attributes := #[] }, { accessFlags := 25, nameIndex := 284, descriptorIndex := 25, attributes := #[] }, { accessFlags := 25, nameIndex := 286, descriptorIndex := 25, attributes := #[] }, { accessFlags := 25, nameIndex := 288, descriptorIndex := 25, attributes := #[] }, { accessFlags := 25, nameIndex := 290, descriptorIndex := 25, attributes := #[] }, { accessFlags := 25, nameIndex := 292, descriptorIndex := 25, attributes := #[] }, { accessFlags := 26, nameIndex := 108, descriptorIndex := 109, attributes := #[] }, { accessFlags := 25, nameIndex := 294, descriptorIndex := 25, attributes := #[] }])
  fields := #[{ name := "U", type := (.object "jdk/internal/misc/Unsafe"), accessFlags := 24, slot := 0, constantValue := 0 }, { name := "BIG_ENDIAN", type := .boolean, accessFlags := 26, slot := 1, constantValue := 0 }, { name := "LOG2_ARRAY_BOOLEAN_INDEX_SCALE", type := .int, accessFlags := 25, slot := 2, constantValue := 0 }, { name := "LOG2_ARRAY_BYTE_INDEX_SCALE", type := .int, accessFlags := 25, slot := 3, constantValue := 0 }, { name := "LOG2_ARRAY_CHAR_INDEX_SCALE", type := .int, accessFlags := 25, slot := 4, constantValue := 0 }, { name := "LOG2_ARRAY_SHORT_INDEX_SCALE", type := .int, accessFlags := 25, slot := 5, constantValue := 0 }, { name := "LOG2_ARRAY_INT_INDEX_SCALE", type := .int, accessFlags := 25, slot := 6, constantValue := 0 }, { name := "LOG2_ARRAY_LONG_INDEX_SCALE", type := .int, accessFlags := 25, slot := 7, constantValue := 0 }, { name := "LOG2_ARRAY_FLOAT_INDEX_SCALE", type := .int, accessFlags := 25, slot := 8, constantValue := 0 }, { name := "LOG2_ARRAY_DOUBLE_INDEX_SCALE", type := .int, accessFlags := 25, slot := 9, constantValue := 0 }, { name := "LOG2_BYTE_BIT_SIZE", type := .int, accessFlags := 26, slot := 10, constantValue := 0 }, { name := "T_BOOLEAN", type := .int, accessFlags := 25, slot := 11, constantValue := 0 }, { name := "T_CHAR", type := .int, accessFlags := 25, slot := 12, constantValue := 0 }, { name := "T_FLOAT", type := .int, accessFlags := 25, slot := 13, constantValue := 0 }, { name := "T_DOUBLE", type := .int, accessFlags := 25, slot := 14, constantValue := 0 }, { name := "T_BYTE", type := .int, accessFlags := 25, slot := 15, constantValue := 0 }, { name := "T_SHORT", type := .int, accessFlags := 25, slot := 16, constantValue := 0 }, { name := "T_INT", type := .int, accessFlags := 25, slot := 17, constantValue := 0 }, { name := "T_LONG", type := .int, accessFlags := 25, slot := 18, constantValue := 0 }, { name := "JLA", type := (.object "jdk/internal/access/JavaLangAccess"), accessFlags := 26, slot := 19, constantValue := 0 }, { name := "SOFT_MAX_ARRAY_LENGTH", type := .int, accessFlags := 25, slot := 20, constantValue := 0 }]
  methods := #[k32m0]
  instanceTypes := #[]
  staticTypes := #[(.object "jdk/internal/misc/Unsafe"), .boolean, .int, .int, .int, .int, .int, .int, .int, .int, .int, .int, .int, .int, .int, .int, .int, .int, .int, (.object "jdk/internal/access/JavaLangAccess"), .int]
  resolved := Array.replicate 378 none
  statics := none }

/-- the primitive byte -/
def k33 : Class := { plain "byte" none with kind := .primitive 'B', accessFlags := 0x411 }
/-- [B -/
def k34 : Class := { plain "[B" (some 0) with kind := .array 33 .byte, interfaces := #[17, 2], accessFlags := 1041 }

/-- the primitive char -/
def k35 : Class := { plain "char" none with kind := .primitive 'C', accessFlags := 0x411 }
/-- [C -/
def k36 : Class := { plain "[C" (some 0) with kind := .array 35 .char, interfaces := #[17, 2], accessFlags := 1041 }

/-- the primitive int -/
def k37 : Class := { plain "int" none with kind := .primitive 'I', accessFlags := 0x411 }
/-- [I -/
def k38 : Class := { plain "[I" (some 0) with kind := .array 37 .int, interfaces := #[17, 2], accessFlags := 1041 }

/-- [Ljava/lang/Object; -/
def k39 : Class := { plain "[Ljava/lang/Object;" (some 0) with kind := .array 0 (.object "java/lang/Object"), interfaces := #[17, 2], accessFlags := 1041 }

def heap : Heap := #[{ cls := 7, slots := #[.long 0, .int 1, .null, .int 0, .null, .int 0, .int 0], vm := .statics 7 },
  { cls := 8, slots := #[.ref 4], vm := .statics 8 },
  { cls := 18, slots := #[.long 0, .int 0, .ref 5, .ref 6], vm := .statics 18 },
  { cls := 31, slots := #[.null, .null, .null], vm := .statics 31 },
  { cls := 8, slots := #[.null], vm := .none },
  { cls := 39, slots := #[], vm := .none },
  { cls := 39, slots := #[], vm := .none }]
def classes : Array Class := #[k0, k1, k2, k3, k4, k5, k6, k7, k8, k9, k10, k11, k12, k13, k14, k15, k16, k17, k18, k19, k20, k21, k22, k23, k24, k25, k26, k27, k28, k29, k30, k31, k32, k33, k34, k35, k36, k37, k38, k39]
def interned : List (Array UInt16 × Addr) := []
def slotsUsed : Nat := 16
def theMethod : MethodId := ⟨1, 3⟩
def args0 : Array Value := #[.int 1, .int 65, .int 66, .int 67]
def aboutOver (below : List Frame) : State where
  vm := { classes := classes, interned := interned.toArray }
  heap := heap
  slotsUsed := slotsUsed
  threads := #[{ frames := .invoking theMethod args0 :: below }]
def below0 : List Frame := [.native { method := ⟨0, 0⟩, args := #[] }]
def about1 : State := aboutOver below0
def p0 : Program := .bare "" "" ""
def e0 : Env := launch0.env 0 0 0
theorem w_frames : about1.frames = Frame.invoking theMethod args0 :: below0 := rfl
set_option maxRecDepth 65536 in
theorem w_args : argsFit about1.vm theMethod args0 = true := by decide +kernel
set_option maxRecDepth 65536 in
theorem w_heap : heapFits about1 = true := by decide +kernel
set_option maxRecDepth 65536 in
theorem w_runnable : about1.curStatus? = some .runnable := by decide +kernel
set_option maxRecDepth 65536 in
theorem w_alone : about1.alone = true := by decide +kernel
set_option maxRecDepth 65536 in
theorem w_named : about1.methodNamed? x = some theMethod := by decide +kernel
set_option maxRecDepth 65536 in
theorem w_hears : about1.hears theMethod below0 = true := by decide +kernel
set_option maxRecDepth 65536 in
theorem w_ripe : about1.ripe theMethod args0 below0 = true := by decide +kernel
theorem w_running : about1.status = .running := rfl
set_option maxRecDepth 65536 in
theorem w_room : about1.hasRoom e0.platform room_1 = true :=
  launch0.hasRoom_least _ room_1 (by decide +kernel) (by decide +kernel) (by decide +kernel) (by decide +kernel) (by decide +kernel) (by decide +kernel)
theorem allAtoms_all (ts : List Jvm.Cond) (a : Array Jvm.Value) (st : Jvm.State) : (allAtoms ts).before a st = ts.all (fun c => c.before a st) := by
  induction ts with
  | nil => rfl
  | cons c t ih =>
    show (Jvm.Cond.and c (allAtoms t)).before a st = _
    rw [Jvm.Cond.before_and, ih, List.all_cons]
def words1 : List Jvm.Cond := Jvm.Cond.code x code maxLocals ret :: tables_1
/-- a 'code' word, met by the world's own term for the bytes: nothing is compared byte by byte -/
theorem code_word {y : MethodName} {bytes : ByteArray} {mx : Nat} {rt : Option FieldType} {a : Array Value} {s : State} {m : MethodId} {meth : Method} {c : Code} (h1 : s.methodNamed? y = some m) (h2 : s.vm.method? m = some meth) (h3 : meth.code = some c) (h4 : c.code = bytes)
    (h5 : (c.maxLocals == mx && c.exceptionTable.isEmpty && decide (c.maxStack ≤ mostOperands) && decide (meth.sig.returnType = rt) && !meth.locks && decide (parseMethodDescriptor y.desc = some meth.sig)) = true) : (Jvm.Cond.code y bytes mx rt).before a s = true := by
  simp only [Bool.and_eq_true, beq_iff_eq, Bool.not_eq_true', decide_eq_true_eq] at h5
  obtain ⟨⟨⟨⟨⟨g1, g2⟩, g3⟩, g4⟩, g5⟩, g6⟩ := h5
  simp [Cond.before, Cond.holds, Cond.value, h1, h2, h3, h4, g1, g2, g3, g4, g5, g6]
def isCode : Jvm.Cond → Bool
  | .code _ _ _ _ => true
  | _ => false
theorem all_split {L : List Jvm.Cond} {P : Jvm.Cond → Bool} (h1 : L.all (fun c => isCode c || P c) = true) (h2 : ∀ c ∈ L.filter isCode, P c = true) : L.all P = true := by
  refine List.all_eq_true.mpr fun c hc => ?_
  have h := List.all_eq_true.mp h1 c hc
  rcases Bool.eq_false_or_eq_true (isCode c) with hi | hi
  · exact h2 c (List.mem_filter.mpr ⟨hc, hi⟩)
  · simpa [hi] using h
set_option maxRecDepth 65536 in
theorem w_c0 : (Jvm.Cond.code x code maxLocals ret).before args0 about1 = true := code_word (m := ⟨1, 3⟩) (meth := k1m3) (c := k1c3) (by decide +kernel) rfl rfl rfl (by decide +kernel)
set_option maxRecDepth 65536 in
theorem w_c1 : (Jvm.Cond.code ({ cls := "com/example/concordant/concordant/rules/SchemaPairsRootPinLaw", name := "drawn", desc := "(IIII)Ljava/lang/String;" } : Jvm.MethodName) method_2_code (7 : Nat) (Option.some (Jvm.ClassFile.FieldType.object "java/lang/String"))).before args0 about1 = true := code_word (m := ⟨1, 1⟩) (meth := k1m1) (c := k1c1) (by decide +kernel) rfl rfl rfl (by decide +kernel)
set_option maxRecDepth 65536 in
theorem w_c2 : (Jvm.Cond.code ({ cls := "java/lang/String", name := "<init>", desc := "([C)V" } : Jvm.MethodName) jdk_42_method_3_code (2 : Nat) (Option.none : Option Jvm.ClassFile.FieldType)).before args0 about1 = true := code_word (m := ⟨7, 1⟩) (meth := k7m1) (c := k7c1) (by decide +kernel) rfl rfl rfl (by decide +kernel)
set_option maxRecDepth 65536 in
theorem w_c3 : (Jvm.Cond.code ({ cls := "java/lang/String", name := "<init>", desc := "([CIILjava/lang/Void;)V" } : Jvm.MethodName) jdk_42_method_149_code (6 : Nat) (Option.none : Option Jvm.ClassFile.FieldType)).before args0 about1 = true := code_word (m := ⟨7, 5⟩) (meth := k7m5) (c := k7c5) (by decide +kernel) rfl rfl rfl (by decide +kernel)
set_option maxRecDepth 65536 in
theorem w_c4 : (Jvm.Cond.code ({ cls := "java/lang/Object", name := "<init>", desc := "()V" } : Jvm.MethodName) object_method_1_code (1 : Nat) (Option.none : Option Jvm.ClassFile.FieldType)).before args0 about1 = true := code_word (m := ⟨0, 0⟩) (meth := k0m0) (c := k0c0) (by decide +kernel) rfl rfl rfl (by decide +kernel)
set_option maxRecDepth 65536 in
theorem w_c5 : (Jvm.Cond.code ({ cls := "com/example/concordant/concordant/model/Schema", name := "<init>", desc := "()V" } : Jvm.MethodName) prog_12_method_1_code (1 : Nat) (Option.none : Option Jvm.ClassFile.FieldType)).before args0 about1 = true := code_word (m := ⟨8, 0⟩) (meth := k8m0) (c := k8c0) (by decide +kernel) rfl rfl rfl (by decide +kernel)
set_option maxRecDepth 65536 in
theorem w_c6 : (Jvm.Cond.code ({ cls := "com/example/concordant/concordant/model/Schema", name := "unconstrained", desc := "()Lcom/example/concordant/concordant/model/Schema;" } : Jvm.MethodName) prog_12_method_2_code (0 : Nat) (Option.some (Jvm.ClassFile.FieldType.object "com/example/concordant/concordant/model/Schema"))).before args0 about1 = true := code_word (m := ⟨8, 1⟩) (meth := k8m1) (c := k8c1) (by decide +kernel) rfl rfl rfl (by decide +kernel)
set_option maxRecDepth 65536 in
theorem w_c7 : (Jvm.Cond.code ({ cls := "com/example/concordant/concordant/rules/SchemaPairsRootPinLaw", name := "pick", desc := "(ILcom/example/concordant/concordant/model/Schema;Lcom/example/concordant/concordant/model/Schema;Lcom/example/concordant/concordant/model/Schema;)Lcom/example/concordant/concordant/model/Schema;" } : Jvm.MethodName) method_3_code (4 : Nat) (Option.some (Jvm.ClassFile.FieldType.object "com/example/concordant/concordant/model/Schema"))).before args0 about1 = true := code_word (m := ⟨1, 2⟩) (meth := k1m2) (c := k1c2) (by decide +kernel) rfl rfl rfl (by decide +kernel)
set_option maxRecDepth 65536 in
theorem w_c8 : (Jvm.Cond.code ({ cls := "com/example/concordant/concordant/rules/SchemaPairs$SchemaPair", name := "root", desc := "(Ljava/lang/String;Lcom/example/concordant/concordant/model/Schema;Lcom/example/concordant/concordant/model/Schema;)Lcom/example/concordant/concordant/rules/SchemaPairs$SchemaPair;" } : Jvm.MethodName) prog_32_method_2_code (3 : Nat) (Option.some (Jvm.ClassFile.FieldType.object "com/example/concordant/concordant/rules/SchemaPairs$SchemaPair"))).before args0 about1 = true := code_word (m := ⟨9, 1⟩) (meth := k9m1) (c := k9c1) (by decide +kernel) rfl rfl rfl (by decide +kernel)
set_option maxRecDepth 65536 in
theorem w_c9 : (Jvm.Cond.code ({ cls := "com/example/concordant/concordant/rules/SchemaPairs$SchemaPair", name := "<init>", desc := "(Ljava/lang/String;Lcom/example/concordant/concordant/rules/SchemaPairs$SchemaPair;Lcom/example/concordant/concordant/rules/SchemaPairs$Way;Ljava/lang/String;Lcom/example/concordant/concordant/model/Schema;Lcom/example/concordant/concordant/model/Schema;)V" } : Jvm.MethodName) prog_32_method_1_code (7 : Nat) (Option.none : Option Jvm.ClassFile.FieldType)).before args0 about1 = true := code_word (m := ⟨9, 0⟩) (meth := k9m0) (c := k9c0) (by decide +kernel) rfl rfl rfl (by decide +kernel)
set_option maxRecDepth 65536 in
theorem w_c10 : (Jvm.Cond.code ({ cls := "com/example/concordant/concordant/rules/SchemaPairs$SchemaPair", name := "older", desc := "()Lcom/example/concordant/concordant/model/Schema;" } : Jvm.MethodName) prog_32_method_3_code (1 : Nat) (Option.some (Jvm.ClassFile.FieldType.object "com/example/concordant/concordant/model/Schema"))).before args0 about1 = true := code_word (m := ⟨9, 2⟩) (meth := k9m2) (c := k9c2) (by decide +kernel) rfl rfl rfl (by decide +kernel)
set_option maxRecDepth 65536 in
theorem w_c11 : (Jvm.Cond.code ({ cls := "com/example/concordant/concordant/rules/SchemaPairs$SchemaPair", name := "newer", desc := "()Lcom/example/concordant/concordant/model/Schema;" } : Jvm.MethodName) prog_32_method_4_code (1 : Nat) (Option.some (Jvm.ClassFile.FieldType.object "com/example/concordant/concordant/model/Schema"))).before args0 about1 = true := code_word (m := ⟨9, 3⟩) (meth := k9m3) (c := k9c3) (by decide +kernel) rfl rfl rfl (by decide +kernel)
set_option maxRecDepth 65536 in
theorem w_c12 : (Jvm.Cond.code ({ cls := "com/example/concordant/concordant/rules/SchemaPairs$SchemaPair", name := "subject", desc := "()Ljava/lang/String;" } : Jvm.MethodName) prog_32_method_5_code (1 : Nat) (Option.some (Jvm.ClassFile.FieldType.object "java/lang/String"))).before args0 about1 = true := code_word (m := ⟨9, 4⟩) (meth := k9m4) (c := k9c4) (by decide +kernel) rfl rfl rfl (by decide +kernel)
set_option maxRecDepth 65536 in
theorem w_c13 : (Jvm.Cond.code ({ cls := "com/example/concordant/concordant/rules/SchemaPairs$SchemaPair", name := "location", desc := "()Ljava/lang/String;" } : Jvm.MethodName) prog_32_method_7_code (5 : Nat) (Option.some (Jvm.ClassFile.FieldType.object "java/lang/String"))).before args0 about1 = true := code_word (m := ⟨9, 6⟩) (meth := k9m6) (c := k9c6) (by decide +kernel) rfl rfl rfl (by decide +kernel)
set_option maxRecDepth 65536 in
theorem w_c14 : (Jvm.Cond.code ({ cls := "java/util/ArrayList", name := "<init>", desc := "()V" } : Jvm.MethodName) jdk_38_method_2_code (1 : Nat) (Option.none : Option Jvm.ClassFile.FieldType)).before args0 about1 = true := code_word (m := ⟨18, 0⟩) (meth := k18m0) (c := k18c0) (by decide +kernel) rfl rfl rfl (by decide +kernel)
set_option maxRecDepth 65536 in
theorem w_c15 : (Jvm.Cond.code ({ cls := "java/util/AbstractList", name := "<init>", desc := "()V" } : Jvm.MethodName) jdk_39_method_1_code (1 : Nat) (Option.none : Option Jvm.ClassFile.FieldType)).before args0 about1 = true := code_word (m := ⟨15, 0⟩) (meth := k15m0) (c := k15c0) (by decide +kernel) rfl rfl rfl (by decide +kernel)
set_option maxRecDepth 65536 in
theorem w_c16 : (Jvm.Cond.code ({ cls := "java/util/AbstractCollection", name := "<init>", desc := "()V" } : Jvm.MethodName) jdk_22_method_1_code (1 : Nat) (Option.none : Option Jvm.ClassFile.FieldType)).before args0 about1 = true := code_word (m := ⟨12, 0⟩) (meth := k12m0) (c := k12c0) (by decide +kernel) rfl rfl rfl (by decide +kernel)
set_option maxRecDepth 65536 in
theorem w_c17 : (Jvm.Cond.code ({ cls := "java/util/Collections", name := "reverse", desc := "(Ljava/util/List;)V" } : Jvm.MethodName) jdk_79_method_11_code (7 : Nat) (Option.none : Option Jvm.ClassFile.FieldType)).before args0 about1 = true := code_word (m := ⟨19, 1⟩) (meth := k19m1) (c := k19c1) (by decide +kernel) rfl rfl rfl (by decide +kernel)
set_option maxRecDepth 65536 in
theorem w_c18 : (Jvm.Cond.code ({ cls := "java/util/ArrayList", name := "size", desc := "()I" } : Jvm.MethodName) jdk_38_method_8_code (1 : Nat) (Option.some Jvm.ClassFile.FieldType.int)).before args0 about1 = true := code_word (m := ⟨18, 1⟩) (meth := k18m1) (c := k18c1) (by decide +kernel) rfl rfl rfl (by decide +kernel)
set_option maxRecDepth 65536 in
theorem w_c19 : (Jvm.Cond.code ({ cls := "java/lang/StringBuilder", name := "<init>", desc := "()V" } : Jvm.MethodName) jdk_67_method_1_code (1 : Nat) (Option.none : Option Jvm.ClassFile.FieldType)).before args0 about1 = true := code_word (m := ⟨22, 0⟩) (meth := k22m0) (c := k22c0) (by decide +kernel) rfl rfl rfl (by decide +kernel)
set_option maxRecDepth 65536 in
theorem w_c20 : (Jvm.Cond.code ({ cls := "java/lang/AbstractStringBuilder", name := "<init>", desc := "(I)V" } : Jvm.MethodName) jdk_68_method_2_code (2 : Nat) (Option.none : Option Jvm.ClassFile.FieldType)).before args0 about1 = true := code_word (m := ⟨21, 1⟩) (meth := k21m1) (c := k21c1) (by decide +kernel) rfl rfl rfl (by decide +kernel)
set_option maxRecDepth 65536 in
theorem w_c21 : (Jvm.Cond.code ({ cls := "java/util/ArrayList", name := "iterator", desc := "()Ljava/util/Iterator;" } : Jvm.MethodName) jdk_38_method_55_code (1 : Nat) (Option.some (Jvm.ClassFile.FieldType.object "java/util/Iterator"))).before args0 about1 = true := code_word (m := ⟨18, 2⟩) (meth := k18m2) (c := k18c2) (by decide +kernel) rfl rfl rfl (by decide +kernel)
set_option maxRecDepth 65536 in
theorem w_c22 : (Jvm.Cond.code ({ cls := "java/util/ArrayList$Itr", name := "<init>", desc := "(Ljava/util/ArrayList;)V" } : Jvm.MethodName) jdk_49_method_1_code (2 : Nat) (Option.none : Option Jvm.ClassFile.FieldType)).before args0 about1 = true := code_word (m := ⟨24, 0⟩) (meth := k24m0) (c := k24c0) (by decide +kernel) rfl rfl rfl (by decide +kernel)
set_option maxRecDepth 65536 in
theorem w_c23 : (Jvm.Cond.code ({ cls := "java/util/ArrayList$Itr", name := "hasNext", desc := "()Z" } : Jvm.MethodName) jdk_49_method_2_code (1 : Nat) (Option.some Jvm.ClassFile.FieldType.boolean)).before args0 about1 = true := code_word (m := ⟨24, 1⟩) (meth := k24m1) (c := k24c1) (by decide +kernel) rfl rfl rfl (by decide +kernel)
set_option maxRecDepth 65536 in
theorem w_c24 : (Jvm.Cond.code ({ cls := "java/lang/StringBuilder", name := "toString", desc := "()Ljava/lang/String;" } : Jvm.MethodName) jdk_67_method_42_code (1 : Nat) (Option.some (Jvm.ClassFile.FieldType.object "java/lang/String"))).before args0 about1 = true := code_word (m := ⟨22, 1⟩) (meth := k22m1) (c := k22c1) (by decide +kernel) rfl rfl rfl (by decide +kernel)
set_option maxRecDepth 65536 in
theorem w_c25 : (Jvm.Cond.code ({ cls := "java/lang/String", name := "<init>", desc := "(Ljava/lang/StringBuilder;)V" } : Jvm.MethodName) jdk_42_method_53_code (2 : Nat) (Option.none : Option Jvm.ClassFile.FieldType)).before args0 about1 = true := code_word (m := ⟨7, 2⟩) (meth := k7m2) (c := k7c2) (by decide +kernel) rfl rfl rfl (by decide +kernel)
set_option maxRecDepth 65536 in
theorem w_c26 : (Jvm.Cond.code ({ cls := "java/lang/String", name := "<init>", desc := "(Ljava/lang/AbstractStringBuilder;Ljava/lang/Void;)V" } : Jvm.MethodName) jdk_42_method_150_code (5 : Nat) (Option.none : Option Jvm.ClassFile.FieldType)).before args0 about1 = true := code_word (m := ⟨7, 6⟩) (meth := k7m6) (c := k7c6) (by decide +kernel) rfl rfl rfl (by decide +kernel)
set_option maxRecDepth 65536 in
theorem w_c27 : (Jvm.Cond.code ({ cls := "java/lang/AbstractStringBuilder", name := "getValue", desc := "()[B" } : Jvm.MethodName) jdk_68_method_64_code (1 : Nat) (Option.some (Jvm.ClassFile.FieldType.array Jvm.ClassFile.FieldType.byte))).before args0 about1 = true := code_word (m := ⟨21, 3⟩) (meth := k21m3) (c := k21c3) (by decide +kernel) rfl rfl rfl (by decide +kernel)
set_option maxRecDepth 65536 in
theorem w_c28 : (Jvm.Cond.code ({ cls := "java/lang/StringBuilder", name := "length", desc := "()I" } : Jvm.MethodName) jdk_67_method_93_code (1 : Nat) (Option.some Jvm.ClassFile.FieldType.int)).before args0 about1 = true := code_word (m := ⟨22, 2⟩) (meth := k22m2) (c := k22c2) (by decide +kernel) rfl rfl rfl (by decide +kernel)
set_option maxRecDepth 65536 in
theorem w_c29 : (Jvm.Cond.code ({ cls := "java/lang/AbstractStringBuilder", name := "length", desc := "()I" } : Jvm.MethodName) jdk_68_method_6_code (1 : Nat) (Option.some Jvm.ClassFile.FieldType.int)).before args0 about1 = true := code_word (m := ⟨21, 2⟩) (meth := k21m2) (c := k21c2) (by decide +kernel) rfl rfl rfl (by decide +kernel)
set_option maxRecDepth 65536 in
theorem w_c30 : (Jvm.Cond.code ({ cls := "java/lang/AbstractStringBuilder", name := "isLatin1", desc := "()Z" } : Jvm.MethodName) jdk_68_method_68_code (1 : Nat) (Option.some Jvm.ClassFile.FieldType.boolean)).before args0 about1 = true := code_word (m := ⟨21, 4⟩) (meth := k21m4) (c := k21c4) (by decide +kernel) rfl rfl rfl (by decide +kernel)
set_option maxRecDepth 65536 in
theorem w_c31 : (Jvm.Cond.code ({ cls := "java/util/Arrays", name := "copyOfRange", desc := "([BII)[B" } : Jvm.MethodName) jdk_65_method_132_code (3 : Nat) (Option.some (Jvm.ClassFile.FieldType.array Jvm.ClassFile.FieldType.byte))).before args0 about1 = true := code_word (m := ⟨25, 2⟩) (meth := k25m2) (c := k25c2) (by decide +kernel) rfl rfl rfl (by decide +kernel)
set_option maxRecDepth 65536 in
theorem w_c32 : (Jvm.Cond.code ({ cls := "java/util/Arrays", name := "copyOfRangeByte", desc := "([BII)[B" } : Jvm.MethodName) jdk_65_method_133_code (5 : Nat) (Option.some (Jvm.ClassFile.FieldType.array Jvm.ClassFile.FieldType.byte))).before args0 about1 = true := code_word (m := ⟨25, 3⟩) (meth := k25m3) (c := k25c3) (by decide +kernel) rfl rfl rfl (by decide +kernel)
set_option maxRecDepth 65536 in
theorem w_c33 : (Jvm.Cond.code ({ cls := "java/util/Arrays", name := "checkLength", desc := "(II)V" } : Jvm.MethodName) jdk_65_method_131_code (2 : Nat) (Option.none : Option Jvm.ClassFile.FieldType)).before args0 about1 = true := code_word (m := ⟨25, 1⟩) (meth := k25m1) (c := k25c1) (by decide +kernel) rfl rfl rfl (by decide +kernel)
set_option maxRecDepth 65536 in
theorem w_c34 : (Jvm.Cond.code ({ cls := "java/lang/Math", name := "min", desc := "(II)I" } : Jvm.MethodName) jdk_29_method_69_code (2 : Nat) (Option.some Jvm.ClassFile.FieldType.int)).before args0 about1 = true := code_word (m := ⟨26, 1⟩) (meth := k26m1) (c := k26c1) (by decide +kernel) rfl rfl rfl (by decide +kernel)
set_option maxRecDepth 65536 in
theorem w_c35 : (Jvm.Cond.code ({ cls := "com/example/concordant/concordant/rules/SchemaPairs$SchemaPair", name := "subjectAt", desc := "(Ljava/lang/String;)Ljava/lang/String;" } : Jvm.MethodName) prog_32_method_8_code (2 : Nat) (Option.some (Jvm.ClassFile.FieldType.object "java/lang/String"))).before args0 about1 = true := code_word (m := ⟨9, 7⟩) (meth := k9m7) (c := k9c7) (by decide +kernel) rfl rfl rfl (by decide +kernel)
set_option maxRecDepth 65536 in
theorem w_c36 : (Jvm.Cond.code ({ cls := "java/lang/String", name := "isEmpty", desc := "()Z" } : Jvm.MethodName) jdk_42_method_55_code (1 : Nat) (Option.some Jvm.ClassFile.FieldType.boolean)).before args0 about1 = true := code_word (m := ⟨7, 3⟩) (meth := k7m3) (c := k7c3) (by decide +kernel) rfl rfl rfl (by decide +kernel)
set_option maxRecDepth 65536 in
theorem w_c37 : (Jvm.Cond.code ({ cls := "com/example/concordant/concordant/rules/SchemaPairs$SchemaPair", name := "subject", desc := "(Ljava/lang/String;)Ljava/lang/String;" } : Jvm.MethodName) prog_32_method_6_code (2 : Nat) (Option.some (Jvm.ClassFile.FieldType.object "java/lang/String"))).before args0 about1 = true := code_word (m := ⟨9, 5⟩) (meth := k9m5) (c := k9c5) (by decide +kernel) rfl rfl rfl (by decide +kernel)
set_option maxRecDepth 65536 in
theorem w_c38 : (Jvm.Cond.code ({ cls := "com/example/concordant/concordant/rules/SchemaPairs", name := "location", desc := "(Ljava/lang/String;Ljava/lang/String;)Ljava/lang/String;" } : Jvm.MethodName) prog_29_method_10_code (2 : Nat) (Option.some (Jvm.ClassFile.FieldType.object "java/lang/String"))).before args0 about1 = true := code_word (m := ⟨28, 1⟩) (meth := k28m1) (c := k28c1) (by decide +kernel) rfl rfl rfl (by decide +kernel)
set_option maxRecDepth 65536 in
theorem w_c39 : (Jvm.Cond.code ({ cls := "java/lang/String", name := "equals", desc := "(Ljava/lang/Object;)Z" } : Jvm.MethodName) jdk_42_method_66_code (3 : Nat) (Option.some Jvm.ClassFile.FieldType.boolean)).before args0 about1 = true := code_word (m := ⟨7, 4⟩) (meth := k7m4) (c := k7c4) (by decide +kernel) rfl rfl rfl (by decide +kernel)
set_option maxRecDepth 65536 in
theorem w_c40 : (Jvm.Cond.code ({ cls := "java/lang/StringUTF16", name := "compress", desc := "([CII)[B" } : Jvm.MethodName) jdk_52_method_16_code (6 : Nat) (Option.some (Jvm.ClassFile.FieldType.array Jvm.ClassFile.FieldType.byte))).before args0 about1 = true := code_word (m := ⟨29, 2⟩) (meth := k29m2) (c := k29c2) (by decide +kernel) rfl rfl rfl (by decide +kernel)
set_option maxRecDepth 65536 in
theorem w_c41 : (Jvm.Cond.code ({ cls := "java/lang/StringUTF16", name := "compress", desc := "([CI[BII)I" } : Jvm.MethodName) jdk_52_method_21_code (7 : Nat) (Option.some Jvm.ClassFile.FieldType.int)).before args0 about1 = true := code_word (m := ⟨29, 3⟩) (meth := k29m3) (c := k29c3) (by decide +kernel) rfl rfl rfl (by decide +kernel)
set_option maxRecDepth 65536 in
theorem w_c42 : (Jvm.Cond.code ({ cls := "java/lang/StringUTF16", name := "coderFromArrayLen", desc := "([BI)B" } : Jvm.MethodName) jdk_52_method_15_code (2 : Nat) (Option.some Jvm.ClassFile.FieldType.byte)).before args0 about1 = true := code_word (m := ⟨29, 1⟩) (meth := k29m1) (c := k29c1) (by decide +kernel) rfl rfl rfl (by decide +kernel)
def codes1 : List Jvm.Cond := [Jvm.Cond.code x code maxLocals ret, Jvm.Cond.code ({ cls := "com/example/concordant/concordant/rules/SchemaPairsRootPinLaw", name := "drawn", desc := "(IIII)Ljava/lang/String;" } : Jvm.MethodName) method_2_code (7 : Nat) (Option.some (Jvm.ClassFile.FieldType.object "java/lang/String")), Jvm.Cond.code ({ cls := "java/lang/String", name := "<init>", desc := "([C)V" } : Jvm.MethodName) jdk_42_method_3_code (2 : Nat) (Option.none : Option Jvm.ClassFile.FieldType), Jvm.Cond.code ({ cls := "java/lang/String", name := "<init>", desc := "([CIILjava/lang/Void;)V" } : Jvm.MethodName) jdk_42_method_149_code (6 : Nat) (Option.none : Option Jvm.ClassFile.FieldType), Jvm.Cond.code ({ cls := "java/lang/Object", name := "<init>", desc := "()V" } : Jvm.MethodName) object_method_1_code (1 : Nat) (Option.none : Option Jvm.ClassFile.FieldType), Jvm.Cond.code ({ cls := "com/example/concordant/concordant/model/Schema", name := "<init>", desc := "()V" } : Jvm.MethodName) prog_12_method_1_code (1 : Nat) (Option.none : Option Jvm.ClassFile.FieldType), Jvm.Cond.code ({ cls := "com/example/concordant/concordant/model/Schema", name := "unconstrained", desc := "()Lcom/example/concordant/concordant/model/Schema;" } : Jvm.MethodName) prog_12_method_2_code (0 : Nat) (Option.some (Jvm.ClassFile.FieldType.object "com/example/concordant/concordant/model/Schema")), Jvm.Cond.code ({ cls := "com/example/concordant/concordant/rules/SchemaPairsRootPinLaw", name := "pick", desc := "(ILcom/example/concordant/concordant/model/Schema;Lcom/example/concordant/concordant/model/Schema;Lcom/example/concordant/concordant/model/Schema;)Lcom/example/concordant/concordant/model/Schema;" } : Jvm.MethodName) method_3_code (4 : Nat) (Option.some (Jvm.ClassFile.FieldType.object "com/example/concordant/concordant/model/Schema")), Jvm.Cond.code ({ cls := "com/example/concordant/concordant/rules/SchemaPairs$SchemaPair", name := "root", desc := "(Ljava/lang/String;Lcom/example/concordant/concordant/model/Schema;Lcom/example/concordant/concordant/model/Schema;)Lcom/example/concordant/concordant/rules/SchemaPairs$SchemaPair;" } : Jvm.MethodName) prog_32_method_2_code (3 : Nat) (Option.some (Jvm.ClassFile.FieldType.object "com/example/concordant/concordant/rules/SchemaPairs$SchemaPair")), Jvm.Cond.code ({ cls := "com/example/concordant/concordant/rules/SchemaPairs$SchemaPair", name := "<init>", desc := "(Ljava/lang/String;Lcom/example/concordant/concordant/rules/SchemaPairs$SchemaPair;Lcom/example/concordant/concordant/rules/SchemaPairs$Way;Ljava/lang/String;Lcom/example/concordant/concordant/model/Schema;Lcom/example/concordant/concordant/model/Schema;)V" } : Jvm.MethodName) prog_32_method_1_code (7 : Nat) (Option.none : Option Jvm.ClassFile.FieldType), Jvm.Cond.code ({ cls := "com/example/concordant/concordant/rules/SchemaPairs$SchemaPair", name := "older", desc := "()Lcom/example/concordant/concordant/model/Schema;" } : Jvm.MethodName) prog_32_method_3_code (1 : Nat) (Option.some (Jvm.ClassFile.FieldType.object "com/example/concordant/concordant/model/Schema")), Jvm.Cond.code ({ cls := "com/example/concordant/concordant/rules/SchemaPairs$SchemaPair", name := "newer", desc := "()Lcom/example/concordant/concordant/model/Schema;" } : Jvm.MethodName) prog_32_method_4_code (1 : Nat) (Option.some (Jvm.ClassFile.FieldType.object "com/example/concordant/concordant/model/Schema")), Jvm.Cond.code ({ cls := "com/example/concordant/concordant/rules/SchemaPairs$SchemaPair", name := "subject", desc := "()Ljava/lang/String;" } : Jvm.MethodName) prog_32_method_5_code (1 : Nat) (Option.some (Jvm.ClassFile.FieldType.object "java/lang/String")), Jvm.Cond.code ({ cls := "com/example/concordant/concordant/rules/SchemaPairs$SchemaPair", name := "location", desc := "()Ljava/lang/String;" } : Jvm.MethodName) prog_32_method_7_code (5 : Nat) (Option.some (Jvm.ClassFile.FieldType.object "java/lang/String")), Jvm.Cond.code ({ cls := "java/util/ArrayList", name := "<init>", desc := "()V" } : Jvm.MethodName) jdk_38_method_2_code (1 : Nat) (Option.none : Option Jvm.ClassFile.FieldType), Jvm.Cond.code ({ cls := "java/util/AbstractList", name := "<init>", desc := "()V" } : Jvm.MethodName) jdk_39_method_1_code (1 : Nat) (Option.none : Option Jvm.ClassFile.FieldType), Jvm.Cond.code ({ cls := "java/util/AbstractCollection", name := "<init>", desc := "()V" } : Jvm.MethodName) jdk_22_method_1_code (1 : Nat) (Option.none : Option Jvm.ClassFile.FieldType), Jvm.Cond.code ({ cls := "java/util/Collections", name := "reverse", desc := "(Ljava/util/List;)V" } : Jvm.MethodName) jdk_79_method_11_code (7 : Nat) (Option.none : Option Jvm.ClassFile.FieldType), Jvm.Cond.code ({ cls := "java/util/ArrayList", name := "size", desc := "()I" } : Jvm.MethodName) jdk_38_method_8_code (1 : Nat) (Option.some Jvm.ClassFile.FieldType.int), Jvm.Cond.code ({ cls := "java/lang/StringBuilder", name := "<init>", desc := "()V" } : Jvm.MethodName) jdk_67_method_1_code (1 : Nat) (Option.none : Option Jvm.ClassFile.FieldType), Jvm.Cond.code ({ cls := "java/lang/AbstractStringBuilder", name := "<init>", desc := "(I)V" } : Jvm.MethodName) jdk_68_method_2_code (2 : Nat) (Option.none : Option Jvm.ClassFile.FieldType), Jvm.Cond.code ({ cls := "java/util/ArrayList", name := "iterator", desc := "()Ljava/util/Iterator;" } : Jvm.MethodName) jdk_38_method_55_code (1 : Nat) (Option.some (Jvm.ClassFile.FieldType.object "java/util/Iterator")), Jvm.Cond.code ({ cls := "java/util/ArrayList$Itr", name := "<init>", desc := "(Ljava/util/ArrayList;)V" } : Jvm.MethodName) jdk_49_method_1_code (2 : Nat) (Option.none : Option Jvm.ClassFile.FieldType), Jvm.Cond.code ({ cls := "java/util/ArrayList$Itr", name := "hasNext", desc := "()Z" } : Jvm.MethodName) jdk_49_method_2_code (1 : Nat) (Option.some Jvm.ClassFile.FieldType.boolean), Jvm.Cond.code ({ cls := "java/lang/StringBuilder", name := "toString", desc := "()Ljava/lang/String;" } : Jvm.MethodName) jdk_67_method_42_code (1 : Nat) (Option.some (Jvm.ClassFile.FieldType.object "java/lang/String")), Jvm.Cond.code ({ cls := "java/lang/String", name := "<init>", desc := "(Ljava/lang/StringBuilder;)V" } : Jvm.MethodName) jdk_42_method_53_code (2 : Nat) (Option.none : Option Jvm.ClassFile.FieldType), Jvm.Cond.code ({ cls := "java/lang/String", name := "<init>", desc := "(Ljava/lang/AbstractStringBuilder;Ljava/lang/Void;)V" } : Jvm.MethodName) jdk_42_method_150_code (5 : Nat) (Option.none : Option Jvm.ClassFile.FieldType), Jvm.Cond.code ({ cls := "java/lang/AbstractStringBuilder", name := "getValue", desc := "()[B" } : Jvm.MethodName) jdk_68_method_64_code (1 : Nat) (Option.some (Jvm.ClassFile.FieldType.array Jvm.ClassFile.FieldType.byte)), Jvm.Cond.code ({ cls := "java/lang/StringBuilder", name := "length", desc := "()I" } : Jvm.MethodName) jdk_67_method_93_code (1 : Nat) (Option.some Jvm.ClassFile.FieldType.int), Jvm.Cond.code ({ cls := "java/lang/AbstractStringBuilder", name := "length", desc := "()I" } : Jvm.MethodName) jdk_68_method_6_code (1 : Nat) (Option.some Jvm.ClassFile.FieldType.int), Jvm.Cond.code ({ cls := "java/lang/AbstractStringBuilder", name := "isLatin1", desc := "()Z" } : Jvm.MethodName) jdk_68_method_68_code (1 : Nat) (Option.some Jvm.ClassFile.FieldType.boolean), Jvm.Cond.code ({ cls := "java/util/Arrays", name := "copyOfRange", desc := "([BII)[B" } : Jvm.MethodName) jdk_65_method_132_code (3 : Nat) (Option.some (Jvm.ClassFile.FieldType.array Jvm.ClassFile.FieldType.byte)), Jvm.Cond.code ({ cls := "java/util/Arrays", name := "copyOfRangeByte", desc := "([BII)[B" } : Jvm.MethodName) jdk_65_method_133_code (5 : Nat) (Option.some (Jvm.ClassFile.FieldType.array Jvm.ClassFile.FieldType.byte)), Jvm.Cond.code ({ cls := "java/util/Arrays", name := "checkLength", desc := "(II)V" } : Jvm.MethodName) jdk_65_method_131_code (2 : Nat) (Option.none : Option Jvm.ClassFile.FieldType), Jvm.Cond.code ({ cls := "java/lang/Math", name := "min", desc := "(II)I" } : Jvm.MethodName) jdk_29_method_69_code (2 : Nat) (Option.some Jvm.ClassFile.FieldType.int), Jvm.Cond.code ({ cls := "com/example/concordant/concordant/rules/SchemaPairs$SchemaPair", name := "subjectAt", desc := "(Ljava/lang/String;)Ljava/lang/String;" } : Jvm.MethodName) prog_32_method_8_code (2 : Nat) (Option.some (Jvm.ClassFile.FieldType.object "java/lang/String")), Jvm.Cond.code ({ cls := "java/lang/String", name := "isEmpty", desc := "()Z" } : Jvm.MethodName) jdk_42_method_55_code (1 : Nat) (Option.some Jvm.ClassFile.FieldType.boolean), Jvm.Cond.code ({ cls := "com/example/concordant/concordant/rules/SchemaPairs$SchemaPair", name := "subject", desc := "(Ljava/lang/String;)Ljava/lang/String;" } : Jvm.MethodName) prog_32_method_6_code (2 : Nat) (Option.some (Jvm.ClassFile.FieldType.object "java/lang/String")), Jvm.Cond.code ({ cls := "com/example/concordant/concordant/rules/SchemaPairs", name := "location", desc := "(Ljava/lang/String;Ljava/lang/String;)Ljava/lang/String;" } : Jvm.MethodName) prog_29_method_10_code (2 : Nat) (Option.some (Jvm.ClassFile.FieldType.object "java/lang/String")), Jvm.Cond.code ({ cls := "java/lang/String", name := "equals", desc := "(Ljava/lang/Object;)Z" } : Jvm.MethodName) jdk_42_method_66_code (3 : Nat) (Option.some Jvm.ClassFile.FieldType.boolean), Jvm.Cond.code ({ cls := "java/lang/StringUTF16", name := "compress", desc := "([CII)[B" } : Jvm.MethodName) jdk_52_method_16_code (6 : Nat) (Option.some (Jvm.ClassFile.FieldType.array Jvm.ClassFile.FieldType.byte)), Jvm.Cond.code ({ cls := "java/lang/StringUTF16", name := "compress", desc := "([CI[BII)I" } : Jvm.MethodName) jdk_52_method_21_code (7 : Nat) (Option.some Jvm.ClassFile.FieldType.int), Jvm.Cond.code ({ cls := "java/lang/StringUTF16", name := "coderFromArrayLen", desc := "([BI)B" } : Jvm.MethodName) jdk_52_method_15_code (2 : Nat) (Option.some Jvm.ClassFile.FieldType.byte)]
set_option maxRecDepth 65536 in
theorem codes_eq : words1.filter isCode = codes1 := rfl
theorem w_codes : ∀ c ∈ words1.filter isCode, c.before args0 about1 = true := by
  rw [codes_eq]
  intro c hc
  simp only [codes1, List.mem_cons, List.not_mem_nil, or_false] at hc
  rcases hc with rfl | rfl | rfl | rfl | rfl | rfl | rfl | rfl | rfl | rfl | rfl | rfl | rfl | rfl | rfl | rfl | rfl | rfl | rfl | rfl | rfl | rfl | rfl | rfl | rfl | rfl | rfl | rfl | rfl | rfl | rfl | rfl | rfl | rfl | rfl | rfl | rfl | rfl | rfl | rfl | rfl | rfl | rfl
  · exact w_c0
  · exact w_c1
  · exact w_c2
  · exact w_c3
  · exact w_c4
  · exact w_c5
  · exact w_c6
  · exact w_c7
  · exact w_c8
  · exact w_c9
  · exact w_c10
  · exact w_c11
  · exact w_c12
  · exact w_c13
  · exact w_c14
  · exact w_c15
  · exact w_c16
  · exact w_c17
  · exact w_c18
  · exact w_c19
  · exact w_c20
  · exact w_c21
  · exact w_c22
  · exact w_c23
  · exact w_c24
  · exact w_c25
  · exact w_c26
  · exact w_c27
  · exact w_c28
  · exact w_c29
  · exact w_c30
  · exact w_c31
  · exact w_c32
  · exact w_c33
  · exact w_c34
  · exact w_c35
  · exact w_c36
  · exact w_c37
  · exact w_c38
  · exact w_c39
  · exact w_c40
  · exact w_c41
  · exact w_c42
set_option maxRecDepth 65536 in
theorem w_t1 : (words1.take 24).all (fun c => isCode c || c.before args0 about1) = true := by decide +kernel
set_option maxRecDepth 65536 in
theorem w_t2 : ((words1.drop 24).take 24).all (fun c => isCode c || c.before args0 about1) = true := by decide +kernel
set_option maxRecDepth 65536 in
theorem w_t3 : (((words1.drop 24).drop 24).take 24).all (fun c => isCode c || c.before args0 about1) = true := by decide +kernel
set_option maxRecDepth 65536 in
theorem w_t4 : ((((words1.drop 24).drop 24).drop 24).take 24).all (fun c => isCode c || c.before args0 about1) = true := by decide +kernel
set_option maxRecDepth 65536 in
theorem w_t5 : (((((words1.drop 24).drop 24).drop 24).drop 24).take 24).all (fun c => isCode c || c.before args0 about1) = true := by decide +kernel
set_option maxRecDepth 65536 in
theorem w_t6 : ((((((words1.drop 24).drop 24).drop 24).drop 24).drop 24).take 24).all (fun c => isCode c || c.before args0 about1) = true := by decide +kernel
set_option maxRecDepth 65536 in
theorem w_t7 : (((((((words1.drop 24).drop 24).drop 24).drop 24).drop 24).drop 24).take 24).all (fun c => isCode c || c.before args0 about1) = true := by decide +kernel
set_option maxRecDepth 65536 in
theorem w_t8 : ((((((((words1.drop 24).drop 24).drop 24).drop 24).drop 24).drop 24).drop 24).take 24).all (fun c => isCode c || c.before args0 about1) = true := by decide +kernel
set_option maxRecDepth 65536 in
theorem w_t9 : (((((((((words1.drop 24).drop 24).drop 24).drop 24).drop 24).drop 24).drop 24).drop 24).take 24).all (fun c => isCode c || c.before args0 about1) = true := by decide +kernel
set_option maxRecDepth 65536 in
theorem w_t10 : ((((((((((words1.drop 24).drop 24).drop 24).drop 24).drop 24).drop 24).drop 24).drop 24).drop 24).take 24).all (fun c => isCode c || c.before args0 about1) = true := by decide +kernel
set_option maxRecDepth 65536 in
theorem w_t11 : (((((((((((words1.drop 24).drop 24).drop 24).drop 24).drop 24).drop 24).drop 24).drop 24).drop 24).drop 24).take 24).all (fun c => isCode c || c.before args0 about1) = true := by decide +kernel
set_option maxRecDepth 65536 in
theorem w_t12 : (((((((((((words1.drop 24).drop 24).drop 24).drop 24).drop 24).drop 24).drop 24).drop 24).drop 24).drop 24).drop 24).all (fun c => isCode c || c.before args0 about1) = true := by decide +kernel
theorem w_tables : (allAtoms (Jvm.Cond.code x code maxLocals ret :: tables_1)).before args0 about1 = true := by
  rw [allAtoms_all]
  show words1.all (fun c => c.before args0 about1) = true
  refine all_split ?_ w_codes
  rw [← List.take_append_drop 24 words1, List.all_append, w_t1, ← List.take_append_drop 24 (words1.drop 24), List.all_append, w_t2, ← List.take_append_drop 24 ((words1.drop 24).drop 24), List.all_append, w_t3, ← List.take_append_drop 24 (((words1.drop 24).drop 24).drop 24), List.all_append, w_t4, ← List.take_append_drop 24 ((((words1.drop 24).drop 24).drop 24).drop 24), List.all_append, w_t5, ← List.take_append_drop 24 (((((words1.drop 24).drop 24).drop 24).drop 24).drop 24), List.all_append, w_t6, ← List.take_append_drop 24 ((((((words1.drop 24).drop 24).drop 24).drop 24).drop 24).drop 24), List.all_append, w_t7, ← List.take_append_drop 24 (((((((words1.drop 24).drop 24).drop 24).drop 24).drop 24).drop 24).drop 24), List.all_append, w_t8, ← List.take_append_drop 24 ((((((((words1.drop 24).drop 24).drop 24).drop 24).drop 24).drop 24).drop 24).drop 24), List.all_append, w_t9, ← List.take_append_drop 24 (((((((((words1.drop 24).drop 24).drop 24).drop 24).drop 24).drop 24).drop 24).drop 24).drop 24), List.all_append, w_t10, ← List.take_append_drop 24 ((((((((((words1.drop 24).drop 24).drop 24).drop 24).drop 24).drop 24).drop 24).drop 24).drop 24).drop 24), List.all_append, w_t11, w_t12]
  rfl
set_option maxRecDepth 65536 in
theorem w_rest : rest_1_c.before args0 about1 = true := by decide +kernel
set_option maxRecDepth 65536 in
theorem w_case : (Jvm.Cond.and given_1 narrow_1).before args0 about1 = true := by decide +kernel
set_option maxRecDepth 65536 in
theorem w_consts : constsHeld consts_1 about1 := Jvm.Lit.constsHeldB_iff.mp (by decide +kernel)
theorem w_applies : (headSpec (Jvm.Cond.code x code maxLocals ret :: tables_1) room_1).applies x e0.platform about1 = true :=
  (Spec.applies_iff w_frames).mpr ⟨w_running, w_runnable, w_alone, w_named, w_hears, w_ripe, w_room, w_tables⟩
theorem atStart : AtStart classFile x code maxLocals ret World_1 tables_1 room_1 Calls_1 rest_1 Pre_1 launch0 p0 e0 about1 theMethod args0 below0 :=
  ⟨lists_1, trivial, launch0.admits_env _ _ _, launch0.least_env, fairChoices_fair.cas, fairChoices_fair.clock, w_frames, w_args, w_heap, w_applies, ⟨w_consts, trivial⟩, w_rest, w_case⟩
end start1
theorem witness_1 : WitnessClaimed_1 := ⟨start1.p0, start1.e0, start1.about1, start1.theMethod, start1.args0, start1.below0, start1.atStart⟩
end Jvm.Pilot.@@N@@
