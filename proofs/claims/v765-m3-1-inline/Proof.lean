import JvmDerived
import JvmDerived.Pilot.@@N@@Statement
import JvmDerived.Pilot.@@N@@Code
set_option linter.unusedVariables false
set_option linter.unusedSimpArgs false
namespace Jvm.RoadKit
open Sem ClassFile Op Lib Jvm.Stand Jvm.Free Jvm.LawKit
section New
variable {p : Program} {l : Launch} {e : Env} {R : Room} {s : State} {m : MethodId} {args : Array Value} {below : List Frame} {meth : Method} {c : Code} {T : State} {locs : List Loc} {cells slots : Nat}
theorem retI (X : Stand p l e R s m args below meth c T locs cells slots) (hx : p.tables.exec = Jvm.exec) {pc : Nat} {Ls : Array Slot} {z : Int32} {rest : List Value} (hret : meth.sig.returnType = some .int) (hd : decode c.code pc = .ok (.ireturn, 1)) {fs : List Frame}
    (hl : ∀ (f : JFrame) (acts : List Action), f.method = m → f.locked = none → f.entered = [] → (doReturn e (T.setTop f) acts (some (.int z))).1 = T.setFrames fs) : Steps p.tables e below (T.setTop (mkF m pc Ls (.int z :: rest))) (T.setFrames fs) := by
  have hm' : T.vm.method? m = some meth := X.method'
  have hn : narrow .int (.int z) = .int z := rfl
  show Steps p.tables e below (T.setTop { method := m, pc := pc, locals := Ls, stack := _ :: rest, locked := none }) _
  jvm_step X.here [X.here.top, hx, hd, hm', hret, hn]
  first | (intro acts; rw [hl _ acts rfl rfl rfl]) | rw [hl _ _ rfl rfl rfl]
  exact Steps.refl _
/-- the return of a reference, null or not -/
theorem own_retR (X : Stand p l e R s m args below meth c T locs cells slots) (hx : p.tables.exec = Jvm.exec) {pc : Nat} {Ls : Array Slot} {w : Value} {ty : FieldType} {rest : List Value} (hret : meth.sig.returnType = some ty) (ht : ty.isReference = true) (hw : w.isRef = true) (hd : decode c.code pc = .ok (.areturn, 1)) {fs : List Frame}
    (hl : ∀ (f : JFrame) (acts : List Action), f.method = m → f.locked = none → f.entered = [] → (doReturn e (T.setTop f) acts (some w)).1 = T.setFrames fs) : Steps p.tables e below (T.setTop (mkF m pc Ls (w :: rest))) (T.setFrames fs) := by
  have hm' : T.vm.method? m = some meth := X.method'
  show Steps p.tables e below (T.setTop { method := m, pc := pc, locals := Ls, stack := _ :: rest, locked := none }) _
  rcases ref_cases hw with rfl | ⟨z, rfl⟩
  all_goals
    jvm_step X.here [X.here.top, hx, hd, hm', hret, ht, Value.isRef]
    first | (intro acts; rw [hl _ acts rfl rfl rfl]) | rw [hl _ _ rfl rfl rfl]
    exact Steps.refl _
/-- what a walk owes from a state and a frame on -/
def own_G (p : Program) (e : Env) (below : List Frame) (s : State) (C N : Nat) (Q : Option Value → Heap → List Loc → Prop) (T : State) (g : JFrame) : Prop :=
  ∃ s₂ o, Steps p.tables e below (T.setTop g) s₂ ∧ s₂.status = .running ∧ Ended s₂ below o ∧ ∃ v L, o = .returned v ∧ Q v s₂.heap L ∧ FrameEnd s o s₂ L C N
variable {C N : Nat} {Q : Option Value → Heap → List Loc → Prop} {T' : State} {g g' : JFrame} {h : Heap}
theorem own_G.step (k : ∀ t, Steps p.tables e below (T'.setTop g') t → Steps p.tables e below (T.setTop g) t) (H : own_G p e below s C N Q T' g') : own_G p e below s C N Q T g := by
  obtain ⟨s₂, o, h1, r⟩ := H
  exact ⟨s₂, o, k _ h1, r⟩
theorem own_G.sp (pc : Nat) (Ls : Array Slot) (S : List Value) (k : ∀ t, Steps p.tables e below (T.setTop (mkF m pc Ls S)) t → Steps p.tables e below (T.setTop g) t) (H : own_G p e below s C N Q T (mkF m pc Ls S)) : own_G p e below s C N Q T g := own_G.step k H
theorem own_G.sk {pc0 : Nat} {Ls : Array Slot} {S0 : List Value} (pc : Nat) (S : List Value) (k : ∀ t, Steps p.tables e below (T.setTop (mkF m pc Ls S)) t → Steps p.tables e below (T.setTop (mkF m pc0 Ls S0)) t) (H : own_G p e below s C N Q T (mkF m pc Ls S)) : own_G p e below s C N Q T (mkF m pc0 Ls S0) := own_G.step k H
theorem own_G.si {Ls : Array Slot} (pc : Nat) (S : List Value) (k : ∀ t, Steps p.tables e below (T.setTop (mkF m pc Ls S)) t → Steps p.tables e below (T.setTop g) t) (H : own_G p e below s C N Q T (mkF m pc Ls S)) : own_G p e below s C N Q T g := own_G.step k H
theorem own_G.st {pc0 : Nat} {Ls : Array Slot} {S0 : List Value} (pc : Nat) (S : List Value) (k : ∀ t, Steps p.tables e below (T'.setTop (mkF m pc Ls S)) t → Steps p.tables e below (T.setTop (mkF m pc0 Ls S0)) t) (H : own_G p e below s C N Q T' (mkF m pc Ls S)) : own_G p e below s C N Q T (mkF m pc0 Ls S0) := own_G.step k H
theorem own_G.cast (q : g = g') (H : own_G p e below s C N Q T g') : own_G p e below s C N Q T g := by
  subst q
  exact H
theorem own_G.start (q : g = g') (H : own_G p e below s C N Q T g') : ∃ s₂ o, Steps p.tables e below (T.setTop g) s₂ ∧ s₂.status = .running ∧ Ended s₂ below o ∧ ∃ v L, o = .returned v ∧ Q v s₂.heap L ∧ FrameEnd s o s₂ L C N := by
  subst q
  exact H
theorem own_ret (X : Stand p l e R s m args below meth c T locs cells slots) (eT : T.heap = h) {v : Option Value} (hv : meth.sig.returnType = none → v = none) (hlk : meth.locks = false) (hq : Q v h locs) (hc : cells ≤ C) (hn : slots ≤ N)
    (st : ∀ fs, (∀ (f : JFrame) (acts : List Action), f.method = m → f.locked = none → f.entered = [] → (doReturn e (T.setTop f) acts v).1 = T.setFrames fs) → Steps p.tables e below (T.setTop g) (T.setFrames fs)) : own_G p e below s C N Q T g := by
  obtain ⟨fs, hr, hrun, hended, hW, hsame⟩ := X.leave (v := v) hv hlk
  subst eT
  exact ⟨_, _, st fs hr, hrun, hended, _, _, rfl, hq, ⟨_, rfl⟩, hW, hsame.mono hc hn⟩
/-- the same where String constants may be made on the way -/
def own_GW (p : Program) (e : Env) (below : List Frame) (s : State) (C N : Nat) (Q : Option Value → Heap → List Loc → Prop) (T : State) (g : JFrame) : Prop :=
  ∃ s₂ o, Steps p.tables e below (T.setTop g) s₂ ∧ s₂.status = .running ∧ Ended s₂ below o ∧ ∃ v L, o = .returned v ∧ Q v s₂.heap L ∧ ReturnedEndW s o s₂ L C N
theorem own_GW.step (k : ∀ t, Steps p.tables e below (T'.setTop g') t → Steps p.tables e below (T.setTop g) t) (H : own_GW p e below s C N Q T' g') : own_GW p e below s C N Q T g := by
  obtain ⟨s₂, o, h1, r⟩ := H
  exact ⟨s₂, o, k _ h1, r⟩
theorem own_GW.sp (pc : Nat) (Ls : Array Slot) (S : List Value) (k : ∀ t, Steps p.tables e below (T.setTop (mkF m pc Ls S)) t → Steps p.tables e below (T.setTop g) t) (H : own_GW p e below s C N Q T (mkF m pc Ls S)) : own_GW p e below s C N Q T g := own_GW.step k H
theorem own_GW.sk {pc0 : Nat} {Ls : Array Slot} {S0 : List Value} (pc : Nat) (S : List Value) (k : ∀ t, Steps p.tables e below (T.setTop (mkF m pc Ls S)) t → Steps p.tables e below (T.setTop (mkF m pc0 Ls S0)) t) (H : own_GW p e below s C N Q T (mkF m pc Ls S)) : own_GW p e below s C N Q T (mkF m pc0 Ls S0) := own_GW.step k H
theorem own_GW.si {Ls : Array Slot} (pc : Nat) (S : List Value) (k : ∀ t, Steps p.tables e below (T.setTop (mkF m pc Ls S)) t → Steps p.tables e below (T.setTop g) t) (H : own_GW p e below s C N Q T (mkF m pc Ls S)) : own_GW p e below s C N Q T g := own_GW.step k H
theorem own_GW.st {pc0 : Nat} {Ls : Array Slot} {S0 : List Value} (pc : Nat) (S : List Value) (k : ∀ t, Steps p.tables e below (T'.setTop (mkF m pc Ls S)) t → Steps p.tables e below (T.setTop (mkF m pc0 Ls S0)) t) (H : own_GW p e below s C N Q T' (mkF m pc Ls S)) : own_GW p e below s C N Q T (mkF m pc0 Ls S0) := own_GW.step k H
theorem own_GW.cast (q : g = g') (H : own_GW p e below s C N Q T g') : own_GW p e below s C N Q T g := by
  subst q
  exact H
theorem own_GW.start (q : g = g') (H : own_GW p e below s C N Q T g') : ∃ s₂ o, Steps p.tables e below (T.setTop g) s₂ ∧ s₂.status = .running ∧ Ended s₂ below o ∧ ∃ v L, o = .returned v ∧ Q v s₂.heap L ∧ ReturnedEndW s o s₂ L C N := by
  subst q
  exact H
theorem own_retW {vm₁ : Vm} {k : Nat} (X : Stand p l e R (s.setVm vm₁) m args below meth c T locs cells slots) (hS : s.Since vm₁ k) (eT : T.heap = h) (hk : k ≤ h.size) {v : Option Value} (hv : meth.sig.returnType = none → v = none) (hlk : meth.locks = false) (hq : Q v h locs) (hc : cells ≤ C) (hn : slots ≤ N)
    (st : ∀ fs, (∀ (f : JFrame) (acts : List Action), f.method = m → f.locked = none → f.entered = [] → (doReturn e (T.setTop f) acts v).1 = T.setFrames fs) → Steps p.tables e below (T.setTop g) (T.setFrames fs)) : own_GW p e below s C N Q T g := by
  obtain ⟨fs, hr, hrun, hended, hW, hsame⟩ := X.leave (v := v) hv hlk
  subst eT
  obtain ⟨a, b, d⟩ := hS.ended (U := T.setFrames fs) hW hk hsame
  exact ⟨_, _, st fs hr, hrun, hended, _, _, rfl, hq, ⟨_, rfl⟩, a, b, d.mono hc hn⟩
/-- the same where the held String constants are kept too -/
def own_GH (Z : State) (EL : List (String × Nat)) (p : Program) (e : Env) (below : List Frame) (s : State) (C N : Nat) (Q : Option Value → Heap → List Loc → Prop) (T : State) (g : JFrame) : Prop :=
  ∃ s₂ o, Steps p.tables e below (T.setTop g) s₂ ∧ s₂.status = .running ∧ Ended s₂ below o ∧ ∃ v L, o = .returned v ∧ Q v s₂.heap L ∧ CHr Z EL s.vm s.heap s₂.vm s₂.heap ∧ ReturnedEndW s o s₂ L C N
section HeldEnd
variable {Z : State} {EL : List (String × Nat)}
theorem own_GH.step (k : ∀ t, Steps p.tables e below (T'.setTop g') t → Steps p.tables e below (T.setTop g) t) (H : own_GH Z EL p e below s C N Q T' g') : own_GH Z EL p e below s C N Q T g := by
  obtain ⟨s₂, o, h1, r⟩ := H
  exact ⟨s₂, o, k _ h1, r⟩
theorem own_GH.sp (pc : Nat) (Ls : Array Slot) (S : List Value) (k : ∀ t, Steps p.tables e below (T.setTop (mkF m pc Ls S)) t → Steps p.tables e below (T.setTop g) t) (H : own_GH Z EL p e below s C N Q T (mkF m pc Ls S)) : own_GH Z EL p e below s C N Q T g := own_GH.step k H
theorem own_GH.sk {pc0 : Nat} {Ls : Array Slot} {S0 : List Value} (pc : Nat) (S : List Value) (k : ∀ t, Steps p.tables e below (T.setTop (mkF m pc Ls S)) t → Steps p.tables e below (T.setTop (mkF m pc0 Ls S0)) t) (H : own_GH Z EL p e below s C N Q T (mkF m pc Ls S)) : own_GH Z EL p e below s C N Q T (mkF m pc0 Ls S0) := own_GH.step k H
theorem own_GH.si {Ls : Array Slot} (pc : Nat) (S : List Value) (k : ∀ t, Steps p.tables e below (T.setTop (mkF m pc Ls S)) t → Steps p.tables e below (T.setTop g) t) (H : own_GH Z EL p e below s C N Q T (mkF m pc Ls S)) : own_GH Z EL p e below s C N Q T g := own_GH.step k H
theorem own_GH.st {pc0 : Nat} {Ls : Array Slot} {S0 : List Value} (pc : Nat) (S : List Value) (k : ∀ t, Steps p.tables e below (T'.setTop (mkF m pc Ls S)) t → Steps p.tables e below (T.setTop (mkF m pc0 Ls S0)) t) (H : own_GH Z EL p e below s C N Q T' (mkF m pc Ls S)) : own_GH Z EL p e below s C N Q T (mkF m pc0 Ls S0) := own_GH.step k H
theorem own_GH.cast (q : g = g') (H : own_GH Z EL p e below s C N Q T g') : own_GH Z EL p e below s C N Q T g := by
  subst q
  exact H
theorem own_GH.start (q : g = g') (H : own_GH Z EL p e below s C N Q T g') : ∃ s₂ o, Steps p.tables e below (T.setTop g) s₂ ∧ s₂.status = .running ∧ Ended s₂ below o ∧ ∃ v L, o = .returned v ∧ Q v s₂.heap L ∧ CHr Z EL s.vm s.heap s₂.vm s₂.heap ∧ ReturnedEndW s o s₂ L C N := by
  subst q
  exact H
theorem own_retH {vm₁ : Vm} {k : Nat} {h0 : Heap} {a0 : Array Value} (X : Stand p l e R (s.setVm vm₁) m args below meth c T locs cells slots) (hS : s.Since vm₁ k) (eT : T.heap = h) (hk : k ≤ h.size) (hZ : Z.Warmed39 vm₁) (ew : EW Z a0 EL) (hH : CHv Z EL vm₁ h) (hh : s.heap = h0) (hR : CHr Z EL s.vm h0 vm₁ h) {v : Option Value} (hv : meth.sig.returnType = none → v = none) (hlk : meth.locks = false) (hq : Q v h locs) (hc : cells ≤ C) (hn : slots ≤ N)
    (st : ∀ fs, (∀ (f : JFrame) (acts : List Action), f.method = m → f.locked = none → f.entered = [] → (doReturn e (T.setTop f) acts v).1 = T.setFrames fs) → Steps p.tables e below (T.setTop g) (T.setFrames fs)) : own_GH Z EL p e below s C N Q T g := by
  obtain ⟨fs, hr, hrun, hended, hW, hsame⟩ := X.leave (v := v) hv hlk
  subst eT
  subst hh
  have q := CHv.at X hZ ew hH
  obtain ⟨a, b, d⟩ := hS.ended (U := T.setFrames fs) hW hk hsame
  exact ⟨_, _, st fs hr, hrun, hended, _, _, rfl, hq, (show CHr Z EL s.vm s.heap (T.setFrames fs).vm (T.setFrames fs).heap from hR.trans q), ⟨_, rfl⟩, a, b, d.mono hc hn⟩
end HeldEnd
/-- an array of that length -/
def own_Len (Z : State) (h : Heap) (a : Addr) (n : Int32) : Prop := ∃ (c : Cell) (ty : FieldType), Arr Z h a c ty ∧ c.slots.size = n.toNatClampNeg ∧ ¬ n < 0
theorem own_Len.lt {Z : State} {a : Addr} {n : Int32} (F : own_Len Z h a n) : a < h.size := by
  obtain ⟨c, ty, A, -⟩ := F
  exact A.lt
theorem own_Len.ext {Z : State} {h' : Heap} {a : Addr} {n : Int32} (F : own_Len Z h a n) (E : Ext h h') : own_Len Z h' a n := by
  obtain ⟨c, ty, A, r⟩ := F
  exact ⟨c, ty, A.ext E, r⟩
theorem own_Len.other {Z : State} {h' : Heap} {a b : Addr} {n : Int32} {sl : Nat} {v : Value} (F : own_Len Z h b n) (W : Wr h h' a sl v) (q : b ≠ a) : own_Len Z h' b n := by
  obtain ⟨c, ty, A, r⟩ := F
  exact ⟨c, ty, A.other W q, r⟩
theorem own_Len.keep {Z : State} {h' : Heap} {a : Addr} {n : Int32} {ws : List Addr} (F : own_Len Z h a n) (K : Keep h h' ws) (q : a ∉ ws) : own_Len Z h' a n := by
  obtain ⟨c, ty, A, r⟩ := F
  exact ⟨c, ty, ⟨K.2.1 _ _ A.1 q, A.2⟩, r⟩
theorem own_Len.arv {Z : State} {a : Addr} {k : ClassId} {ty : FieldType} {n : Int32} {vs : List Value} {d : Value} (F : Arv Z h a k ty n vs d) : own_Len Z h a n := by
  obtain ⟨c, A, -, S, N, -⟩ := F
  exact ⟨c, ty, A, S, N⟩
theorem own_Len.start {Z : State} {a : Addr} {c : Cell} {ty : FieldType} {z : Int32} (A : Arr Z h a c ty) (q : c.slots.size < 2 ^ 31) (e : c.slots.size.toInt32 = z) (hz : ¬ z < 0) : own_Len Z h a z :=
  ⟨c, ty, A, by rw [← e]; simp only [Int32.toNatClampNeg, len_toInt q]; rfl, hz⟩
theorem own_join {α : Sort _} {P : α → Prop} {G : JFrame → Prop} {g : JFrame} (F : α → JFrame) (h1 : ∀ t, P t → G (F t)) (h2 : (∀ t, P t → G (F t)) → G g) : G g := h2 h1
/-- a byte of a byte[] -/
def own_At (Z : State) (h : Heap) (a : Addr) (i b : Int32) : Prop := ∃ c : Cell, Arr Z h a c .byte ∧ ¬ (i < 0 ∨ c.slots.size ≤ i.toNatClampNeg) ∧ c.slots[i.toNatClampNeg]? = some (.int b)
theorem own_At.arv {Z : State} {a : Addr} {k : ClassId} {n i b : Int32} {vs : List Value} {d : Value} (F : Arv Z h a k .byte n vs d) (h1 : ¬ i < 0 ∧ i < n) (h2 : vs.getD i.toNatClampNeg d = .int b) : own_At Z h a i b := by
  obtain ⟨c, A, -, S, N, H, -⟩ := F
  exact ⟨c, A, inb_of S h1, H.at (inb_of S h1) h2⟩
theorem own_cat {v : Value} (hv : v.isRef = true) : v.category = 1 := by rcases ref_cases hv with rfl | ⟨z, rfl⟩ <;> rfl
theorem own_fits {v : Value} {ty : FieldType} (hv : v.isRef = true) (ht : ty.isReference = true) : fits ty v = true := by
  rcases ref_cases hv with rfl | ⟨z, rfl⟩ <;> cases ty <;> first | rfl | (cases ht; done) | simp [fits]
theorem own_narrow {v : Value} {ty : FieldType} (hv : v.isRef = true) (ht : ty.isReference = true) : narrow ty v = v := by
  rcases ref_cases hv with rfl | ⟨z, rfl⟩ <;> cases ty <;> first | rfl | (cases ht; done)
theorem Old.le {Z : State} {n0 : Nat} (X : Old Z n0 h) : n0 ≤ h.size := X.1 ▸ X.2.1
end New
end Jvm.RoadKit
/- laws to paste: Road.backV (cut by pick.py; bodies as the Statement names them) -/
namespace Jvm.Pilot.@@N@@
namespace StrChars
open Jvm Sem ClassFile Op Lib Jvm.Stand Jvm.Free.XT Jvm.Free.ALB Jvm.Free.JM Jvm.Free
open Jvm.Lib.Cold (StaticIs)
/-- a char array whose places are chars -/
def Ch (a : Addr) (A : Cell) (U : State) : Prop := Arr .char a A U ∧ Typed .char A
theorem Ch.mv {a : Addr} {A : Cell} {U U' : State} (h : Ch a A U) (hal : U.vm.Alike U'.vm) (hh : U'.heap = U.heap) : Ch a A U' := ⟨h.1.mv hal hh, h.2⟩
theorem Ch.keep {a : Addr} {A : Cell} {U U' : State} (h : Ch a A U) (hal : U.vm.Alike U'.vm) (hk : U'.heap[a]? = some A) : Ch a A U' := ⟨h.1.keep hal hk, h.2⟩
/-- what place i of a char[]'s cell holds -/
def cv (A : Cell) (i : Nat) : Int32 := match A.slots[i]? with | some (.int x) => x | _ => 0
theorem Ch.get {a : Addr} {A : Cell} {U : State} (h : Ch a A U) {i : Nat} (hi : i < A.slots.size) : A.slots[i]? = some (.int (cv A i)) := by
  have e := Array.getElem?_eq_getElem hi
  have f := h.2 i _ e
  unfold cv; rw [e]
  generalize A.slots[i] = v at f
  cases v <;> simp [fits] at f ⊢
/-- the byte that i2b leaves of a char -/
def lo8 (x : Int32) : Int32 := x.toInt8.toInt32
theorem fits_lo8 (y : Int32) : fits .byte (.int (lo8 y)) = true := by
  have h1 := y.toInt8.le_toInt
  have h2 := y.toInt8.toInt_lt
  simp only [lo8, fits, Bool.and_eq_true, decide_eq_true_eq, Int32.le_iff_toInt_le, Int8.toInt_toInt32, show (-128 : Int32).toInt = -128 from by decide, show (127 : Int32).toInt = 127 from by decide]
  omega
/-- A' is A but that each place j of lo .. hi - 1 holds f j -/
def Laid (A A' : Cell) (lo hi : Nat) (f : Nat → Value) : Prop := A'.cls = A.cls ∧ A'.vm = A.vm ∧ A'.slots.size = A.slots.size ∧ ∀ i, A'.slots[i]? = if lo ≤ i ∧ i < hi then some (f i) else A.slots[i]?
theorem Laid.zero (A : Cell) (lo : Nat) (f : Nat → Value) : Laid A A lo (lo + 0) f := ⟨rfl, rfl, rfl, fun i => by rw [if_neg (by omega)]⟩
theorem Laid.step {A Ak : Cell} {lo k : Nat} {f : Nat → Value} {v : Value} (h : Laid A Ak lo k f) (hlo : lo ≤ k) (hk : k < Ak.slots.size) (hv : v = f k) : Laid A (Ak.setSlot k v) lo (k + 1) f := by
  refine ⟨h.1, h.2.1, by simpa [Cell.setSlot] using h.2.2.1, fun i => ?_⟩
  by_cases e : k = i
  · subst e; rw [Cell.slots_setSlot_self v hk, if_pos (by omega), hv]
  · rw [Cell.slots_setSlot_ne v e, h.2.2.2 i]
    by_cases q : lo ≤ i ∧ i < k
    · rw [if_pos q, if_pos (by omega)]
    · rw [if_neg q, if_neg (by omega)]
def U16 : String := "java/lang/StringUTF16"
namespace Cmp5
def yN : MethodName := ⟨"java/lang/StringUTF16", "compress", "([CI[BII)I"⟩
abbrev yB : ByteArray := jdk_52_method_21_code
theorem d0 : decode yB 0 = .ok (.iconst 0, 1) := by decide +kernel
theorem d1 : decode yB 1 = .ok (.istore 5, 2) := by decide +kernel
theorem d3 : decode yB 3 = .ok (.iload 5, 2) := by decide +kernel
theorem d5 : decode yB 5 = .ok (.iload 4, 2) := by decide +kernel
theorem d7 : decode yB 7 = .ok (.if_icmp (.ge) 37, 3) := by decide +kernel
theorem d10 : decode yB 10 = .ok (.aload_n 0, 1) := by decide +kernel
theorem d11 : decode yB 11 = .ok (.iload_n 1, 1) := by decide +kernel
theorem d12 : decode yB 12 = .ok (.caload, 1) := by decide +kernel
theorem d13 : decode yB 13 = .ok (.istore 6, 2) := by decide +kernel
theorem d15 : decode yB 15 = .ok (.iload 6, 2) := by decide +kernel
theorem d17 : decode yB 17 = .ok (.sipush 255, 3) := by decide +kernel
theorem d20 : decode yB 20 = .ok (.if_icmp (.le) 6, 3) := by decide +kernel
theorem d26 : decode yB 26 = .ok (.aload_n 2, 1) := by decide +kernel
theorem d27 : decode yB 27 = .ok (.iload_n 3, 1) := by decide +kernel
theorem d28 : decode yB 28 = .ok (.iload 6, 2) := by decide +kernel
theorem d30 : decode yB 30 = .ok (.i2b, 1) := by decide +kernel
theorem d31 : decode yB 31 = .ok (.bastore, 1) := by decide +kernel
theorem d32 : decode yB 32 = .ok (.iinc 1 1, 3) := by decide +kernel
theorem d35 : decode yB 35 = .ok (.iinc 3 1, 3) := by decide +kernel
theorem d38 : decode yB 38 = .ok (.iinc 5 1, 3) := by decide +kernel
theorem d41 : decode yB 41 = .ok (.goto (-38), 3) := by decide +kernel
theorem d44 : decode yB 44 = .ok (.iload 4, 2) := by decide +kernel
theorem d46 : decode yB 46 = .ok (.ireturn, 1) := by decide +kernel
def site : List Cond := []
def tab : Cond := tabOf yN yB 7 (some .int) site
def P (b : Addr) (A : Cell) (d : Addr) (B : Cell) (o q len : Nat) (args : Array Value) (s : State) : Prop := args = #[.ref b, .int (Int32.ofNat o), .ref d, .int (Int32.ofNat q), .int (Int32.ofNat len)] ∧ Ch b A s ∧ Arr .byte d B s ∧ b ≠ d ∧ o + len ≤ A.slots.size ∧ q + len ≤ B.slots.size ∧ ∀ i, i < len → ¬ 255 < cv A (o + i)
def E (b : Addr) (A : Cell) (d : Addr) (B : Cell) (o q len : Nat) (r : Option Value) (s u : State) : Prop := r = some (.int (Int32.ofNat len)) ∧ ∃ B', Put d B' s u ∧ Laid B B' q (q + len) (fun j => Value.int (lo8 (cv A (o + (j - q)))))
/-- no char of the range above 255: len; the places written hold each char's low byte -/
theorem law (l : Launch) (b : Addr) (A : Cell) (d : Addr) (B : Cell) (o q len : Nat) : Law l yN 5 5 0 0 yB 7 (some .int) site (P b A d B o q len) (E b A d B o q len) (copyLocs d q len) 0 0 := by
  refine Law.of_walk (plainFor_of_name (by decide +kernel)) (by decide +kernel) (by decide +kernel) (by decide) (fun _ _ h => by rw [h.1]; rfl) (fun _ U U' hal hh h => ⟨h.1, h.2.1.mv hal hh, h.2.2.1.mv hal hh, h.2.2.2⟩) (fun r U U' V V' h1 hal h2 h => ⟨h.1, h.2.elim fun B' q => ⟨B', q.1.mv h1 h2, q.2⟩⟩) ?_
  intro p e s m args below meth c s₁ X0 hexec hbytes hml hret hlk hnm hown hh0 W hP
  obtain ⟨rfl, hA, hB, hne, l1, l2, hp⟩ := hP
  have c1 : Steps p.tables e below (s₁.setTop (entryFrame m #[.ref b, .int (Int32.ofNat o), .ref d, .int (Int32.ofNat q), .int (Int32.ofNat len)] 7)) (s₁.setTop (mkF m 0 #[.val (.ref b), .val (.int (Int32.ofNat o)), .val (.ref d), .val (.int (Int32.ofNat q)), .val (.int (Int32.ofNat len)), .unset, .unset] [])) := entry rfl
  have hA0 := hA.1.mv X0.warmed.alike hh0
  have hB0 := hB.mv X0.warmed.alike hh0
  have a31 := hA.1.2.2.2
  have c2 : Steps p.tables e below (s₁.setTop (entryFrame m #[.ref b, .int (Int32.ofNat o), .ref d, .int (Int32.ofNat q), .int (Int32.ofNat len)] 7)) (s₁.setTop (mkF m 3 #[.val (.ref b), .val (.int (Int32.ofNat o)), .val (.ref d), .val (.int (Int32.ofNat q)), .val (.int (Int32.ofNat len)), .val (.int 0), .unset] [])) := c1.trans (by
    refine iconstV X0.here hexec rfl 0 (hb hbytes d0) (by decide) ?_
    refine XS.istore X0.here hexec rfl (hb hbytes d1) rfl rfl ?_
    exact Steps.refl _)
  have loop : ∀ (r i : Nat), i + r = len → ∀ (z : Slot), (z = .unset ∨ ∃ w, z = .val w ∧ w.category = 1) → ∀ (Tl : State) (Bk : Cell), Stand p l e { frames := 0, locals := 0, cells := 0, slots := 0 } s m #[.ref b, .int (Int32.ofNat o), .ref d, .int (Int32.ofNat q), .int (Int32.ofNat len)] below meth c Tl ([] ++ copyLocs d q i) 0 0 → Put d Bk s₁ Tl → Laid B Bk q (q + i) (fun j => Value.int (lo8 (cv A (o + (j - q))))) →
      Steps p.tables e below (s₁.setTop (entryFrame m #[.ref b, .int (Int32.ofNat o), .ref d, .int (Int32.ofNat q), .int (Int32.ofNat len)] 7)) (Tl.setTop (mkF m 3 #[.val (.ref b), .val (.int (Int32.ofNat (o + i))), .val (.ref d), .val (.int (Int32.ofNat (q + i))), .val (.int (Int32.ofNat len)), .val (.int (Int32.ofNat i)), z] [])) → ∃ (T' : State) (B' : Cell) (z' : Slot), Stand p l e { frames := 0, locals := 0, cells := 0, slots := 0 } s m #[.ref b, .int (Int32.ofNat o), .ref d, .int (Int32.ofNat q), .int (Int32.ofNat len)] below meth c T' ([] ++ copyLocs d q len) 0 0 ∧ Put d B' s₁ T' ∧ Laid B B' q (q + len) (fun j => Value.int (lo8 (cv A (o + (j - q))))) ∧
      Steps p.tables e below (s₁.setTop (entryFrame m #[.ref b, .int (Int32.ofNat o), .ref d, .int (Int32.ofNat q), .int (Int32.ofNat len)] 7)) (T'.setTop (mkF m 3 #[.val (.ref b), .val (.int (Int32.ofNat (o + len))), .val (.ref d), .val (.int (Int32.ofNat (q + len))), .val (.int (Int32.ofNat len)), .val (.int (Int32.ofNat len)), z'] [])) := by
    intro r
    induction r with
    | zero =>
      intro i hi z hz Tl Bk Xl pl fl cl
      have hil : i = len := by omega
      rw [hil] at Xl fl cl
      exact ⟨Tl, Bk, z, Xl, pl, fl, cl⟩
    | succ r ih =>
      intro i hi z hz Tl Bk Xl pl fl cl
      have all := X0.warmed.alike.symm.trans Xl.warmed.alike
      have hAl := hA0.keep all (pl.other hne hA0.1)
      have hBk := hB0.like all pl.1 fl.1 fl.2.1 fl.2.2.1
      have hlt : q + i < Bk.slots.size := by rw [fl.2.2.1]; omega
      have c3 : Steps p.tables e below (s₁.setTop (entryFrame m #[.ref b, .int (Int32.ofNat o), .ref d, .int (Int32.ofNat q), .int (Int32.ofNat len)] 7)) (Tl.setTop (mkF m 12 #[.val (.ref b), .val (.int (Int32.ofNat (o + i))), .val (.ref d), .val (.int (Int32.ofNat (q + i))), .val (.int (Int32.ofNat len)), .val (.int (Int32.ofNat i)), z] [.int (Int32.ofNat (o + i)), .ref b])) := cl.trans (by
        refine XS.iload Xl.here hexec rfl (hb hbytes d3) rfl ?_
        refine XS.iload Xl.here hexec rfl (hb hbytes d5) rfl ?_
        refine XS.icmpNo Xl.here hexec rfl (hb hbytes d7) rfl (ii_ge_f (lt32 (by omega) (by omega))) ?_
        refine XS.aloadN Xl.here hexec rfl (hb hbytes d10) rfl rfl ?_
        refine XS.iloadN Xl.here hexec rfl (hb hbytes d11) rfl ?_
        exact Steps.refl _)
      have c4 : Steps p.tables e below (s₁.setTop (entryFrame m #[.ref b, .int (Int32.ofNat o), .ref d, .int (Int32.ofNat q), .int (Int32.ofNat len)] 7)) (Tl.setTop (mkF m 13 #[.val (.ref b), .val (.int (Int32.ofNat (o + i))), .val (.ref d), .val (.int (Int32.ofNat (q + i))), .val (.int (Int32.ofNat len)), .val (.int (Int32.ofNat i)), z] [.int (cv A (o + i))])) := c3.trans (by
        refine Xl.aget hexec hAl rfl (hA.get (i := o + i) (by omega)) rfl rfl (hb hbytes d12) ?_
        exact Steps.refl _)
      have c5 : Steps p.tables e below (s₁.setTop (entryFrame m #[.ref b, .int (Int32.ofNat o), .ref d, .int (Int32.ofNat q), .int (Int32.ofNat len)] 7)) (Tl.setTop (mkF m 15 #[.val (.ref b), .val (.int (Int32.ofNat (o + i))), .val (.ref d), .val (.int (Int32.ofNat (q + i))), .val (.int (Int32.ofNat len)), .val (.int (Int32.ofNat i)), .val (.int (cv A (o + i)))] [])) := c4.trans (by
        refine XS.istoreS Xl.here hexec rfl (hb hbytes d13) rfl rfl hz ?_
        exact Steps.refl _)
      have c6 : Steps p.tables e below (s₁.setTop (entryFrame m #[.ref b, .int (Int32.ofNat o), .ref d, .int (Int32.ofNat q), .int (Int32.ofNat len)] 7)) (Tl.setTop (mkF m 31 #[.val (.ref b), .val (.int (Int32.ofNat (o + i))), .val (.ref d), .val (.int (Int32.ofNat (q + i))), .val (.int (Int32.ofNat len)), .val (.int (Int32.ofNat i)), .val (.int (cv A (o + i)))] [.int (lo8 (cv A (o + i))), .int (Int32.ofNat (q + i)), .ref d])) := c5.trans (by
        refine XS.iload Xl.here hexec rfl (hb hbytes d15) rfl ?_
        refine sipushV Xl.here hexec rfl 255 (hb hbytes d17) (by decide) ?_
        refine XS.icmpYes Xl.here hexec rfl (pc0 := 20) rfl (hb hbytes d20) rfl (ii_le_t (hp i (by omega))) (by decide) rfl ?_
        refine XS.aloadN Xl.here hexec rfl (hb hbytes d26) rfl rfl ?_
        refine XS.iloadN Xl.here hexec rfl (hb hbytes d27) rfl ?_
        refine XS.iload Xl.here hexec rfl (hb hbytes d28) rfl ?_
        refine i2b Xl.here hexec rfl (hb hbytes d30) rfl ?_
        exact Steps.refl _)
      obtain ⟨T7, X7, p7, st7⟩ := Xl.aput hexec hBk rfl hlt rfl (fits_lo8 (cv A (o + i))) (g := (mkF m 31 #[.val (.ref b), .val (.int (Int32.ofNat (o + i))), .val (.ref d), .val (.int (Int32.ofNat (q + i))), .val (.int (Int32.ofNat len)), .val (.int (Int32.ofNat i)), .val (.int (cv A (o + i)))] [.int (lo8 (cv A (o + i))), .int (Int32.ofNat (q + i)), .ref d])) rfl (rest := []) rfl (hb hbytes d31)
      have c8 : Steps p.tables e below (s₁.setTop (entryFrame m #[.ref b, .int (Int32.ofNat o), .ref d, .int (Int32.ofNat q), .int (Int32.ofNat len)] 7)) (T7.setTop (mkF m 32 #[.val (.ref b), .val (.int (Int32.ofNat (o + i))), .val (.ref d), .val (.int (Int32.ofNat (q + i))), .val (.int (Int32.ofNat len)), .val (.int (Int32.ofNat i)), .val (.int (cv A (o + i)))] [])) := c6.trans (st7 _ (Steps.refl _))
      have c9 : Steps p.tables e below (s₁.setTop (entryFrame m #[.ref b, .int (Int32.ofNat o), .ref d, .int (Int32.ofNat q), .int (Int32.ofNat len)] 7)) (T7.setTop (mkF m 3 #[.val (.ref b), .val (.int (Int32.ofNat (o + i) + 1)), .val (.ref d), .val (.int (Int32.ofNat (q + i) + 1)), .val (.int (Int32.ofNat len)), .val (.int (Int32.ofNat i + 1)), .val (.int (cv A (o + i)))] [])) := c8.trans (by
        refine iincV X7.here hexec rfl 1 (hb hbytes d32) (by decide) rfl rfl ?_
        refine iincV X7.here hexec rfl 1 (hb hbytes d35) (by decide) rfl rfl ?_
        refine iincV X7.here hexec rfl 1 (hb hbytes d38) (by decide) rfl rfl ?_
        refine XS.goto X7.here hexec rfl (pc0 := 41) rfl (hb hbytes d41) (by decide) rfl ?_
        exact Steps.refl _)
      have c10 : Steps p.tables e below (s₁.setTop (entryFrame m #[.ref b, .int (Int32.ofNat o), .ref d, .int (Int32.ofNat q), .int (Int32.ofNat len)] 7)) (T7.setTop (mkF m 3 #[.val (.ref b), .val (.int (Int32.ofNat (o + (i + 1)))), .val (.ref d), .val (.int (Int32.ofNat (q + (i + 1)))), .val (.int (Int32.ofNat len)), .val (.int (Int32.ofNat (i + 1))), .val (.int (cv A (o + i)))] [])) := by
        have := c9
        rw [succ32, succ32, succ32] at this
        exact this
      exact ih (i + 1) (by omega) _ (Or.inr ⟨_, rfl, rfl⟩) T7 _ (by rw [copyLocs_step, ← List.append_assoc]; exact X7) (pl.trans p7) (fl.step (by omega) hlt (by simp)) c10
  obtain ⟨T9, B9, z9, X9, p9, f9, g9⟩ := loop len 0 (by omega) .unset (Or.inl rfl) s₁ B (by simpa [copyLocs] using X0) ⟨hB0.1, fun _ _ => rfl, rfl⟩ (Laid.zero _ _ _) c2
  have c11 : Steps p.tables e below (s₁.setTop (entryFrame m #[.ref b, .int (Int32.ofNat o), .ref d, .int (Int32.ofNat q), .int (Int32.ofNat len)] 7)) (T9.setTop (mkF m 46 #[.val (.ref b), .val (.int (Int32.ofNat (o + len))), .val (.ref d), .val (.int (Int32.ofNat (q + len))), .val (.int (Int32.ofNat len)), .val (.int (Int32.ofNat len)), z9] [.int (Int32.ofNat len)])) := g9.trans (by
    refine XS.iload X9.here hexec rfl (hb hbytes d3) rfl ?_
    refine XS.iload X9.here hexec rfl (hb hbytes d5) rfl ?_
    refine XS.icmpYes X9.here hexec rfl (pc0 := 7) rfl (hb hbytes d7) rfl (ii_ge_t (nlt32 (by omega) (Nat.le_refl _))) (by decide) rfl ?_
    refine XS.iload X9.here hexec rfl (hb hbytes d44) rfl ?_
    exact Steps.refl _)
  exact ⟨T9, some (.int (Int32.ofNat len)), _, _, _, X9, by simp, rfl, rfl, (fun h => by cases h), ⟨rfl, B9, p9.from hh0, f9⟩, fun fs hl => c11.trans (X9.ireturnOut hexec hret rfl (Or.inl rfl) (hb hbytes d46) hl)⟩
end Cmp5
namespace Cmp3
def yN : MethodName := ⟨"java/lang/StringUTF16", "compress", "([CII)[B"⟩
abbrev yB : ByteArray := jdk_52_method_16_code
theorem d0 : decode yB 0 = .ok (.iload_n 2, 1) := by decide +kernel
theorem d1 : decode yB 1 = .ok (.newarray .byte, 2) := by decide +kernel
theorem d3 : decode yB 3 = .ok (.astore_n 3, 1) := by decide +kernel
theorem d4 : decode yB 4 = .ok (.aload_n 0, 1) := by decide +kernel
theorem d5 : decode yB 5 = .ok (.iload_n 1, 1) := by decide +kernel
theorem d6 : decode yB 6 = .ok (.aload_n 3, 1) := by decide +kernel
theorem d7 : decode yB 7 = .ok (.iconst 0, 1) := by decide +kernel
theorem d8 : decode yB 8 = .ok (.iload_n 2, 1) := by decide +kernel
theorem d9 : decode yB 9 = .ok (.invokestatic 115, 3) := by decide +kernel
theorem d12 : decode yB 12 = .ok (.istore 4, 2) := by decide +kernel
theorem d14 : decode yB 14 = .ok (.iload 4, 2) := by decide +kernel
theorem d16 : decode yB 16 = .ok (.iload_n 2, 1) := by decide +kernel
theorem d17 : decode yB 17 = .ok (.if_icmp (.eq) 40, 3) := by decide +kernel
theorem d57 : decode yB 57 = .ok (.aload_n 3, 1) := by decide +kernel
theorem d58 : decode yB 58 = .ok (.areturn, 1) := by decide +kernel
def site : List Cond := [.arrayClass .byte, Cmp5.tab] ++ staticW U16 115 Cmp5.yN
def tab : Cond := tabOf yN yB 6 (some (.array .byte)) site
def P (b : Addr) (A : Cell) (o len : Nat) (args : Array Value) (s : State) : Prop := args = #[.ref b, .int (Int32.ofNat o), .int (Int32.ofNat len)] ∧ Ch b A s ∧ o + len ≤ A.slots.size ∧ len ≤ 536870912 ∧ ∀ i, i < len → ¬ 255 < cv A (o + i)
def E (b : Addr) (A : Cell) (o len : Nat) (r : Option Value) (s u : State) : Prop := NewArr .byte "[B" len (fun j => .int (lo8 (cv A (o + j)))) r s u ∧ u.heap.size = s.heap.size + 1
/-- no char of the range above 255: a new byte[] of their low bytes -/
theorem law (l : Launch) (b : Addr) (A : Cell) (o len : Nat) : Law l yN 3 3 1 18 yB 6 (some (.array .byte)) site (P b A o len) (E b A o len) [] 1 len := by
  refine Law.of_walk (plainFor_of_name (by decide +kernel)) (by decide +kernel) (by decide +kernel) (by decide) (fun _ _ h => by rw [h.1]; rfl) (fun _ U U' hal hh h => ⟨h.1, h.2.1.mv hal hh, h.2.2⟩) (fun r U U' V V' h1 hal h2 h => ⟨NewArr.mv r U U' V V' h1 hal h2 h.1, by rw [h1, h2]; exact h.2⟩) ?_
  intro p e s m args below meth c s₁ X0 hexec hbytes hml hret hlk hnm hown hh0 W hP
  obtain ⟨rfl, hA, l1, l2, hp⟩ := hP
  have a31 := hA.1.2.2.2
  have c1 : Steps p.tables e below (s₁.setTop (entryFrame m #[.ref b, .int (Int32.ofNat o), .int (Int32.ofNat len)] 6)) (s₁.setTop (mkF m 0 #[.val (.ref b), .val (.int (Int32.ofNat o)), .val (.int (Int32.ofNat len)), .unset, .unset, .unset] [])) := entry rfl
  have c2 : Steps p.tables e below (s₁.setTop (entryFrame m #[.ref b, .int (Int32.ofNat o), .int (Int32.ofNat len)] 6)) (s₁.setTop (mkF m 1 #[.val (.ref b), .val (.int (Int32.ofNat o)), .val (.int (Int32.ofNat len)), .unset, .unset, .unset] [.int (Int32.ofNat len)])) := c1.trans (by
    refine XS.iloadN X0.here hexec rfl (hb hbytes d0) rfl ?_
    exact Steps.refl _)
  obtain ⟨T3, B3, X3, ba3, bs3, bv3, bh3, bf3, st3⟩ := X0.anew hexec (atype := .byte) (wk W (.arrayClass .byte)) rfl (by show len * 1 ≤ _; omega) (by omega) (g := (mkF m 1 #[.val (.ref b), .val (.int (Int32.ofNat o)), .val (.int (Int32.ofNat len)), .unset, .unset, .unset] [.int (Int32.ofNat len)])) rfl (hb hbytes d1) (rest := []) rfl (Nat.le_refl _) (by show 0 + len ≤ len; omega)
  rw [hh0] at ba3 st3
  have kp3 : XT.Kept s T3 := (XT.Kept.of_eq hh0).push bh3
  have hA3 := hA.keep X3.warmed.alike (kp3 _ _ hA.1.1)
  have hne : b ≠ s.heap.size := hA.1.ne
  have c4 : Steps p.tables e below (s₁.setTop (entryFrame m #[.ref b, .int (Int32.ofNat o), .int (Int32.ofNat len)] 6)) (T3.setTop (mkF m 3 #[.val (.ref b), .val (.int (Int32.ofNat o)), .val (.int (Int32.ofNat len)), .unset, .unset, .unset] [.ref s.heap.size])) := c2.trans (st3 _ (Steps.refl _))
  have c5 : Steps p.tables e below (s₁.setTop (entryFrame m #[.ref b, .int (Int32.ofNat o), .int (Int32.ofNat len)] 6)) (T3.setTop (mkF m 9 #[.val (.ref b), .val (.int (Int32.ofNat o)), .val (.int (Int32.ofNat len)), .val (.ref s.heap.size), .unset, .unset] [.int (Int32.ofNat len), .int 0, .ref s.heap.size, .int (Int32.ofNat o), .ref b])) := c4.trans (by
    refine XS.astoreN X3.here hexec rfl (hb hbytes d3) rfl rfl rfl ?_
    refine XS.aloadN X3.here hexec rfl (hb hbytes d4) rfl rfl ?_
    refine XS.iloadN X3.here hexec rfl (hb hbytes d5) rfl ?_
    refine XS.aloadN X3.here hexec rfl (hb hbytes d6) rfl rfl ?_
    refine iconstV X3.here hexec rfl 0 (hb hbytes d7) (by decide) ?_
    refine XS.iloadN X3.here hexec rfl (hb hbytes d8) rfl ?_
    exact Steps.refl _)
  obtain ⟨v6, T6, X6, E6, g6⟩ := X3.callS hexec (Cmp5.law l b A s.heap.size B3 o 0 len) hown (wks W (staticW U16 115 Cmp5.yN)) (wk W Cmp5.tab) (W := 0) (Nat.le_of_ble_eq_true rfl) (Nat.le_of_ble_eq_true rfl) (Nat.le_refl _) (by show 0 + len + 0 ≤ len; omega) (g := (mkF m 9 #[.val (.ref b), .val (.int (Int32.ofNat o)), .val (.int (Int32.ofNat len)), .val (.ref s.heap.size), .unset, .unset] [.int (Int32.ofNat len), .int (Int32.ofNat 0), .ref s.heap.size, .int (Int32.ofNat o), .ref b])) rfl (by rw [hml]; rfl) c5 (argsL := [.ref b, .int (Int32.ofNat o), .ref s.heap.size, .int (Int32.ofNat 0), .int (Int32.ofNat len)]) (rest := []) rfl rfl (by show 2 * 0 + 0 ≤ _; decide) (hb hbytes d9) (⟨rfl, hA3, ba3, hne, l1, by rw [bs3]; simp, hp⟩)
  obtain ⟨rfl, B6, p6, f6⟩ := E6
  have c7 : Steps p.tables e below (s₁.setTop (entryFrame m #[.ref b, .int (Int32.ofNat o), .int (Int32.ofNat len)] 6)) (T6.setTop (mkF m 12 #[.val (.ref b), .val (.int (Int32.ofNat o)), .val (.int (Int32.ofNat len)), .val (.ref s.heap.size), .unset, .unset] [.int (Int32.ofNat len)])) := g6
  have c8 : Steps p.tables e below (s₁.setTop (entryFrame m #[.ref b, .int (Int32.ofNat o), .int (Int32.ofNat len)] 6)) (T6.setTop (mkF m 58 #[.val (.ref b), .val (.int (Int32.ofNat o)), .val (.int (Int32.ofNat len)), .val (.ref s.heap.size), .val (.int (Int32.ofNat len)), .unset] [.ref s.heap.size])) := c7.trans (by
    refine XS.istore X6.here hexec rfl (hb hbytes d12) rfl rfl ?_
    refine XS.iload X6.here hexec rfl (hb hbytes d14) rfl ?_
    refine XS.iloadN X6.here hexec rfl (hb hbytes d16) rfl ?_
    refine XS.icmpYes X6.here hexec rfl (pc0 := 17) rfl (hb hbytes d17) rfl (ii_eq_t rfl) (by decide) rfl ?_
    refine XS.aloadN X6.here hexec rfl (hb hbytes d57) rfl rfl ?_
    exact Steps.refl _)
  have X8 := X6.wide (L' := []) (cells' := 1) (slots' := len) (fun x hx hlt => by
    simp only [List.nil_append, copyLocs, List.mem_map, List.mem_range] at hx
    obtain ⟨i, -, rfl⟩ := hx
    exact absurd hlt (Nat.lt_irrefl _)) (Nat.le_refl _) (by omega)
  exact ⟨T6, some (.ref s.heap.size), _, _, _, X8, rfl, rfl, rfl, (fun h => by cases h), ⟨⟨rfl, B6, ba3.like (X3.warmed.alike.symm.trans X6.warmed.alike) p6.1 f6.1 f6.2.1 f6.2.2.1, f6.2.1.trans bv3, by rw [X6.warmed.alike.findClass, f6.1]; exact bf3, by rw [f6.2.2.1, bs3]; simp, fun j hj => by rw [f6.2.2.2 j, if_pos (by omega)]; rfl, kp3.put p6 (Nat.le_refl _)⟩, by rw [p6.2.2, bh3, hh0]; simp⟩, fun fs hl => c8.trans (X8.areturnOut hexec rfl hret rfl (hb hbytes d58) hl)⟩
end Cmp3
namespace CodL
def yN : MethodName := ⟨"java/lang/StringUTF16", "coderFromArrayLen", "([BI)B"⟩
abbrev yB : ByteArray := jdk_52_method_15_code
theorem d0 : decode yB 0 = .ok (.iload_n 1, 1) := by decide +kernel
theorem d1 : decode yB 1 = .ok (.aload_n 0, 1) := by decide +kernel
theorem d2 : decode yB 2 = .ok (.arraylength, 1) := by decide +kernel
theorem d3 : decode yB 3 = .ok (.isub, 1) := by decide +kernel
theorem d4 : decode yB 4 = .ok (.bipush 31, 2) := by decide +kernel
theorem d6 : decode yB 6 = .ok (.iushr, 1) := by decide +kernel
theorem d7 : decode yB 7 = .ok (.i2b, 1) := by decide +kernel
theorem d8 : decode yB 8 = .ok (.ireturn, 1) := by decide +kernel
def site : List Cond := []
def tab : Cond := tabOf yN yB 2 (some .byte) site
def P (d : Addr) (B : Cell) (args : Array Value) (s : State) : Prop := args = #[.ref d, .int (Int32.ofNat B.slots.size)] ∧ Arr .byte d B s
def E (r : Option Value) (s u : State) : Prop := XT.PureE (some (.int 0)) r s u
/-- an array as long as the number of chars: LATIN1 -/
theorem law (l : Launch) (d : Addr) (B : Cell) : Law l yN 2 2 0 0 yB 2 (some .byte) site (P d B) E [] 0 0 := by
  refine Law.of_walk (plainFor_of_name (by decide +kernel)) (by decide +kernel) (by decide +kernel) (by decide) (fun _ _ h => by rw [h.1]; rfl) (fun _ U U' hal hh h => ⟨h.1, h.2.mv hal hh⟩) (fun r U U' V V' h1 hal h2 h => XT.PureE.mv r U U' V V' h1 hal h2 h) ?_
  intro p e s m args below meth c s₁ X0 hexec hbytes hml hret hlk hnm hown hh0 W hP
  obtain ⟨rfl, hB⟩ := hP
  have hB0 := hB.mv X0.warmed.alike hh0
  have c1 : Steps p.tables e below (s₁.setTop (entryFrame m #[.ref d, .int (Int32.ofNat B.slots.size)] 2)) (s₁.setTop (mkF m 0 #[.val (.ref d), .val (.int (Int32.ofNat B.slots.size))] [])) := entry rfl
  have c2 : Steps p.tables e below (s₁.setTop (entryFrame m #[.ref d, .int (Int32.ofNat B.slots.size)] 2)) (s₁.setTop (mkF m 2 #[.val (.ref d), .val (.int (Int32.ofNat B.slots.size))] [.ref d, .int (Int32.ofNat B.slots.size)])) := c1.trans (by
    refine XS.iloadN X0.here hexec rfl (hb hbytes d0) rfl ?_
    refine XS.aloadN X0.here hexec rfl (hb hbytes d1) rfl rfl ?_
    exact Steps.refl _)
  have c3 : Steps p.tables e below (s₁.setTop (entryFrame m #[.ref d, .int (Int32.ofNat B.slots.size)] 2)) (s₁.setTop (mkF m 8 #[.val (.ref d), .val (.int (Int32.ofNat B.slots.size))] [.int (lo8 (ushr (Int32.ofNat B.slots.size - Int32.ofNat B.slots.size) 31))])) := c2.trans (by
    refine X0.alen hexec hB0 rfl rfl (hb hbytes d2) ?_
    refine XS.isub X0.here hexec rfl (hb hbytes d3) rfl ?_
    refine bipushV X0.here hexec rfl 31 (hb hbytes d4) (by decide) ?_
    refine iushr X0.here hexec rfl (hb hbytes d6) rfl ?_
    refine i2b X0.here hexec rfl (hb hbytes d7) rfl ?_
    exact Steps.refl _)
  have e0 : lo8 (ushr (Int32.ofNat B.slots.size - Int32.ofNat B.slots.size) 31) = 0 := by rw [Int32.sub_self]; decide
  rw [e0] at c3
  exact ⟨s₁, some (.int 0), _, _, _, X0, rfl, rfl, rfl, (fun h => by cases h), ⟨rfl, hh0⟩, fun fs hl => c3.trans (X0.ireturnOut hexec hret rfl (Or.inr (Or.inr (Or.inl rfl))) (hb hbytes d8) hl)⟩
end CodL
/-- the String at a is Latin-1 over a new byte[] (the heap's one new cell): the low bytes of the len chars of A from o on; every cell but a is kept -/
def Got (a : Addr) (D : Cell) (fV fC : Field) (A : Cell) (o len : Nat) (r : Option Value) (s u : State) : Prop := r = none ∧ ∃ D' V : Cell, Blank "java/lang/String" a D' u ∧ Same D D' [fV.slot, fC.slot] ∧ D'.slots[fV.slot]? = some (.ref s.heap.size) ∧ D'.slots[fC.slot]? = some (.int 0) ∧ Arr .byte s.heap.size V u ∧ V.vm = .none ∧ u.vm.findClass "[B" = some V.cls ∧ V.slots.size = len ∧ (∀ j, j < len → V.slots[j]? = some (.int (lo8 (cv A (o + j))))) ∧ (∀ (y : Addr) (c : Cell), y ≠ a → s.heap[y]? = some c → u.heap[y]? = some c) ∧ u.heap.size = s.heap.size + 1
theorem Got.mv {a : Addr} {D A : Cell} {fV fC : Field} {o len : Nat} : ∀ r (U U' V V' : State), U'.heap = U.heap → V.vm.Alike V'.vm → V'.heap = V.heap → Got a D fV fC A o len r U V → Got a D fV fC A o len r U' V' :=
  fun r U U' V V' h1 hal h2 ⟨e0, D', X, a1, a2, a3, a4, a5, a6, a7, a8, a9, a10, a11⟩ => ⟨e0, D', X, a1.mv hal h2, a2, by rw [h1]; exact a3, a4, by rw [h1]; exact a5.mv hal h2, a6, by rw [hal.findClass]; exact a7, a8, a9, by rw [h1, h2]; exact a10, by rw [h1, h2]; exact a11⟩
namespace New4
def yN : MethodName := ⟨"java/lang/String", "<init>", "([CIILjava/lang/Void;)V"⟩
abbrev yB : ByteArray := jdk_42_method_149_code
theorem d0 : decode yB 0 = .ok (.aload_n 0, 1) := by decide +kernel
theorem d1 : decode yB 1 = .ok (.invokespecial 1, 3) := by decide +kernel
theorem d4 : decode yB 4 = .ok (.iload_n 3, 1) := by decide +kernel
theorem d5 : decode yB 5 = .ok (.ifCond (.ne) 22, 3) := by decide +kernel
theorem d27 : decode yB 27 = .ok (.getstatic 38, 3) := by decide +kernel
theorem d30 : decode yB 30 = .ok (.ifCond (.eq) 28, 3) := by decide +kernel
theorem d33 : decode yB 33 = .ok (.aload_n 1, 1) := by decide +kernel
theorem d34 : decode yB 34 = .ok (.iload_n 2, 1) := by decide +kernel
theorem d35 : decode yB 35 = .ok (.iload_n 3, 1) := by decide +kernel
theorem d36 : decode yB 36 = .ok (.invokestatic 177, 3) := by decide +kernel
theorem d39 : decode yB 39 = .ok (.astore 5, 2) := by decide +kernel
theorem d41 : decode yB 41 = .ok (.aload_n 0, 1) := by decide +kernel
theorem d42 : decode yB 42 = .ok (.aload 5, 2) := by decide +kernel
theorem d44 : decode yB 44 = .ok (.iload_n 3, 1) := by decide +kernel
theorem d45 : decode yB 45 = .ok (.invokestatic 47, 3) := by decide +kernel
theorem d48 : decode yB 48 = .ok (.putfield 15, 3) := by decide +kernel
theorem d51 : decode yB 51 = .ok (.aload_n 0, 1) := by decide +kernel
theorem d52 : decode yB 52 = .ok (.aload 5, 2) := by decide +kernel
theorem d54 : decode yB 54 = .ok (.putfield 9, 3) := by decide +kernel
theorem d57 : decode yB 57 = .ok (.return_, 1) := by decide +kernel
def site : List Cond := [.fieldLink "java/lang/String" 38 "java/lang/String" "COMPACT_STRINGS" "Z", Cmp3.tab, CodL.tab, .laysFinal "java/lang/String" "java/lang/String" "value" "[B", .fieldLink "java/lang/String" 9 "java/lang/String" "value" "[B", .laysFinal "java/lang/String" "java/lang/String" "coder" "B", .fieldLink "java/lang/String" 15 "java/lang/String" "coder" "B"] ++ objW "java/lang/String" 1 ++ staticW "java/lang/String" 177 Cmp3.yN ++ staticW "java/lang/String" 47 CodL.yN
def tab : Cond := tabOf yN yB 6 none site
def P (a : Addr) (D : Cell) (fV fC : Field) (b : Addr) (A : Cell) (z : Int32) (o len : Nat) (args : Array Value) (s : State) : Prop := args = #[.ref a, .ref b, .int (Int32.ofNat o), .int (Int32.ofNat len), .null] ∧ Blank "java/lang/String" a D s ∧ Found "java/lang/String" "value" "[B" fV s ∧ Found "java/lang/String" "coder" "B" fC s ∧ Ch b A s ∧ StaticIs s "java/lang/String" "COMPACT_STRINGS" "Z" (.int z) ∧ ¬ z = 0 ∧ 0 < len ∧ o + len ≤ A.slots.size ∧ len ≤ 536870912 ∧ ∀ i, i < len → ¬ 255 < cv A (o + i)
def E (a : Addr) (D : Cell) (fV fC : Field) (A : Cell) (o len : Nat) (r : Option Value) (s u : State) : Prop := Got a D fV fC A o len r s u
/-- len > 0, no char of the range above 255: a Latin-1 String of their low bytes -/
theorem law (l : Launch) (a : Addr) (D : Cell) (fV fC : Field) (b : Addr) (A : Cell) (z : Int32) (o len : Nat) : Law l yN 5 4 2 35 yB 6 none site (P a D fV fC b A z o len) (E a D fV fC A o len) [⟨a, fC.slot⟩, ⟨a, fV.slot⟩] 1 len := by
  refine Law.of_walk (plainFor_of_name (by decide +kernel)) (by decide +kernel) (by decide +kernel) (by decide) (fun _ _ h => by rw [h.1]; rfl) (fun _ U U' hal hh h => ⟨h.1, h.2.1.mv hal hh, h.2.2.1.al hal, h.2.2.2.1.al hal, h.2.2.2.2.1.mv hal hh, h.2.2.2.2.2.1.there hal hh, h.2.2.2.2.2.2⟩) (fun r U U' V V' h1 hal h2 h => Got.mv r U U' V V' h1 hal h2 h) ?_
  intro p e s m args below meth c s₁ X0 hexec hbytes hml hret hlk hnm hown hh0 W hP
  obtain ⟨rfl, hB, f1, f2, hA, s1, hz, l0, l1, l2, hp⟩ := hP
  have a31 := hA.1.2.2.2
  have c1 : Steps p.tables e below (s₁.setTop (entryFrame m #[.ref a, .ref b, .int (Int32.ofNat o), .int (Int32.ofNat len), .null] 6)) (s₁.setTop (mkF m 0 #[.val (.ref a), .val (.ref b), .val (.int (Int32.ofNat o)), .val (.int (Int32.ofNat len)), .val .null, .unset] [])) := entry rfl
  have c2 : Steps p.tables e below (s₁.setTop (entryFrame m #[.ref a, .ref b, .int (Int32.ofNat o), .int (Int32.ofNat len), .null] 6)) (s₁.setTop (mkF m 1 #[.val (.ref a), .val (.ref b), .val (.int (Int32.ofNat o)), .val (.int (Int32.ofNat len)), .val .null, .unset] [.ref a])) := c1.trans (by
    refine XS.aloadN X0.here hexec rfl (hb hbytes d0) rfl rfl ?_
    exact Steps.refl _)
  obtain ⟨T3, X3, q3, st3⟩ := X0.oinit hexec hown (wks W (objW "java/lang/String" 1)) (g := (mkF m 1 #[.val (.ref a), .val (.ref b), .val (.int (Int32.ofNat o)), .val (.int (Int32.ofNat len)), .val .null, .unset] [.ref a])) rfl (by rw [hml]; rfl) (rest := []) rfl (hb hbytes d1) (W := 0) (by show 2 * 0 + 0 ≤ _; decide) (Nat.le_of_ble_eq_true rfl) (Nat.le_of_ble_eq_true rfl)
  have hh3 := q3.trans hh0
  have c4 : Steps p.tables e below (s₁.setTop (entryFrame m #[.ref a, .ref b, .int (Int32.ofNat o), .int (Int32.ofNat len), .null] 6)) (T3.setTop (mkF m 27 #[.val (.ref a), .val (.ref b), .val (.int (Int32.ofNat o)), .val (.int (Int32.ofNat len)), .val .null, .unset] [])) := (c2.trans (st3 _ (Steps.refl _))).trans (by
    refine XS.iloadN X3.here hexec rfl (hb hbytes d4) rfl ?_
    refine XS.ifYes X3.here hexec rfl (pc0 := 5) rfl (hb hbytes d5) rfl (i0_ne_t (nz32 (by omega) l0)) (by decide) rfl ?_
    exact Steps.refl _)
  obtain ⟨T5, X5, q5, st5⟩ := X3.sget hexec hown (wk W (.fieldLink "java/lang/String" 38 "java/lang/String" "COMPACT_STRINGS" "Z")) s1 (fun _ _ h => by rw [hh3]; exact h) (g := (mkF m 27 #[.val (.ref a), .val (.ref b), .val (.int (Int32.ofNat o)), .val (.int (Int32.ofNat len)), .val .null, .unset] [])) rfl (hb hbytes d27)
  have hh5 := q5.trans hh3
  have c6 : Steps p.tables e below (s₁.setTop (entryFrame m #[.ref a, .ref b, .int (Int32.ofNat o), .int (Int32.ofNat len), .null] 6)) (T5.setTop (mkF m 30 #[.val (.ref a), .val (.ref b), .val (.int (Int32.ofNat o)), .val (.int (Int32.ofNat len)), .val .null, .unset] [.int z])) := c4.trans (st5 _ (Steps.refl _))
  have c7 : Steps p.tables e below (s₁.setTop (entryFrame m #[.ref a, .ref b, .int (Int32.ofNat o), .int (Int32.ofNat len), .null] 6)) (T5.setTop (mkF m 36 #[.val (.ref a), .val (.ref b), .val (.int (Int32.ofNat o)), .val (.int (Int32.ofNat len)), .val .null, .unset] [.int (Int32.ofNat len), .int (Int32.ofNat o), .ref b])) := c6.trans (by
    refine XS.ifNo X5.here hexec rfl (hb hbytes d30) rfl (i0_eq_f hz) ?_
    refine XS.aloadN X5.here hexec rfl (hb hbytes d33) rfl rfl ?_
    refine XS.iloadN X5.here hexec rfl (hb hbytes d34) rfl ?_
    refine XS.iloadN X5.here hexec rfl (hb hbytes d35) rfl ?_
    exact Steps.refl _)
  obtain ⟨v8, T8, X8, E8, g8⟩ := X5.callS hexec (Cmp3.law l b A o len) hown (wks W (staticW "java/lang/String" 177 Cmp3.yN)) (wk W Cmp3.tab) (W := 0) (Nat.le_of_ble_eq_true rfl) (Nat.le_of_ble_eq_true rfl) (Nat.le_refl _) (by show 0 + len ≤ len; omega) (g := (mkF m 36 #[.val (.ref a), .val (.ref b), .val (.int (Int32.ofNat o)), .val (.int (Int32.ofNat len)), .val .null, .unset] [.int (Int32.ofNat len), .int (Int32.ofNat o), .ref b])) rfl (by rw [hml]; rfl) c7 (argsL := [.ref b, .int (Int32.ofNat o), .int (Int32.ofNat len)]) (rest := []) rfl rfl (by show 2 * 0 + 0 ≤ _; decide) (hb hbytes d36) (⟨rfl, hA.mv X5.warmed.alike hh5, l1, l2, hp⟩)
  obtain ⟨e8, z8⟩ := E8
  obtain ⟨rfl, N, n1, n2, n3, n4, n5, n6⟩ := NewArr.mv _ T5 s _ _ hh5.symm (Vm.Alike.refl _) rfl e8
  rw [hh5] at z8
  have hB1 := hB.keep X8.warmed.alike (n6 _ _ hB.1)
  have hne : s.heap.size ≠ a := (Nat.ne_of_lt (Array.getElem?_eq_some_iff.mp hB.1).1).symm
  have c9 : Steps p.tables e below (s₁.setTop (entryFrame m #[.ref a, .ref b, .int (Int32.ofNat o), .int (Int32.ofNat len), .null] 6)) (T8.setTop (mkF m 39 #[.val (.ref a), .val (.ref b), .val (.int (Int32.ofNat o)), .val (.int (Int32.ofNat len)), .val .null, .unset] [.ref s.heap.size])) := g8
  have c10 : Steps p.tables e below (s₁.setTop (entryFrame m #[.ref a, .ref b, .int (Int32.ofNat o), .int (Int32.ofNat len), .null] 6)) (T8.setTop (mkF m 45 #[.val (.ref a), .val (.ref b), .val (.int (Int32.ofNat o)), .val (.int (Int32.ofNat len)), .val .null, .val (.ref s.heap.size)] [.int (Int32.ofNat N.slots.size), .ref s.heap.size, .ref a])) := by
    have hc : Steps p.tables e below (s₁.setTop (entryFrame m #[.ref a, .ref b, .int (Int32.ofNat o), .int (Int32.ofNat len), .null] 6)) (T8.setTop (mkF m 45 #[.val (.ref a), .val (.ref b), .val (.int (Int32.ofNat o)), .val (.int (Int32.ofNat len)), .val .null, .val (.ref s.heap.size)] [.int (Int32.ofNat len), .ref s.heap.size, .ref a])) := c9.trans (by
      refine XS.astore X8.here hexec rfl (hb hbytes d39) rfl rfl rfl ?_
      refine XS.aloadN X8.here hexec rfl (hb hbytes d41) rfl rfl ?_
      refine XS.aload X8.here hexec rfl (hb hbytes d42) rfl rfl ?_
      refine XS.iloadN X8.here hexec rfl (hb hbytes d44) rfl ?_
      exact Steps.refl _)
    rw [n4]; exact hc
  obtain ⟨v11, T11, X11, E11, g11⟩ := X8.callS hexec (CodL.law l s.heap.size N) hown (wks W (staticW "java/lang/String" 47 CodL.yN)) (wk W CodL.tab) (W := 1) (Nat.le_of_ble_eq_true rfl) (Nat.le_of_ble_eq_true rfl) (Nat.le_refl _) (by show 0 + len + 0 ≤ len; omega) (g := (mkF m 45 #[.val (.ref a), .val (.ref b), .val (.int (Int32.ofNat o)), .val (.int (Int32.ofNat len)), .val .null, .val (.ref s.heap.size)] [.int (Int32.ofNat N.slots.size), .ref s.heap.size, .ref a])) rfl (by rw [hml]; rfl) c10 (argsL := [.ref s.heap.size, .int (Int32.ofNat N.slots.size)]) (rest := [.ref a]) rfl rfl (by show 2 * 0 + (1 + 0) ≤ _; decide) (hb hbytes d45) (⟨rfl, n1⟩)
  obtain ⟨rfl, q11⟩ := E11
  have hB11 := hB1.mv (X8.warmed.alike.symm.trans X11.warmed.alike) q11
  have c12 : Steps p.tables e below (s₁.setTop (entryFrame m #[.ref a, .ref b, .int (Int32.ofNat o), .int (Int32.ofNat len), .null] 6)) (T11.setTop (mkF m 48 #[.val (.ref a), .val (.ref b), .val (.int (Int32.ofNat o)), .val (.int (Int32.ofNat len)), .val .null, .val (.ref s.heap.size)] [.int 0, .ref a])) := g11
  obtain ⟨T13, X13, p13, bl13, sl13, st13⟩ := X11.finit hexec hown (wk W (.fieldLink "java/lang/String" 15 "java/lang/String" "coder" "B")) (Or.inr ⟨_, (wk W (.laysFinal "java/lang/String" "java/lang/String" "coder" "B"))⟩) (Or.inl ⟨rfl, hnm⟩) f2 (Or.inl rfl) hB11 (t := .byte) (by decide +kernel) rfl (g := (mkF m 48 #[.val (.ref a), .val (.ref b), .val (.int (Int32.ofNat o)), .val (.int (Int32.ofNat len)), .val .null, .val (.ref s.heap.size)] [.int 0, .ref a])) rfl (rest := []) rfl (hb hbytes d48)
  have c14 : Steps p.tables e below (s₁.setTop (entryFrame m #[.ref a, .ref b, .int (Int32.ofNat o), .int (Int32.ofNat len), .null] 6)) (T13.setTop (mkF m 54 #[.val (.ref a), .val (.ref b), .val (.int (Int32.ofNat o)), .val (.int (Int32.ofNat len)), .val .null, .val (.ref s.heap.size)] [.ref s.heap.size, .ref a])) := (c12.trans (st13 _ (Steps.refl _))).trans (by
    refine XS.aloadN X13.here hexec rfl (hb hbytes d51) rfl rfl ?_
    refine XS.aload X13.here hexec rfl (hb hbytes d52) rfl rfl ?_
    exact Steps.refl _)
  obtain ⟨T15, X15, p15, bl15, sl15, st15⟩ := X13.finit hexec hown (wk W (.fieldLink "java/lang/String" 9 "java/lang/String" "value" "[B")) (Or.inr ⟨_, (wk W (.laysFinal "java/lang/String" "java/lang/String" "value" "[B"))⟩) (Or.inl ⟨rfl, hnm⟩) f1 (Or.inl rfl) bl13 (t := (.array .byte)) (by decide +kernel) rfl (g := (mkF m 54 #[.val (.ref a), .val (.ref b), .val (.int (Int32.ofNat o)), .val (.int (Int32.ofNat len)), .val .null, .val (.ref s.heap.size)] [.ref s.heap.size, .ref a])) rfl (rest := []) rfl (hb hbytes d54)
  have c16 : Steps p.tables e below (s₁.setTop (entryFrame m #[.ref a, .ref b, .int (Int32.ofNat o), .int (Int32.ofNat len), .null] 6)) (T15.setTop (mkF m 57 #[.val (.ref a), .val (.ref b), .val (.int (Int32.ofNat o)), .val (.int (Int32.ofNat len)), .val .null, .val (.ref s.heap.size)] [])) := c14.trans (st15 _ (Steps.refl _))
  have ap := apart (Or.inr ⟨_, (wk W (.laysFinal "java/lang/String" "java/lang/String" "value" "[B"))⟩) (Or.inr ⟨_, (wk W (.laysFinal "java/lang/String" "java/lang/String" "coder" "B"))⟩) f1 f2 (t₁ := .array .byte) (t₂ := .byte) (by decide +kernel) (by decide +kernel) (by decide)
  have al := X8.warmed.alike.symm.trans X15.warmed.alike
  have n7 : T11.heap[s.heap.size]? = some N := by rw [q11]; exact n1.1
  exact ⟨T15, none, _, _, _, X15, by simp, rfl, by omega, (fun _ => rfl), ⟨rfl, _, N, bl15, ((Same.refl D _).set _ (by simp)).set _ (by simp), sl15, (Cell.slots_setSlot_ne _ ap).trans sl13, n1.keep al (p15.other hne (p13.other hne n7)), n2, by rw [al.findClass]; exact n3, n4, n5, fun y c h1 h2 => p15.other h1 (p13.other h1 (by rw [q11]; exact n6 y c h2)), by rw [p15.2.2, p13.2.2, q11]; exact z8⟩, fun fs hl => c16.trans (X15.returnOut hexec hret (hb hbytes d57) hl)⟩
end New4
namespace New1
def yN : MethodName := ⟨"java/lang/String", "<init>", "([C)V"⟩
abbrev yB : ByteArray := jdk_42_method_3_code
theorem d0 : decode yB 0 = .ok (.aload_n 0, 1) := by decide +kernel
theorem d1 : decode yB 1 = .ok (.aload_n 1, 1) := by decide +kernel
theorem d2 : decode yB 2 = .ok (.iconst 0, 1) := by decide +kernel
theorem d3 : decode yB 3 = .ok (.aload_n 1, 1) := by decide +kernel
theorem d4 : decode yB 4 = .ok (.arraylength, 1) := by decide +kernel
theorem d5 : decode yB 5 = .ok (.aconst_null, 1) := by decide +kernel
theorem d6 : decode yB 6 = .ok (.invokespecial 27, 3) := by decide +kernel
theorem d9 : decode yB 9 = .ok (.return_, 1) := by decide +kernel
def site : List Cond := [New4.tab] ++ initW "java/lang/String" 27 New4.yN
def tab : Cond := tabOf yN yB 2 none site
def P (a : Addr) (D : Cell) (fV fC : Field) (b : Addr) (A : Cell) (z : Int32) (args : Array Value) (s : State) : Prop := args = #[.ref a, .ref b] ∧ Blank "java/lang/String" a D s ∧ Found "java/lang/String" "value" "[B" fV s ∧ Found "java/lang/String" "coder" "B" fC s ∧ Ch b A s ∧ StaticIs s "java/lang/String" "COMPACT_STRINGS" "Z" (.int z) ∧ ¬ z = 0 ∧ 0 < A.slots.size ∧ A.slots.size ≤ 536870912 ∧ ∀ i, i < A.slots.size → ¬ 255 < cv A i
def E (a : Addr) (D : Cell) (fV fC : Field) (A : Cell) (r : Option Value) (s u : State) : Prop := Got a D fV fC A 0 A.slots.size r s u
/-- new String(chars), not empty, no char above 255: a Latin-1 String of their low bytes -/
theorem law (l : Launch) (a : Addr) (D : Cell) (fV fC : Field) (b : Addr) (A : Cell) (z : Int32) : Law l yN 2 1 3 52 yB 2 none site (P a D fV fC b A z) (E a D fV fC A) [⟨a, fC.slot⟩, ⟨a, fV.slot⟩] 1 A.slots.size := by
  refine Law.of_walk (plainFor_of_name (by decide +kernel)) (by decide +kernel) (by decide +kernel) (by decide) (fun _ _ h => by rw [h.1]; rfl) (fun _ U U' hal hh h => ⟨h.1, h.2.1.mv hal hh, h.2.2.1.al hal, h.2.2.2.1.al hal, h.2.2.2.2.1.mv hal hh, h.2.2.2.2.2.1.there hal hh, h.2.2.2.2.2.2⟩) (fun r U U' V V' h1 hal h2 h => Got.mv r U U' V V' h1 hal h2 h) ?_
  intro p e s m args below meth c s₁ X0 hexec hbytes hml hret hlk hnm hown hh0 W hP
  obtain ⟨rfl, hB, f1, f2, hA, s1, hz, l0, l2, hp⟩ := hP
  have c1 : Steps p.tables e below (s₁.setTop (entryFrame m #[.ref a, .ref b] 2)) (s₁.setTop (mkF m 0 #[.val (.ref a), .val (.ref b)] [])) := entry rfl
  have c2 : Steps p.tables e below (s₁.setTop (entryFrame m #[.ref a, .ref b] 2)) (s₁.setTop (mkF m 6 #[.val (.ref a), .val (.ref b)] [.null, .int (Int32.ofNat A.slots.size), .int 0, .ref b, .ref a])) := c1.trans (by
    refine XS.aloadN X0.here hexec rfl (hb hbytes d0) rfl rfl ?_
    refine XS.aloadN X0.here hexec rfl (hb hbytes d1) rfl rfl ?_
    refine iconstV X0.here hexec rfl 0 (hb hbytes d2) (by decide) ?_
    refine XS.aloadN X0.here hexec rfl (hb hbytes d3) rfl rfl ?_
    refine X0.alen hexec (hA.1.mv X0.warmed.alike hh0) rfl rfl (hb hbytes d4) ?_
    refine XS.aconstNull X0.here hexec rfl (hb hbytes d5) ?_
    exact Steps.refl _)
  obtain ⟨v3, T3, X3, E3, g3⟩ := X0.callN hexec (New4.law l a D fV fC b A z 0 A.slots.size) rfl hown (wks W (initW "java/lang/String" 27 New4.yN)) (W New4.tab (by simp only [site, List.mem_cons, List.mem_append, true_or, or_true])) (W := 0) (Nat.le_of_ble_eq_true rfl) (Nat.le_of_ble_eq_true rfl) (Nat.le_refl _) (by show 0 + A.slots.size ≤ A.slots.size; omega) (g := (mkF m 6 #[.val (.ref a), .val (.ref b)] [.null, .int (Int32.ofNat A.slots.size), .int (Int32.ofNat 0), .ref b, .ref a])) rfl (by rw [hml]; rfl) c2 (argsL := [.ref b, .int (Int32.ofNat 0), .int (Int32.ofNat A.slots.size), .null]) (rest := []) rfl rfl (by show 2 * 0 + 0 ≤ _; decide) (hb hbytes d6) (⟨rfl, hB.mv X0.warmed.alike hh0, f1.al X0.warmed.alike, f2.al X0.warmed.alike, hA.mv X0.warmed.alike hh0, s1.there X0.warmed.alike hh0, hz, l0, by omega, l2, fun i hi => by rw [Nat.zero_add]; exact hp i hi⟩)
  have e0 := Got.mv _ s₁ s _ _ hh0.symm (Vm.Alike.refl _) rfl E3
  obtain rfl := e0.1
  have c4 : Steps p.tables e below (s₁.setTop (entryFrame m #[.ref a, .ref b] 2)) (T3.setTop (mkF m 9 #[.val (.ref a), .val (.ref b)] [])) := g3
  exact ⟨T3, none, _, _, _, X3, by simp, rfl, by omega, (fun _ => rfl), e0, fun fs hl => c4.trans (X3.returnOut hexec hret (hb hbytes d9) hl)⟩
theorem pays {l : Launch} {R : Room} {p : Program} {e : Env} {below : List Frame} {s : State} {sargs : Array Value} {len W : Nat} (a : Addr) (D : Cell) (fV fC : Field) (b : Addr) (A : Cell) (z : Int32) (htab : tab.before sargs s = true) (hfr : 4 ≤ R.frames) (hlo : W + 65 ≤ R.locals) :
    Back l R p e below s sargs yN len W (fun A₁ a₁ => A₁.cells + 1 ≤ R.cells ∧ A₁.slots + A.slots.size ≤ R.slots ∧ P a D fV fC b A z a₁ A₁.U) (fun A₁ _ v₁ B₁ => E a D fV fC A v₁ A₁.U B₁.U ∧ B₁.locs = A₁.locs ++ [⟨a, fC.slot⟩, ⟨a, fV.slot⟩] ∧ B₁.cells = A₁.cells + 1 ∧ B₁.slots = A₁.slots + A.slots.size) :=
  (law l a D fV fC b A z).pays htab hfr (by omega)
end New1
end StrChars
namespace StrChars.Road
open Jvm Sem ClassFile Op Lib Jvm.Stand Jvm.Free Jvm.Free.XT
open Jvm.Lib.Cold (StaticIs)
abbrev ST : String := "java/lang/String"
/-- every table word that New1's law asks, flat -/
abbrev words : List Jvm.Cond := [.code New1.yN New1.yB 2 none, .initialized ST, .methodLink ST 27 New4.yN, .instanceMethod New4.yN,
  .code New4.yN New4.yB 6 none, .fieldLink ST 38 ST "COMPACT_STRINGS" "Z", .laysFinal ST ST "value" "[B", .fieldLink ST 9 ST "value" "[B", .laysFinal ST ST "coder" "B", .fieldLink ST 15 ST "coder" "B",
  .methodLink ST 1 Lib.objectInit, .instanceMethod Lib.objectInit, .code Lib.objectInit ⟨#[0xb1]⟩ 1 none, .methodLink ST 177 Cmp3.yN, .static Cmp3.yN, .methodLink ST 47 CodL.yN, .static CodL.yN,
  .code Cmp3.yN Cmp3.yB 6 (some (.array .byte)), .initialized U16, .arrayClass .byte, .methodLink U16 115 Cmp5.yN, .static Cmp5.yN, .code Cmp5.yN Cmp5.yB 7 (some .int), .code CodL.yN CodL.yB 2 (some .byte)]
theorem tab_of {a : Array Value} {s : State} (h : ∀ w ∈ words, w.before a s = true) : New1.tab.before a s = true := by
  have h5 : Cmp5.tab.before a s = true := unparts (wk h (.code Cmp5.yN Cmp5.yB 7 (some .int))) (wks h (.initialized Cmp5.yN.cls :: Cmp5.site))
  have hc : CodL.tab.before a s = true := unparts (wk h (.code CodL.yN CodL.yB 2 (some .byte))) (wks h (.initialized CodL.yN.cls :: CodL.site))
  have q5 : ∀ w ∈ Cmp5.tab :: words, w.before a s = true := fun w hw => (List.mem_cons.mp hw).elim (fun e => e ▸ h5) (h w)
  have h3 : Cmp3.tab.before a s = true := unparts (wk q5 (.code Cmp3.yN Cmp3.yB 6 (some (.array .byte)))) (wks q5 (.initialized Cmp3.yN.cls :: Cmp3.site))
  have q3 : ∀ w ∈ Cmp3.tab :: CodL.tab :: words, w.before a s = true := fun w hw => (List.mem_cons.mp hw).elim (fun e => e ▸ h3) fun hw => (List.mem_cons.mp hw).elim (fun e => e ▸ hc) (h w)
  have h4 : New4.tab.before a s = true := unparts (wk q3 (.code New4.yN New4.yB 6 none)) (wks q3 (.initialized New4.yN.cls :: New4.site))
  have q4 : ∀ w ∈ New4.tab :: words, w.before a s = true := fun w hw => (List.mem_cons.mp hw).elim (fun e => e ▸ h4) (h w)
  exact unparts (wk q4 (.code New1.yN New1.yB 2 none)) (wks q4 (.initialized New1.yN.cls :: New1.site))
/-- the words ride from the start Z to the walk's own state -/
theorem moved {Z s : State} {a0 args : Array Value} (hZ : Z.Warmed39 s.vm) (hw : ∀ d ∈ words, d.before a0 Z = true) : ∀ d ∈ words, d.before args s = true := fun d hd => by
  have q := hw d hd
  have t : ∀ d ∈ words, d = .arrayClass .byte ∨ (d.onTables && d.keepsFace) = true := by decide +kernel
  rcases t d hd with rfl | t
  · exact RoadKit.mvA hZ q
  · exact RoadKit.mv hZ q t
/-- WHAT COMES BACK, over the tables of the start Z: h the heap at the call, h' behind it -/
def Q (Z : State) (x : Addr) (A : Cell) (h : Heap) (v : Option Value) (h' : Heap) (L : List Loc) : Prop := v = none ∧ (∀ y ∈ L, y.base = x) ∧ RoadKit.Keep h h' [x] ∧ h'.size = h.size + 1 ∧ RoadKit.Exa Z h' x ST ∧ RoadKit.Fld Z h' x ST "value" "[B" (.ref h.size) ∧ RoadKit.Fld Z h' x ST "coder" "B" (.int 0) ∧
  (∃ V : Cell, RoadKit.Arr Z h' h.size V .byte ∧ V.vm = .none ∧ Z.vm.findClass "[B" = some V.cls ∧ V.slots.size = A.slots.size ∧ ∀ j, j < A.slots.size → V.slots[j]? = some (.int (lo8 (cv A j)))) ∧
  ∀ (O n d : String) (w : Value), RoadKit.Fld Z h x O n d w → RoadKit.slotOf Z O n d ≠ RoadKit.slotOf Z ST "value" "[B" → RoadKit.slotOf Z O n d ≠ RoadKit.slotOf Z ST "coder" "B" → RoadKit.Fld Z h' x O n d w
/-- **new String(chars) AT A CALL, IN THE ROAD'S FORM**: for specialBack behind newO: x the fresh String, b the char[] with the cell A -/
theorem back {p : Program} {l : Launch} {e : Env} {R : Room} {s : State} {args : Array Value} {below : List Frame} {len W : Nat} {Z : State} {a0 : Array Value} {h : Heap} (hZ : Z.Warmed39 s.vm) (hw : ∀ d ∈ words, d.before a0 Z = true) {kI : Nat} (wi : (Jvm.Cond.instantiable ST kI).before a0 Z = true)
    {x b : Addr} {A : Cell} {z : Int32} {v0 c0 : Value} (E : RoadKit.Exa Z h x ST) (V : RoadKit.Fld Z h x ST "value" "[B" v0) (C : RoadKit.Fld Z h x ST "coder" "B" c0) (K : RoadKit.Arr Z h b A .char) (hty : Typed .char A) (S : RoadKit.Sta Z h ST "COMPACT_STRINGS" "Z" (.int z)) (hz : ¬ z = 0)
    (l0 : 0 < A.slots.size) (l2 : A.slots.size ≤ 536870912) (hp : ∀ i, i < A.slots.size → ¬ 255 < cv A i) (hfr : 4 ≤ R.frames) (hlo : W + 65 ≤ R.locals) :
    Back l R p e below s args New1.yN len W (fun P a => a = #[.ref x, .ref b] ∧ P.U.heap = h ∧ P.cells + 1 ≤ R.cells ∧ P.slots + A.slots.size ≤ R.slots)
      (fun P _ v B => ∃ L, Q Z x A h v B.U.heap L ∧ B.locs = P.locs ++ L ∧ B.cells = P.cells + 1 ∧ B.slots = P.slots + A.slots.size) := by
  intro m meth c P g ig mk a X hg hsize hdg hW hn hp'
  obtain ⟨rfl, rfl, r1, r2⟩ := hp'
  have al : Z.vm.Alike P.U.vm := hZ.alike.trans X.warmed.alike
  obtain ⟨D, cfV, kV, iV, fV, hD, gV, stV, knV, obV, asV, slV⟩ := id V
  obtain ⟨D', cfC, kC, iC, fC, hD', gC, stC, -, -, asC, slC⟩ := id C
  cases hD.symm.trans hD'
  obtain ⟨D2, kD, e1, e2, e3, e4, e5⟩ := id E
  cases hD.symm.trans e1
  obtain ⟨c2, k2, i1, i2, i3, -⟩ := Cond.instantiable_spec wi
  cases e2.symm.trans i1
  cases e3.symm.trans i2
  obtain ⟨kU, u1, u2⟩ := al.2.2 _ _ e3
  have hB : Blank ST x D P.U := ⟨hD, ⟨knV, fun q hq => by rw [hq] at obV; cases obV⟩, by rw [al.findClass]; exact e2, kU, u1, by rw [u2]; exact i3, by rw [u2]; exact e5 i3⟩
  have F1 : Found ST "value" "[B" fV P.U := ⟨SBG.found_only al ⟨cfV, kV, iV, gV⟩, stV⟩
  have F2 : Found ST "coder" "B" fC P.U := ⟨SBG.found_only al ⟨cfC, kC, iC, gC⟩, stC⟩
  have hA : Ch b A P.U := ⟨⟨K.1, State.isArrayOf_alike al K.2.1, K.2.2, by omega⟩, hty⟩
  have hS : StaticIs P.U ST "COMPACT_STRINGS" "Z" (.int z) := by
    obtain ⟨cfS, iS, kS, fS, st, cS, t1, t2, t3, t4, t5, t6, t7⟩ := S
    exact StaticIs.there (s := { Z with heap := P.U.heap }) ⟨cfS, iS, kS, fS, st, cS, t1, t2, t3, t4, t5, (fun q => by rw [q] at t6; cases t6), t7⟩ al rfl
  obtain ⟨v, B, X', ⟨⟨hv, E', V', q1, q2, q3, q4, q5, q6, q7, q8, q9, q10, q11⟩, hl, hc, hs⟩, st⟩ := New1.pays x D fV fC b A z (tab_of (moved hZ hw)) hfr hlo m meth c P g ig mk _ X hg hsize hdg hW hn ⟨r1, r2, rfl, hB, F1, F2, hA, hS, hz, l0, l2, hp⟩
  have al' : Z.vm.Alike B.U.vm := hZ.alike.trans X'.warmed.alike
  have hsz : E'.slots.size = D.slots.size := by
    obtain ⟨-, -, -, kB, w1, w2, w3⟩ := q1
    obtain ⟨kB', y1, y2⟩ := al'.2.2 _ _ e3
    rw [q2.2.1] at w1
    cases w1.symm.trans y1
    rw [w3, e5 i3, y2]
  refine ⟨v, B, X', ⟨_, ⟨hv, ?_, ⟨by omega, fun y cy hy hn' => q10 y cy (by simpa using hn') hy, fun y cy hy => ?_⟩, q11, ⟨E', _, q1.1, by rw [q2.2.1]; exact e2, by rw [q2.2.1]; exact e3, by rw [q2.1]; exact obV, fun _ => by rw [hsz]; exact e5 i3⟩,
    ⟨E', cfV, kV, iV, fV, q1.1, gV, stV, by rw [q2.1]; exact knV, by rw [q2.1]; exact obV, by rw [q2.2.1]; exact asV, q3⟩, ⟨E', cfC, kC, iC, fC, q1.1, gC, stC, by rw [q2.1]; exact knV, by rw [q2.1]; exact obV, by rw [q2.2.1]; exact asC, q4⟩,
    ⟨V', ⟨q5.1, State.isArrayOf_alike al'.symm q5.2.1, q5.2.2.1⟩, q6, by rw [← al'.findClass]; exact q7, q8, fun j hj => by have := q9 j hj; rwa [Nat.zero_add] at this⟩, fun O n d w F n1 n2 => ?_⟩, hl, hc, hs⟩, st⟩
  · intro y hy
    simp only [List.mem_cons, List.not_mem_nil, or_false] at hy
    rcases hy with rfl | rfl <;> rfl
  · by_cases q : y = x
    · subst q
      cases hD.symm.trans hy
      exact ⟨E', q1.1, q2.2.1, q2.1, hsz⟩
    · exact ⟨cy, q10 y cy q hy, rfl, rfl, rfl⟩
  · obtain ⟨D3, cf, k, i, f, g1, g2, g3, g4, g5, g6, g7⟩ := F
    cases hD.symm.trans g1
    simp only [RoadKit.slotOf, g2, gV, gC, Option.map_some, Option.getD_some] at n1 n2
    exact ⟨E', cf, k, i, f, q1.1, g2, g3, by rw [q2.1]; exact g4, by rw [q2.1]; exact g5, by rw [q2.2.1]; exact g6, by rw [q2.2.2 f.slot (by simp [n1, n2])]; exact g7⟩
end StrChars.Road
namespace StrChars.Road
open Jvm Sem ClassFile Op Lib Jvm.Stand Jvm.Free Jvm.Free.XT
/-- WHAT COMES BACK, the byte[] as a list of values -/
def QA (Z : State) (x : Addr) (zn : Int32) (cs : List Int32) (h : Heap) (v : Option Value) (h' : Heap) (L : List Loc) : Prop := v = none ∧ (∀ y ∈ L, y.base = x) ∧ RoadKit.Keep h h' [x] ∧ h'.size = h.size + 1 ∧ RoadKit.Exa Z h' x ST ∧ RoadKit.Fld Z h' x ST "value" "[B" (.ref h.size) ∧ RoadKit.Fld Z h' x ST "coder" "B" (.int 0) ∧
  (∃ kb, Z.vm.findClass "[B" = some kb ∧ RoadKit.Arv Z h' h.size kb .byte zn (cs.map fun c => .int (lo8 c)) (.int 0)) ∧
  ∀ (O n d : String) (w : Value), RoadKit.Fld Z h x O n d w → RoadKit.slotOf Z O n d ≠ RoadKit.slotOf Z ST "value" "[B" → RoadKit.slotOf Z O n d ≠ RoadKit.slotOf Z ST "coder" "B" → RoadKit.Fld Z h' x O n d w
/-- **new String(chars) AT A CALL, THE ARRAYS AS LISTS**: the char[] at b holds cs, not empty, no char above 255 -/
theorem backArv {p : Program} {l : Launch} {e : Env} {R : Room} {s : State} {args : Array Value} {below : List Frame} {len W : Nat} {Z : State} {a0 : Array Value} {h : Heap} (hZ : Z.Warmed39 s.vm) (hw : ∀ d ∈ words, d.before a0 Z = true) {kI : Nat} (wi : (Jvm.Cond.instantiable ST kI).before a0 Z = true)
    {x b : Addr} {k : ClassId} {zn z : Int32} {cs : List Int32} {dv v0 c0 : Value} (E : RoadKit.Exa Z h x ST) (V : RoadKit.Fld Z h x ST "value" "[B" v0) (C : RoadKit.Fld Z h x ST "coder" "B" c0) (K : RoadKit.Arv Z h b k .char zn (cs.map Value.int) dv) (S : RoadKit.Sta Z h ST "COMPACT_STRINGS" "Z" (.int z)) (hz : ¬ z = 0)
    (hlen : zn.toNatClampNeg = cs.length) (h0 : 0 < cs.length) (hbig : cs.length ≤ 536870912) (hall : ∀ c ∈ cs, ¬ 255 < c) (hfr : 4 ≤ R.frames) (hlo : W + 65 ≤ R.locals) :
    Back l R p e below s args New1.yN len W (fun P a => a = #[.ref x, .ref b] ∧ P.U.heap = h ∧ P.cells + 1 ≤ R.cells ∧ P.slots + cs.length ≤ R.slots)
      (fun P _ v B => ∃ L, QA Z x zn cs h v B.U.heap L ∧ B.locs = P.locs ++ L ∧ B.cells = P.cells + 1 ∧ B.slots = P.slots + cs.length) := by
  obtain ⟨A, K1, K2, K3, K4, K5, K6⟩ := K
  have e : A.slots.size = cs.length := K3.trans hlen
  have hat : ∀ (i : Nat) (hi : i < cs.length), A.slots[i]? = some (.int cs[i]) := fun i hi => by rw [K5 i (by omega)]; simp [List.getD_eq_getElem?_getD, hi]
  have hcv : ∀ (i : Nat) (hi : i < cs.length), cv A i = cs[i] := fun i hi => by unfold cv; rw [hat i hi]
  have hty : Typed .char A := fun i v hv => by
    have hi : i < A.slots.size := (Array.getElem?_eq_some_iff.mp hv).1
    have q := K5 i hi
    rw [hv] at q
    rw [Option.some.inj q]
    exact K6 i hi
  refine Back.mono (back hZ hw wi E V C K1 hty S hz (by omega) (by omega) (fun i hi => by rw [hcv i (by omega)]; exact hall _ (List.getElem_mem _)) hfr hlo) (fun P a hp => ⟨hp.1, hp.2.1, hp.2.2.1, by rw [e]; exact hp.2.2.2⟩) (fun P a v B hp hq => ?_)
  obtain ⟨L, ⟨q1, q2, q3, q4, q5, q6, q7, ⟨V', v1, v2, v3, v4, v5⟩, q9⟩, hl, hc, hs⟩ := hq
  refine ⟨L, ⟨q1, q2, q3, q4, q5, q6, q7, ⟨V'.cls, v3, V', v1, rfl, by rw [v4, e, hlen], K4, fun i hi => ?_, fun i hi => ?_⟩, q9⟩, hl, hc, by rw [hs, e]⟩
  · have hi' : i < cs.length := by omega
    rw [v5 i (by omega), hcv i hi']; simp [List.getD_eq_getElem?_getD, hi']
  · have hi' : i < cs.length := by omega
    simp only [List.getD_eq_getElem?_getD, List.getElem?_map, List.getElem?_eq_getElem hi', Option.map_some, Option.getD_some]
    exact fits_lo8 _
end StrChars.Road
namespace StrChars.Road
open Jvm Sem ClassFile Op Lib Jvm.Stand Jvm.Free Jvm.Free.XT
/-- WHAT COMES BACK, in the writer's own shape -/
def QV (Z : State) (x : Addr) (N : Int32) (bs : List Int32) (h : Heap) (n0 : Nat) (v : Option Value) (h' : Heap) (L : List Loc) : Prop := v = none ∧ RoadKit.Fr n0 L ∧ RoadKit.Keep h h' [x] ∧ RoadKit.Exa Z h' x ST ∧ RoadKit.Fld Z h' x ST "coder" "B" (.int 0) ∧
  ∃ (t : Addr) (kb : ClassId), n0 ≤ t ∧ h.size ≤ t ∧ ¬ t = x ∧ RoadKit.Fld Z h' x ST "value" "[B" (.ref t) ∧ RoadKit.Arv Z h' t kb .byte N (bs.map Value.int) (.int 0)
/-- **new String(chars) AT A CALL, FOR THE WRITER**: a char[] of n known ints, each 0 to 255 -/
theorem backV {p : Program} {l : Launch} {e : Env} {R : Room} {s : State} {args : Array Value} {below : List Frame} {len W : Nat} {Z : State} {a0 : Array Value} {h : Heap} (hZ : Z.Warmed39 s.vm) (hw : ∀ d ∈ words, d.before a0 Z = true) {kI : Nat} (wi : (Jvm.Cond.instantiable ST kI).before a0 Z = true)
    {x b : Addr} {kC : ClassId} {cs bs : List Int32} {d v0 c0 : Value} {z N : Int32} {n n0 : Nat} (hx0 : n0 ≤ x) (hh0 : n0 ≤ h.size) (E : RoadKit.Exa Z h x ST) (V : RoadKit.Fld Z h x ST "value" "[B" v0) (C : RoadKit.Fld Z h x ST "coder" "B" c0) (K : RoadKit.Arv Z h b kC .char N (cs.map Value.int) d) (S : RoadKit.Sta Z h ST "COMPACT_STRINGS" "Z" (.int z)) (hz : ¬ z = 0)
    (hn : cs.length = n) (hN : N = Int32.ofNat n) (l0 : 0 < n) (l2 : n ≤ 4000) (hp : ∀ c ∈ cs, ¬ c < 0 ∧ ¬ (255 : Int32) < c) (hb : bs = cs.map (fun c => c.toInt8.toInt32)) (hfr : 4 ≤ R.frames) (hlo : W + 65 ≤ R.locals) :
    Back l R p e below s args (⟨"java/lang/String", "<init>", "([C)V"⟩ : MethodName) len W (fun P a => a = #[.ref x, .ref b] ∧ P.U.heap = h ∧ P.cells + 1 ≤ R.cells ∧ P.slots + n ≤ R.slots)
      (fun P _ v B => ∃ L, QV Z x N bs h n0 v B.U.heap L ∧ B.locs = P.locs ++ L ∧ B.cells = P.cells + 1 ∧ B.slots = P.slots + n) := by
  subst hn hN hb
  refine Back.mono (backArv hZ hw wi E V C K S hz (n32 (by omega)) l0 (by omega) (fun c hc => (hp c hc).2) hfr hlo) (fun P a hp => hp) (fun P a v B hp hq => ?_)
  obtain ⟨L, ⟨q1, q2, q3, q4, q5, q6, q7, ⟨kb, v1, v2⟩, q9⟩, hl, hc, hs⟩ := hq
  exact ⟨L, ⟨q1, fun y hy => by rw [q2 y hy]; exact hx0, q3, q5, q7, h.size, kb, hh0, Nat.le_refl _, Nat.ne_of_gt E.lt, q6, by rw [List.map_map]; exact v2⟩, hl, hc, hs⟩
end StrChars.Road
end Jvm.Pilot.@@N@@
namespace Jvm.Pilot.@@N@@
open Jvm Jvm.ClassFile Sem Op Lib Jvm.Free Jvm.Stand Jvm.LawKit Jvm.RoadKit Bundle Jvm.Pilot.@@N@@.Jvm.D
abbrev own_y0 : MethodName := ⟨"java/lang/String", "coder", "()B"⟩
abbrev own_y1 : MethodName := ⟨"java/lang/String", "isLatin1", "()Z"⟩
abbrev own_y2 : MethodName := ⟨"java/lang/String", "length", "()I"⟩
abbrev own_y3 : MethodName := ⟨"java/lang/String", "isEmpty", "()Z"⟩
abbrev own_y4 : MethodName := ⟨"jdk/internal/util/Preconditions", "checkIndex", "(IILjava/util/function/BiFunction;)I"⟩
abbrev own_y5 : MethodName := ⟨"java/lang/String", "checkIndex", "(II)V"⟩
abbrev own_y6 : MethodName := ⟨"java/lang/StringLatin1", "charAt", "([BI)C"⟩
abbrev own_y7 : MethodName := ⟨"java/lang/String", "charAt", "(I)C"⟩
abbrev own_y8 : MethodName := ⟨"java/lang/Record", "<init>", "()V"⟩
abbrev own_y9 : MethodName := ⟨"java/util/Objects", "requireNonNull", "(Ljava/lang/Object;Ljava/lang/String;)Ljava/lang/Object;"⟩
abbrev own_y10 : MethodName := ⟨"java/lang/AbstractStringBuilder", "<init>", "(I)V"⟩
abbrev own_y11 : MethodName := ⟨"java/lang/StringBuilder", "<init>", "()V"⟩
abbrev own_y12 : MethodName := ⟨"java/lang/AbstractStringBuilder", "getValue", "()[B"⟩
abbrev own_y13 : MethodName := ⟨"java/lang/AbstractStringBuilder", "length", "()I"⟩
abbrev own_y14 : MethodName := ⟨"java/lang/StringBuilder", "length", "()I"⟩
abbrev own_y15 : MethodName := ⟨"java/lang/AbstractStringBuilder", "isLatin1", "()Z"⟩
abbrev own_y16 : MethodName := ⟨"java/lang/Math", "min", "(II)I"⟩
abbrev own_y17 : MethodName := ⟨"java/util/Arrays", "checkLength", "(II)V"⟩
abbrev own_y18 : MethodName := ⟨"java/lang/Integer", "stringSize", "(I)I"⟩
abbrev own_y19 : MethodName := ⟨"java/lang/Integer", "getChars", "(II[B)I"⟩
abbrev own_y20 : MethodName := ⟨"java/lang/AbstractStringBuilder", "ensureCapacityInternal", "(I)V"⟩
abbrev own_y21 : MethodName := ⟨"java/lang/AbstractStringBuilder", "inflateIfNeededFor", "(Ljava/lang/String;)V"⟩
abbrev own_y22 : MethodName := ⟨"java/lang/String", "getBytes", "([BIB)V"⟩
abbrev own_y23 : MethodName := ⟨"java/lang/AbstractStringBuilder", "putStringAt", "(ILjava/lang/String;)V"⟩
abbrev own_y24 : MethodName := ⟨"java/lang/AbstractStringBuilder", "append", "(Ljava/lang/String;)Ljava/lang/AbstractStringBuilder;"⟩
abbrev own_y25 : MethodName := ⟨"java/lang/StringBuilder", "append", "(Ljava/lang/String;)Ljava/lang/StringBuilder;"⟩
abbrev own_y26 : MethodName := ⟨"java/lang/AbstractStringBuilder", "append", "(I)Ljava/lang/AbstractStringBuilder;"⟩
abbrev own_y27 : MethodName := ⟨"java/lang/StringBuilder", "append", "(I)Ljava/lang/StringBuilder;"⟩
abbrev own_y28 : MethodName := ⟨"java/util/Arrays", "copyOfRangeByte", "([BII)[B"⟩
abbrev own_y29 : MethodName := ⟨"java/util/Arrays", "copyOfRange", "([BII)[B"⟩
abbrev own_y30 : MethodName := ⟨"java/lang/String", "<init>", "(Ljava/lang/AbstractStringBuilder;Ljava/lang/Void;)V"⟩
abbrev own_y31 : MethodName := ⟨"java/lang/String", "<init>", "(Ljava/lang/StringBuilder;)V"⟩
abbrev own_y32 : MethodName := ⟨"java/lang/StringBuilder", "toString", "()Ljava/lang/String;"⟩
abbrev own_y33 : MethodName := ⟨"java/lang/StringLatin1", "indexOf", "([BI[BII)I"⟩
abbrev own_y34 : MethodName := ⟨"java/lang/StringLatin1", "indexOf", "([B[B)I"⟩
abbrev own_y35 : MethodName := ⟨"java/lang/String", "indexOf", "(Ljava/lang/String;)I"⟩
abbrev own_y36 : MethodName := ⟨"java/lang/String", "toString", "()Ljava/lang/String;"⟩
abbrev own_y37 : MethodName := ⟨"java/lang/String", "contains", "(Ljava/lang/CharSequence;)Z"⟩
abbrev own_y39 : MethodName := ⟨"com/example/redelivery/redelivery/settings/ListenAddress", "<init>", "(Ljava/lang/String;I)V"⟩
abbrev own_y40 : MethodName := ⟨"com/example/redelivery/redelivery/settings/ListenAddress", "toString", "()Ljava/lang/String;"⟩
abbrev own_y41 : MethodName := ⟨"com/example/redelivery/redelivery/settings/ListenAddressToStringPinLaw", "ch", "(I)C"⟩
abbrev own_y42 : MethodName := ⟨"com/example/redelivery/redelivery/settings/ListenAddressToStringPinLaw", "at", "(Ljava/lang/String;[CII)Z"⟩
abbrev own_y43 : MethodName := ⟨"java/lang/String", "<init>", "([C)V"⟩
theorem own_hws : ∀ d ∈ StrChars.Road.words, d ∈ tables_1 := by
  intro d hd
  simp only [StrChars.Road.words, List.mem_cons, List.not_mem_nil, or_false] at hd
  rcases hd with rfl | rfl | rfl | rfl | rfl | rfl | rfl | rfl | rfl | rfl | rfl | rfl | rfl | rfl | rfl | rfl | rfl | rfl | rfl | rfl | rfl | rfl | rfl | rfl
  · exact List.mem_of_getElem? (i := 11) rfl
  · exact List.mem_of_getElem? (i := 8) rfl
  · exact List.mem_of_getElem? (i := 12) rfl
  · exact List.mem_of_getElem? (i := 13) rfl
  · exact List.mem_of_getElem? (i := 15) rfl
  · exact List.mem_of_getElem? (i := 19) rfl
  · exact List.mem_of_getElem? (i := 34) rfl
  · exact List.mem_of_getElem? (i := 33) rfl
  · exact List.mem_of_getElem? (i := 32) rfl
  · exact List.mem_of_getElem? (i := 31) rfl
  · exact List.mem_of_getElem? (i := 16) rfl
  · exact List.mem_of_getElem? (i := 17) rfl
  · exact List.mem_of_getElem? (i := 18) rfl
  · exact List.mem_of_getElem? (i := 20) rfl
  · exact List.mem_of_getElem? (i := 21) rfl
  · exact List.mem_of_getElem? (i := 28) rfl
  · exact List.mem_of_getElem? (i := 29) rfl
  · exact List.mem_of_getElem? (i := 23) rfl
  · exact List.mem_of_getElem? (i := 22) rfl
  · exact List.mem_of_getElem? (i := 24) rfl
  · exact List.mem_of_getElem? (i := 25) rfl
  · exact List.mem_of_getElem? (i := 26) rfl
  · exact List.mem_of_getElem? (i := 27) rfl
  · exact List.mem_of_getElem? (i := 30) rfl
theorem own_toInt {a b : Int32} (h : a.toInt = b.toInt) : a = b := Int32.toInt_inj.mp h
theorem own_shr0 (n : Int32) : (n >>> ((0 : Int32) &&& 31)) = n := by
  apply own_toInt
  rw [c_ishr n (0 : Int32) 0 (by decide)]
  simp
def own_emp (n : Int32) : Int32 := if n = (0 : Int32) then 1 else 0
def own_chr (b : Int32) : Int32 := (b &&& (255 : Int32)).toUInt32.toUInt16.toUInt32.toInt32
theorem own_nar_c (x : Int32) : nar .char (x.toUInt32.toUInt16.toUInt32.toInt32) = x.toUInt32.toUInt16.toUInt32.toInt32 := by
  show (x.toUInt32.toUInt16.toUInt32.toInt32).toUInt32.toUInt16.toUInt32.toInt32 = _
  simp only [UInt32.toUInt32_toInt32, UInt16.toUInt16_toUInt32]
theorem own_nar_b (x : Int32) : nar .byte (x.toInt8.toInt32) = x.toInt8.toInt32 := by
  show (x.toInt8.toInt32).toInt8.toInt32 = _
  apply own_toInt
  have a1 := c_i2b x
  have a2 := c_i2b x.toInt8.toInt32
  omega
theorem own_chr_of {x : Int32} (h1 : ¬ x < (0 : Int32)) (h2 : ¬ (255 : Int32) < x) : own_chr (x.toInt8.toInt32) = x := by
  simp only [Int32.lt_iff_toInt_lt] at h1 h2
  have e0 : (0 : Int32).toInt = 0 := by decide
  have e1 : (255 : Int32).toInt = 255 := by decide
  have a1 := c_i2b x
  have a2 := c_mask (x.toInt8.toInt32) (255 : Int32) 8 (by decide) (by decide)
  have a3 := c_i2c ((x.toInt8.toInt32) &&& (255 : Int32))
  apply own_toInt
  show (((x.toInt8.toInt32) &&& (255 : Int32)).toUInt32.toUInt16.toUInt32.toInt32).toInt = x.toInt
  omega
theorem own_ch255 (x : Int32) : ¬ nar .char ((x &&& (255 : Int32)).toUInt32.toUInt16.toUInt32.toInt32) < 0 ∧ ¬ (255 : Int32) < nar .char ((x &&& (255 : Int32)).toUInt32.toUInt16.toUInt32.toInt32) := by
  have h1 := c_mask x (255 : Int32) 8 (by decide) (by decide)
  have h2 := c_i2c (x &&& (255 : Int32))
  have h3 := c_i2c ((x &&& (255 : Int32)).toUInt32.toUInt16.toUInt32.toInt32)
  have e : nar .char ((x &&& (255 : Int32)).toUInt32.toUInt16.toUInt32.toInt32) = ((x &&& (255 : Int32)).toUInt32.toUInt16.toUInt32.toInt32).toUInt32.toUInt16.toUInt32.toInt32 := rfl
  rw [e]
  simp only [Int32.lt_iff_toInt_lt]
  have e0 : (0 : Int32).toInt = 0 := by decide
  have e1 : (255 : Int32).toInt = 255 := by decide
  omega
theorem own_len {args : Array Value} {s : State} {t : Term} {a : Addr} {cl : Cell} {n : Int32} (ht : t.eval args s none [] s = some (.ref a)) (ha : s.arrayAt? a = some cl) (h : (Term.length t).eval args s none [] s = some (.int n)) : cl.slots.size < 2 ^ 31 ∧ cl.slots.size.toInt32 = n := by
  by_cases q : cl.slots.size < 2147483648
  · simp [Term.eval, ht, ha, q] at h
    exact ⟨q, h⟩
  · simp [Term.eval, ht, ha, q] at h
theorem own_idx {args : Array Value} {s : State} {j : Int32} (hj : ¬ j < 0) : (Term.index 0).eval args s none [j.toNatClampNeg] s = some (.int j) := idx_at hj
theorem own_nf {s : State} {args : Array Value} {C : String} {y y2 : MethodName} (hs : (Cond.selects C y2 y2).before args s = true) (hc : y2.cls = y.cls) : NotFace s y := fun r0 h0 => by
  obtain ⟨c2, r2, m2, q1, q2, q3, q4, kP, hkP, hkPi⟩ := Cond.selects_spec hs
  have e1 := findClass_of_methodNamed h0
  have e2 := findClass_of_methodNamed q3
  rw [hc] at e2
  have e := Option.some.inj (e1.symm.trans e2)
  exact ⟨kP, by rw [e]; exact hkP, hkPi⟩
theorem own_selp {s : State} {args : Array Value} {C : String} {y y2 : MethodName} (hs : (Cond.selects C y2 y2).before args s = true) (hc : y2.cls = y.cls) (hp : s.PrivateAt y) (hi : (Cond.instanceMethod y).before args s = true) (hy : y.cls ≠ "java/lang/invoke/MethodHandle" ∧ y.cls ≠ "java/lang/invoke/VarHandle") : (Cond.selects y.cls y y).before args s = true := by
  obtain ⟨mk, methM, hn, -, -, -⟩ := Cond.instanceMethod_spec hi
  obtain ⟨kr, hkr, hni⟩ := own_nf hs hc mk hn
  exact selects_self_of_private (findClass_of_methodNamed hn) hkr hni hp hi hy
theorem own_same {Z : State} {a0 : Array Value} {C : String} {y y2 : MethodName} (hd : (Cond.declares y).before a0 Z = true) (hs : (Cond.selects C y2 y2).before a0 Z = true) (hc : y2.cls = y.cls) (hy : y.cls ≠ "java/lang/invoke/MethodHandle" ∧ y.cls ≠ "java/lang/invoke/VarHandle") : (Cond.sameMethod y.cls y.cls y.name y.desc).before a0 Z = true := by
  obtain ⟨r0, r, hn, hrm, -, -⟩ := Cond.declares_spec hd
  obtain ⟨kr, hkr, hni⟩ := own_nf hs hc r0 hn
  have hf := State.methodFound?_of_named hn hy
  have hcls := findClass_of_methodNamed hn
  obtain ⟨yc, yn, yd⟩ := y
  have hn' : Z.methodNamed? ⟨yc, yn, yd⟩ = some r0 := hn
  have hf' : Z.methodFound? yc yn yd = some r0 := hf
  have hcls' : Z.vm.findClass yc = some r0.cls := hcls
  simp [Cond.before, Cond.holds, Cond.value, hcls', hf', hn', hkr, hni]
theorem own_mvMN {Z s : State} {a0 args : Array Value} {own host : String} {y : MethodName} {index : Nat} (hZ : Z.Warmed39 s.vm) (w : (Cond.methodLinkNest own index y host).before a0 Z = true) : (Cond.methodLinkNest own index y host).before args s = true := (Cond.methodLinkNest_wide hZ w :)
theorem own_safe_null {Z : State} {EL : List (String × Nat)} {vm : Vm} {h : Heap} {x : Addr} (hal : Z.vm.Alike vm) (E : Exa Z h x "java/lang/String") (F : Fld Z h x "java/lang/String" "value" "[B" .null) : Safe Z EL vm h x := fun B => by
  obtain ⟨cell, k, e1, e2, e3, -, -⟩ := E
  have nm : ∀ {n : String} {c : ClassId}, vm.findClass n = some c → c = cell.cls → n = "java/lang/String" := fun {n c} f e => by
    subst e
    rw [hal.findClass] at f
    obtain ⟨k1, q1, q2⟩ := Vm.findClass_spec f
    obtain ⟨k2, q3, q4⟩ := Vm.findClass_spec e2
    cases q1.symm.trans q3
    exact q2.symm.trans q4
  obtain ⟨cell', cv, kv, iv, f, f1, f2, f3, f4, f5, f6, f7⟩ := F
  obtain ⟨p, -, u, a, -, q, -, G, rfl | rfl⟩ := B
  · obtain ⟨cS, ⟨⟨s1, s2, s3, ⟨cv', kv', iv', s4, s4'⟩, -, s6, s7, s8, s9, -⟩, -⟩, -⟩ := G
    have s1 : h[q.sa]? = some q.sC := s1
    cases s1.symm.trans f1
    obtain ⟨kv2, z4⟩ := ff_back (U := Wst Z vm h) hal s4
    have e4 := z4.symm.trans f2
    simp only [Option.some.injEq, Prod.mk.injEq] at e4
    rw [← e4.2.2.2, s8] at f7
    cases f7
  · cases (show h[q.sd]? = some q.SA from G.hd).symm.trans e1
    obtain ⟨cS, -, -, f, -⟩ := G
    exact absurd (nm f rfl) (by decide)
def own_min (x y : Int32) : Int32 := if y < x then y else x
abbrev own_B (xs : List Int32) : List Value := xs.map Value.int
abbrev own_by (c : Int32) : Int32 := c.toInt8.toInt32
theorem own_nat {n : Int32} {k : Nat} (h : n.toInt = (k : Int)) : n.toNatClampNeg = k := by
  simp only [Int32.toNatClampNeg, h]
  rfl
theorem own_nn {n : Int32} {k : Nat} (h : n.toInt = (k : Int)) : ¬ n < (0 : Int32) := by
  rw [Int32.lt_iff_toInt_lt]
  have e : (0 : Int32).toInt = 0 := by decide
  omega
theorem own_addI {a b : Int32} {x y : Int} (ha : a.toInt = x) (hb : b.toInt = y) (h1 : -1000 ≤ x) (h2 : x ≤ 1000) (h3 : -1000 ≤ y) (h4 : y ≤ 1000) : (a + b).toInt = x + y := by
  have q := c_iadd a b
  have r := rng32 (a + b)
  omega
theorem own_pushB {Z : State} {h h' : Heap} {a : Addr} {k : ClassId} {ty : FieldType} {z : Int32} {xs : List Int32} {dv : Value} {x j : Int32} (F : Arv Z h a k ty z (own_B xs) dv) (hv : fits ty (.int x) = true) (W : Wr h h' a j.toNatClampNeg (.int x)) (hj : j.toInt = (xs.length : Int)) : Arv Z h' a k ty z (own_B (xs ++ [x])) dv := by
  have hj' := own_nat hj
  obtain ⟨c, A, q1, S, q3, H, G⟩ := F.pad (vs' := own_B xs ++ List.replicate 1 dv) (pad_rep (own_B xs) dv 1)
  have r := Arv.set A q1 S q3 H G hv W xs.length hj' (by simp)
  have e : (own_B xs ++ List.replicate 1 dv).set xs.length (Value.int x) = own_B (xs ++ [x]) := by
    rw [List.set_append_right _ _ (by simp)]
    simp
  rw [e] at r
  exact r
theorem own_cp {xs ys : List Int32} {s d m : Nat} {dv : Value} (hs : s = 0) (hd : d = xs.length) (hm : m = ys.length) : (own_B xs ++ List.replicate m dv).take d ++ (List.range m).map (fun i => (own_B ys).getD (s + i) dv) ++ (own_B xs ++ List.replicate m dv).drop (d + m) = own_B (xs ++ ys) := by
  subst hs hd hm
  have e1 : (own_B xs ++ List.replicate ys.length dv).take xs.length = own_B xs := List.take_left' (by simp)
  have e2 : (own_B xs ++ List.replicate ys.length dv).drop (xs.length + ys.length) = [] := List.drop_eq_nil_of_le (by simp)
  have e3 : (List.range ys.length).map (fun i => (own_B ys).getD (0 + i) dv) = own_B ys := by
    apply List.ext_getElem
    · simp
    · intro i h1 h2
      have h3 : i < ys.length := by simpa using h1
      simp [List.getD_eq_getElem?_getD, List.getElem?_eq_getElem h3]
  rw [e1, e2, e3, List.append_nil]
  exact List.map_append.symm
theorem own_cpA {Z : State} {h : Heap} {b : Addr} {k : ClassId} {ty : FieldType} {z : Int32} {xs ys : List Int32} {s d m : Nat} {dv : Value} (hs : s = 0) (hd : d = xs.length) (hm : m = ys.length) (F : Arv Z h b k ty z ((own_B xs ++ List.replicate m dv).take d ++ (List.range m).map (fun i => (own_B ys).getD (s + i) dv) ++ (own_B xs ++ List.replicate m dv).drop (d + m)) dv) : Arv Z h b k ty z (own_B (xs ++ ys)) dv := by
  rw [own_cp hs hd hm] at F
  exact F
theorem own_h4 (m : Int32) (z : Nat) (h : m.toNatClampNeg ≤ z) : (0 : Int32).toNatClampNeg + m.toNatClampNeg ≤ z := by
  have e : (0 : Int32).toNatClampNeg = 0 := by decide
  omega
theorem own_h5 {n m : Int32} {i j : Nat} (hn : n.toInt = (i : Int)) (hm : m.toInt = (j : Int)) (h : i + j ≤ 16) : n.toNatClampNeg + m.toNatClampNeg ≤ (16 : Int32).toNatClampNeg := by
  have e : (16 : Int32).toNatClampNeg = 16 := by decide
  rw [own_nat hn, own_nat hm, e]
  exact h
theorem own_hl {n : Int32} {xs : List Int32} {m : Nat} {dv : Value} (hn : n.toInt = (xs.length : Int)) : n.toNatClampNeg + m ≤ (own_B xs ++ List.replicate m dv).length := by
  rw [own_nat hn]
  simp
theorem own_cnt {n m : Int32} {xs ys : List Int32} (hn : n.toInt = (xs.length : Int)) (hm : m.toInt = (ys.length : Int)) (hc : xs.length + ys.length ≤ 16) : (n + m).toInt = ((xs ++ ys).length : Int) := by
  rw [own_addI hn hm (by omega) (by omega) (by omega) (by omega), List.length_append]
  omega
theorem own_cap16 {n m : Int32} {i j : Nat} (hn : n.toInt = (i : Int)) (hm : m.toInt = (j : Int)) (h : i + j ≤ 16) : ¬ (0 : Int32) < ((n + m) - (16 : Int32)) := by
  have q := own_addI hn hm (by omega) (by omega) (by omega) (by omega)
  have r := c_isub (n + m) (16 : Int32)
  have r2 := rng32 ((n + m) - (16 : Int32))
  have e16 : (16 : Int32).toInt = 16 := by decide
  have e0 : (0 : Int32).toInt = 0 := by decide
  rw [Int32.lt_iff_toInt_lt]
  omega
theorem own_shl0 (n : Int32) : (n <<< ((0 : Int32) &&& 31)) = n := by
  apply own_toInt
  have h := c_ishl n (0 : Int32) 0 (by decide)
  have h1 := rng32 n
  have h2 := rng32 (n <<< ((0 : Int32) &&& 31))
  have e : ((2 ^ 0 : Nat) : Int) = 1 := rfl
  rw [e] at h
  omega
theorem own_getD (l : List Int32) (j : Nat) : (own_B l).getD j (.int 0) = .int (l.getD j 0) := by
  simp only [List.getD_eq_getElem?_getD, List.getElem?_map]
  cases l[j]? <;> rfl
theorem own_sub0 (n : Int32) : (n - (0 : Int32)) = n := by
  apply own_toInt
  have q := c_isub n (0 : Int32)
  have e0 : (0 : Int32).toInt = 0 := by decide
  have r1 := rng32 n
  have r2 := rng32 (n - (0 : Int32))
  omega
theorem own_min16 {n : Int32} {k : Nat} (hn : n.toInt = (k : Int)) (h : k < 16) : own_min ((16 : Int32) - (0 : Int32)) n = n := by
  unfold own_min
  rw [if_pos]
  rw [own_sub0, Int32.lt_iff_toInt_lt]
  have e16 : (16 : Int32).toInt = 16 := by decide
  omega
theorem own_ne16 {n : Int32} {k : Nat} (hn : n.toInt = (k : Int)) (h : k < 16) : ¬ n = (16 : Int32) := by
  intro q
  subst q
  have e16 : (16 : Int32).toInt = 16 := by decide
  omega
theorem own_c255 {x : Int32} {cs : List Int32} (h : ¬ x < (0 : Int32) ∧ ¬ (255 : Int32) < x) (r : ∀ c ∈ cs, ¬ c < (0 : Int32) ∧ ¬ (255 : Int32) < c) : ∀ c ∈ (cs ++ [x]), ¬ c < (0 : Int32) ∧ ¬ (255 : Int32) < c := fun c hc => by
  rcases List.mem_append.mp hc with q | q
  · exact r c q
  · rw [List.mem_singleton.mp q]
    exact h
theorem own_n255 : ∀ c ∈ ([] : List Int32), ¬ c < (0 : Int32) ∧ ¬ (255 : Int32) < c := fun c hc => by cases hc
theorem own_narI {x : Int32} (h : ¬ x < (0 : Int32) ∧ ¬ (255 : Int32) < x) : nar .char x = x := by
  show x.toUInt32.toUInt16.toUInt32.toInt32 = x
  obtain ⟨h1, h2⟩ := h
  simp only [Int32.lt_iff_toInt_lt] at h1 h2
  have e0 : (0 : Int32).toInt = 0 := by decide
  have e1 : (255 : Int32).toInt = 255 := by decide
  have a1 := c_i2c x
  apply own_toInt
  omega
theorem own_narb {x : Int32} (h : ¬ x < (0 : Int32) ∧ ¬ (255 : Int32) < x) : ¬ nar .char x < (0 : Int32) ∧ ¬ (255 : Int32) < nar .char x := by
  rw [own_narI h]
  exact h
def own_hok : Nat → List (Int32 × Value) → List Int32 → Prop
  | _, [], [] => True
  | n, (a, v) :: r, d :: ds => a.toInt = (n : Int) ∧ v = .int d ∧ own_hok (n + 1) r ds
  | _, [], _ :: _ => False
  | _, _ :: _, [] => False
theorem own_hokN {n : Nat} : own_hok n [] [] := trivial
theorem own_hokC {n : Nat} {a : Int32} {v : Value} {d : Int32} {r : List (Int32 × Value)} {ds : List Int32} (h1 : a.toInt = (n : Int)) (h2 : v = .int d) (h3 : own_hok (n + 1) r ds) : own_hok n ((a, v) :: r) (d :: ds) := And.intro h1 (And.intro h2 h3)
theorem own_hist (vs : List Value) (dv : Value) : ∀ (hs : List (Int32 × Value)) (ds : List Int32) (n : Nat), own_hok n hs ds → ∀ i, getH hs vs dv i = if n ≤ i ∧ i < n + ds.length then .int (ds.getD (i - n) 0) else vs.getD i dv
  | [], [], n, _, i => by
    rw [if_neg (by intro h; have h2 := h.2; simp at h2; omega)]
    rfl
  | (a, v) :: r, d :: ds, n, H, i => by
    obtain ⟨h1, rfl, h3⟩ := H
    have ih := own_hist vs dv r ds (n + 1) h3 i
    simp only [getH]
    by_cases q : a.toInt = (i : Int)
    · have e : i = n := by omega
      subst e
      rw [if_pos q, if_pos ⟨Nat.le_refl _, by simp⟩]
      simp
    · rw [if_neg q, ih]
      by_cases c : n + 1 ≤ i ∧ i < n + 1 + ds.length
      · rw [if_pos c, if_pos ⟨by omega, by simp only [List.length_cons]; omega⟩]
        have e : i - n = (i - (n + 1)) + 1 := by omega
        rw [e]
        rfl
      · rw [if_neg c, if_neg (by simp only [List.length_cons]; omega)]
  | [], _ :: _, _, H, _ => (show False from H).elim
  | _ :: _, [], _, H, _ => (show False from H).elim
theorem own_gc {Z : State} {h : Heap} {t : Addr} {kb : ClassId} {z : Int32} {xs ds : List Int32} {hs : List (Int32 × Value)} (F : Arh Z h t kb .byte z hs (own_B xs) (.int 0)) (H : own_hok xs.length hs ds) : Arv Z h t kb .byte z (own_B (xs ++ ds)) (.int 0) := by
  have key : ∀ i, getH hs (own_B xs) (.int 0) i = (own_B (xs ++ ds)).getD i (.int 0) := fun i => by
    rw [own_hist _ _ hs ds xs.length H i, own_getD, own_getD]
    by_cases q : xs.length ≤ i ∧ i < xs.length + ds.length
    · rw [if_pos q]
      congr 1
      simp only [List.getD_eq_getElem?_getD]
      rw [List.getElem?_append_right q.1]
    · rw [if_neg q]
      congr 1
      simp only [List.getD_eq_getElem?_getD]
      by_cases q2 : i < xs.length
      · rw [List.getElem?_append_left q2]
      · rw [List.getElem?_append_right (by omega), List.getElem?_eq_none (by omega), List.getElem?_eq_none (by omega)]
  obtain ⟨c, A, q, S, N, H1, G⟩ := F
  exact ⟨c, A, q, S, N, fun i hi => by rw [← key]; exact H1 i hi, fun i hi => by rw [← key]; exact G i hi⟩
/-- a table of a hundred bytes -/
def own_Tb (Z : State) (a : Addr) (c : Cell) (f : Int32 → Int32) : Prop := Arr Z Z.heap a c .byte ∧ c.slots.size = (100 : Int32).toNatClampNeg ∧ ∀ j : Int32, ¬ (j < 0 ∨ c.slots.size ≤ j.toNatClampNeg) → c.slots[j.toNatClampNeg]? = some (.int (f j))
theorem own_Tb.at {Z : State} {a : Addr} {c : Cell} {f : Int32 → Int32} {h : Heap} {i : Int32} (T : own_Tb Z a c f) (E : Ext Z.heap h) (hi : ¬ i < 0 ∧ i < (100 : Int32)) : own_At Z h a i (f i) := by
  obtain ⟨A, S, G⟩ := T
  exact ⟨c, A.ext E, inb_of S hi, G i (inb_of S hi)⟩
theorem own_arrB {Z : State} {a0 : Array Value} {t : Term} {a : Addr} {n : Int32} (ev : t.eval a0 Z none [] Z = some (.ref a)) (hx : (Cond.exactly t "[B").value a0 Z none Z [] = some true) (wa : (Cond.arrayClass .byte).before a0 Z = true) (hl : (Term.length t).eval a0 Z none [] Z = some (.int n)) : ∃ c, Arr Z Z.heap a c .byte ∧ c.slots.size < 2 ^ 31 ∧ c.slots.size.toInt32 = n := by
  obtain ⟨cell, k, h1, h2, h3, h4, -⟩ := Exa.start ev hx
  obtain ⟨d', D', hev', hat, -⟩ := Term.length_spec hl
  cases ev.symm.trans hev'
  obtain ⟨g1, g2, -, -⟩ := State.arrayAt?_spec hat
  cases h1.symm.trans g1
  obtain ⟨c4, k4, comp, f1, f2, f3⟩ := Cond.arrayClass_spec wa
  rw [show ("[" ++ FieldType.toString .byte) = "[B" from by decide] at f1
  cases h2.symm.trans f1
  cases h3.symm.trans f2
  obtain ⟨q1, q2⟩ := own_len ev hat hl
  exact ⟨cell, ⟨h1, ⟨(fun q h => by rw [h] at h4; cases h4), k, h3, comp, f3⟩, g2⟩, q1, q2⟩
theorem own_Tb.start {Z : State} {a0 : Array Value} {t F : Term} {a : Addr} {c : Cell} {f : Int32 → Int32} (et : ∀ idx, t.eval a0 Z none idx Z = some (.ref a)) (A : Arr Z Z.heap a c .byte) (q : c.slots.size < 2 ^ 31) (e : c.slots.size.toInt32 = (100 : Int32)) (h : (Cond.all t (.eq (.elem t (.index 0)) F)).value a0 Z none Z [] = some true)
    (hv : ∀ (X : Term) (j : Int32), ¬ j < 0 → (Cond.eq X F).value a0 Z none Z [j.toNatClampNeg] = some true → X.eval a0 Z none [j.toNatClampNeg] Z = some (.int (f j))) : own_Tb Z a c f := by
  refine ⟨A, by rw [← e]; simp only [Int32.toNatClampNeg, len_toInt q]; rfl, fun j hj => ?_⟩
  have nn : ¬ j < 0 := fun x => hj (Or.inl x)
  have u := Cond.all_elim (et []) (A.fin (Vm.Alike.refl _)) h j.toNatClampNeg (Nat.lt_of_not_le fun x => hj (Or.inr x))
  exact (elem_f (et _) (idx_at nn) (A.fin (Vm.Alike.refl _)) nn).symm.trans (hv _ j nn u)
theorem own_addk {args : Array Value} {s : State} {idx : List Nat} {b : Term} {x y : Int32} (hb : b.eval args s none idx s = some (.int y)) : (Term.add (.int x) b).eval args s none idx s = some (.int (x + y)) := by simp [Term.eval, hb]
theorem own_remk {args : Array Value} {s : State} {idx : List Nat} {a : Term} {x : Int32} (ha : a.eval args s none idx s = some (.int x)) : (Term.rem a (.int 10)).eval args s none idx s = some (.int (x % (10 : Int32))) := by first | (simp [Term.eval, ha]; done) | simp +decide [Term.eval, ha]
theorem own_divk {args : Array Value} {s : State} {idx : List Nat} {a : Term} {x : Int32} (ha : a.eval args s none idx s = some (.int x)) : (Term.div a (.int 10)).eval args s none idx s = some (.int (x / (10 : Int32))) := by first | (simp [Term.eval, ha]; done) | simp +decide [Term.eval, ha]
theorem own_q1 (n : Int) : n % 100 % 10 = n % 10 := by omega
theorem own_q2 (n : Int) : n % 100 / 10 = n / 10 % 10 := by omega
theorem own_q3 (n : Int) : n / 100 % 100 % 10 = n / 100 % 10 := by omega
theorem own_q4 (n : Int) : n / 100 % 100 / 10 = n / 1000 % 10 := by omega
theorem own_q5 {n : Int} (h0 : 0 ≤ n) (h : n < 10) : n % 10 = n := by omega
theorem own_q6 (n : Int) : n / 100 / 10 = n / 1000 := by omega
theorem own_q7 {n : Int} (h0 : 0 ≤ n) (h : n / 100 / 100 < 10) : n / 100 / 100 % 10 = n / 10000 := by omega
theorem own_q8 {n : Int} (h0 : 0 ≤ n) (h : n / 100 < 10) : n / 100 % 10 = n / 100 := by omega
theorem own_u3 {n : Int} (h : n / 100 < 10) : n < 1000 := by omega
theorem own_l4 {n : Int} (h : 10 ≤ n / 100) : ¬ n < 1000 := by omega
theorem own_u4 {n : Int} (h : n / 100 < 100) : n < 10000 := by omega
theorem own_l5 {n : Int} (h : ¬ n / 100 < 100) : ¬ n < 10000 := by omega
theorem own_m100 (n : Int) : 0 ≤ n % 100 ∧ n % 100 < 100 := by omega
theorem own_m10 (n : Int) : 0 ≤ n % 10 ∧ n % 10 < 10 := by omega
theorem own_nb1 {n : Int} (h : 0 ≤ n) : 0 ≤ n / 100 := by omega
theorem own_nb2 {n : Int} (h0 : 0 ≤ n) (h : n ≤ 65535) : n / 100 ≤ 65535 := by omega
theorem own_nb3 {n : Int} (h : n ≤ 65535) : n / 100 / 100 < 100 := by omega
theorem own_nb4 {n : Int} (h : n ≤ 65535) : ¬ 10 ≤ n / 100 / 100 := by omega
theorem own_nb5 {n : Int} (h : 0 ≤ n) : 0 ≤ n / 100 / 100 := by omega
theorem own_nb6 {n : Int} (h : n ≤ 65535) : n / 100 / 100 ≤ 65535 := by omega
theorem own_z5 {n : Int} (h0 : 0 ≤ n) (h : n ≤ 65535) : 0 ≤ n / 10000 ∧ n / 10000 < 10 := by omega
theorem own_ge {n a b : Int} (h : ¬ n < a) (q : b ≤ a) : ¬ n < b := by omega
theorem own_t4 {n : Int} (h0 : 0 ≤ n) (h : n < 10000) : n / 1000 % 10 = n / 1000 := by omega
theorem own_t3 {n : Int} (h0 : 0 ≤ n) (h : n < 1000) : n / 100 % 10 = n / 100 := by omega
theorem own_t2 {n : Int} (h0 : 0 ≤ n) (h : n < 100) : n / 10 % 10 = n / 10 := by omega
theorem own_le1 {cs : List Int32} {x : Int32} {n : Nat} (h : cs.length ≤ n) : (cs ++ [x]).length ≤ n + 1 := by
  rw [List.length_append]
  exact Nat.add_le_add_right h 1
def own_dg (x : Int) : Int32 := Int32.ofInt (48 + x)
theorem own_dg_of {v : Int32} {y : Int} (h : v.toInt = 48 + y) : v = own_dg y := by
  unfold own_dg
  rw [← h, Int32.ofInt_toInt]
def own_dig (n : Int32) : List Int32 := if n.toInt < 10 then [own_dg n.toInt] else if n.toInt < 100 then [own_dg (n.toInt / 10), own_dg (n.toInt % 10)] else if n.toInt < 1000 then [own_dg (n.toInt / 100), own_dg (n.toInt / 10 % 10), own_dg (n.toInt % 10)] else if n.toInt < 10000 then [own_dg (n.toInt / 1000), own_dg (n.toInt / 100 % 10), own_dg (n.toInt / 10 % 10), own_dg (n.toInt % 10)] else [own_dg (n.toInt / 10000), own_dg (n.toInt / 1000 % 10), own_dg (n.toInt / 100 % 10), own_dg (n.toInt / 10 % 10), own_dg (n.toInt % 10)]
def own_ss (n : Int32) : Int32 := if n.toInt < 10 then 1 else if n.toInt < 100 then 2 else if n.toInt < 1000 then 3 else if n.toInt < 10000 then 4 else 5
theorem own_dig1 {n : Int32} (hu : n.toInt < 10) : own_dig n = [own_dg n.toInt] := by
  unfold own_dig
  rw [if_pos hu]
theorem own_ss1 {n : Int32} (hu : n.toInt < 10) : own_ss n = 1 := by
  unfold own_ss
  rw [if_pos hu]
theorem own_dig2 {n : Int32} (hl : ¬ n.toInt < 10) (hu : n.toInt < 100) : own_dig n = [own_dg (n.toInt / 10), own_dg (n.toInt % 10)] := by
  unfold own_dig
  rw [if_neg (by omega), if_pos hu]
theorem own_ss2 {n : Int32} (hl : ¬ n.toInt < 10) (hu : n.toInt < 100) : own_ss n = 2 := by
  unfold own_ss
  rw [if_neg (by omega), if_pos hu]
theorem own_dig3 {n : Int32} (hl : ¬ n.toInt < 100) (hu : n.toInt < 1000) : own_dig n = [own_dg (n.toInt / 100), own_dg (n.toInt / 10 % 10), own_dg (n.toInt % 10)] := by
  unfold own_dig
  rw [if_neg (by omega), if_neg (by omega), if_pos hu]
theorem own_ss3 {n : Int32} (hl : ¬ n.toInt < 100) (hu : n.toInt < 1000) : own_ss n = 3 := by
  unfold own_ss
  rw [if_neg (by omega), if_neg (by omega), if_pos hu]
theorem own_dig4 {n : Int32} (hl : ¬ n.toInt < 1000) (hu : n.toInt < 10000) : own_dig n = [own_dg (n.toInt / 1000), own_dg (n.toInt / 100 % 10), own_dg (n.toInt / 10 % 10), own_dg (n.toInt % 10)] := by
  unfold own_dig
  rw [if_neg (by omega), if_neg (by omega), if_neg (by omega), if_pos hu]
theorem own_ss4 {n : Int32} (hl : ¬ n.toInt < 1000) (hu : n.toInt < 10000) : own_ss n = 4 := by
  unfold own_ss
  rw [if_neg (by omega), if_neg (by omega), if_neg (by omega), if_pos hu]
theorem own_dig5 {n : Int32} (hl : ¬ n.toInt < 10000) : own_dig n = [own_dg (n.toInt / 10000), own_dg (n.toInt / 1000 % 10), own_dg (n.toInt / 100 % 10), own_dg (n.toInt / 10 % 10), own_dg (n.toInt % 10)] := by
  unfold own_dig
  rw [if_neg (by omega), if_neg (by omega), if_neg (by omega), if_neg (by omega)]
theorem own_ss5 {n : Int32} (hl : ¬ n.toInt < 10000) : own_ss n = 5 := by
  unfold own_ss
  rw [if_neg (by omega), if_neg (by omega), if_neg (by omega), if_neg (by omega)]
theorem own_dlen (n : Int32) : (n.toInt < 10 → (own_dig n).length = 1) ∧ (¬ n.toInt < 10 → 2 ≤ (own_dig n).length) ∧ (¬ n.toInt < 100 → 3 ≤ (own_dig n).length) ∧ (¬ n.toInt < 1000 → 4 ≤ (own_dig n).length) ∧ (¬ n.toInt < 10000 → (own_dig n).length = 5) ∧ (own_dig n).length ≤ 5 ∧ (own_ss n).toInt = ((own_dig n).length : Int) := by
  unfold own_dig own_ss
  split
  · exact ⟨fun _ => rfl, by omega, by omega, by omega, by omega, by simp, rfl⟩
  · split
    · exact ⟨by omega, fun _ => Nat.le_refl _, by omega, by omega, by omega, by simp, rfl⟩
    · split
      · exact ⟨by omega, fun _ => by simp, fun _ => Nat.le_refl _, by omega, by omega, by simp, rfl⟩
      · split
        · exact ⟨by omega, fun _ => by simp, fun _ => by simp, fun _ => Nat.le_refl _, by omega, by simp, rfl⟩
        · exact ⟨by omega, fun _ => by simp, fun _ => by simp, fun _ => by simp, fun _ => rfl, by simp, rfl⟩
theorem own_dlen1 (n : Int32) : 1 ≤ (own_dig n).length := by
  have h := own_dlen n
  omega
theorem own_neg {i : Int32} {y : Int} (hi : i.toInt = y) (h1 : -65535 ≤ y) (h2 : y ≤ 65535) : (-i).toInt = -y := by
  have q := c_ineg i
  have r := rng32 (-i)
  omega
theorem own_negp {i : Int32} {y : Int} (hi : i.toInt = -y) (h0 : 0 ≤ y) (h1 : y ≤ 65535) : (-i).toInt = y := by
  have q := c_ineg i
  have r := rng32 (-i)
  omega
theorem own_n9t {i : Int32} {y : Int} (hi : i.toInt = -y) (h : i < (-9 : Int32)) : 10 ≤ y := by
  rw [Int32.lt_iff_toInt_lt] at h
  have e : (-9 : Int32).toInt = -9 := by decide
  omega
theorem own_n9f {i : Int32} {y : Int} (hi : i.toInt = -y) (h : ¬ i < (-9 : Int32)) : y < 10 := by
  rw [Int32.lt_iff_toInt_lt] at h
  have e : (-9 : Int32).toInt = -9 := by decide
  omega
theorem own_he0 {e : Int32} {a b : Nat} (h : e.toInt = (a : Int) + (b : Int)) : e.toInt = (a : Int) + (b : Int) - 0 := by omega
theorem own_decn {x y : Int32} {a b : Nat} {k k' : Int} (hx : x.toInt = (a : Int) + (b : Int) - k) (hy : y = x + (-1 : Int32)) (hc : a + b ≤ 16) (h0 : 0 ≤ k) (hb : k' ≤ (b : Int)) (hk : k' = k + 1) : y.toInt = (a : Int) + (b : Int) - k' := by
  subst hy
  have q := c_iadd x (-1 : Int32)
  have r := rng32 (x + (-1 : Int32))
  have e : (-1 : Int32).toInt = -1 := by decide
  omega
theorem own_bk {c : Int32} {a b : Nat} {k : Int} (hc : c.toInt = (a : Int) + (b : Int) - k) (hp : a + b ≤ 16) (h1 : 1 ≤ k) (hk : k ≤ (b : Int)) : ¬ c < (0 : Int32) ∧ c < (16 : Int32) := by
  simp only [Int32.lt_iff_toInt_lt]
  have e0 : (0 : Int32).toInt = 0 := by decide
  have e1 : (16 : Int32).toInt = 16 := by decide
  omega
theorem own_nI {k : Int} {a b : Nat} (h : a ≤ b) (q : k ≤ (a : Int)) : k ≤ (b : Int) := by omega
theorem own_pl {c : Int32} {a b : Nat} {k : Int} {j : Nat} (hc : c.toInt = (a : Int) + (b : Int) - k) (hb : (b : Int) - k = (j : Int)) : c.toInt = ((a + j : Nat) : Int) := by omega
theorem own_rd {i q r : Int32} {y : Int} (hi : i.toInt = -y) (h0 : 0 ≤ y) (h1 : y ≤ 65535) (hq : q = i / (100 : Int32)) (hr : r = q * (100 : Int32) - i) : q.toInt = -(y / 100) ∧ r.toInt = y % 100 := by
  subst hq
  subst hr
  have a := c_idiv i (100 : Int32) 100 (by decide) (by decide)
  have b := c_imul (i / (100 : Int32)) (100 : Int32)
  have c := c_isub ((i / (100 : Int32)) * (100 : Int32)) i
  have e : (100 : Int32).toInt = 100 := by decide
  rw [e] at b
  have r1 := rng32 ((i / (100 : Int32)) * (100 : Int32))
  have r2 := rng32 ((i / (100 : Int32)) * (100 : Int32) - i)
  have hq : (i / (100 : Int32)).toInt = -(y / 100) := by
    rcases Int.lt_or_le i.toInt 0 with z | z
    · rw [a.2 z, hi, Int.neg_neg]
    · rw [a.1 z]
      omega
  refine ⟨hq, ?_⟩
  rw [hq] at b
  omega
theorem own_one {r : Int32} {y : Int} (hr : r.toInt = y) (h0 : 0 ≤ y) (h1 : y < 100) : nar .byte ((48 : Int32) + (r % (10 : Int32))) = own_dg (y % 10) := by
  apply own_dg_of
  show ((48 : Int32) + (r % (10 : Int32))).toInt8.toInt32.toInt = _
  have a := (c_irem r (10 : Int32) 10 (by decide)).1 (by omega)
  have b := c_iadd (48 : Int32) (r % (10 : Int32))
  have c := c_i2b ((48 : Int32) + (r % (10 : Int32)))
  have d := rng32 ((48 : Int32) + (r % (10 : Int32)))
  have e : (48 : Int32).toInt = 48 := by decide
  omega
theorem own_ten {r : Int32} {y : Int} (hr : r.toInt = y) (h0 : 0 ≤ y) (h1 : y < 100) : nar .byte ((48 : Int32) + (r / (10 : Int32))) = own_dg (y / 10) := by
  apply own_dg_of
  show ((48 : Int32) + (r / (10 : Int32))).toInt8.toInt32.toInt = _
  have a := (c_idiv r (10 : Int32) 10 (by decide) (by decide)).1 (by omega)
  have b := c_iadd (48 : Int32) (r / (10 : Int32))
  have c := c_i2b ((48 : Int32) + (r / (10 : Int32)))
  have d := rng32 ((48 : Int32) + (r / (10 : Int32)))
  have e : (48 : Int32).toInt = 48 := by decide
  omega
theorem own_cmp {x k : Int32} {y b : Int} (hx : x.toInt = -y) (hk : k.toInt = -b) : k < x ↔ y < b := by
  rw [Int32.lt_iff_toInt_lt]
  omega
theorem own_dec {x : Int32} {y : Int} (hx : x.toInt = y) (h1 : 0 ≤ y) (h2 : y ≤ 100) : (x + (-1 : Int32)).toInt = y - 1 := by
  have q := c_iadd x (-1 : Int32)
  have r := rng32 (x + (-1 : Int32))
  have e : (-1 : Int32).toInt = -1 := by decide
  omega
theorem own_in16 {x : Int32} {y : Int} (hx : x.toInt = y) (h1 : 0 ≤ y) (h2 : y < 16) : ¬ x < (0 : Int32) ∧ x < (16 : Int32) := by
  simp only [Int32.lt_iff_toInt_lt]
  have e0 : (0 : Int32).toInt = 0 := by decide
  have e1 : (16 : Int32).toInt = 16 := by decide
  omega
theorem own_in100 {x : Int32} {y : Int} (hx : x.toInt = y) (h1 : 0 ≤ y) (h2 : y < 100) : ¬ x < (0 : Int32) ∧ x < (100 : Int32) := by
  simp only [Int32.lt_iff_toInt_lt]
  have e0 : (0 : Int32).toInt = 0 := by decide
  have e1 : (100 : Int32).toInt = 100 := by decide
  omega
theorem own_four (x : Int32) : (x &&& (3 : Int32)) = (0 : Int32) ∨ (x &&& (3 : Int32)) = (1 : Int32) ∨ (x &&& (3 : Int32)) = (2 : Int32) ∨ (x &&& (3 : Int32)) = (3 : Int32) := by
  have h1 := c_mask x (3 : Int32) 2 (by decide) (by decide)
  have h3 : (x &&& (3 : Int32)).toInt = 0 ∨ (x &&& (3 : Int32)).toInt = 1 ∨ (x &&& (3 : Int32)).toInt = 2 ∨ (x &&& (3 : Int32)).toInt = 3 := by omega
  rcases h3 with h | h | h | h
  · exact Or.inl (own_toInt h)
  · exact Or.inr (Or.inl (own_toInt h))
  · exact Or.inr (Or.inr (Or.inl (own_toInt h)))
  · exact Or.inr (Or.inr (Or.inr ((own_toInt h))))
def own_has (xs : List Int32) : Int32 := if (58 : Int32) ∈ xs then 1 else 0
theorem own_has0 {xs : List Int32} (h : ¬ (58 : Int32) ∈ xs) : own_has xs = 0 := if_neg h
theorem own_has1 {xs : List Int32} (h : (58 : Int32) ∈ xs) : own_has xs = 1 := if_pos h
theorem own_has_t {xs : List Int32} (h : own_has xs = (0 : Int32)) : ¬ (58 : Int32) ∈ xs := fun q => by
  rw [own_has1 q] at h
  exact absurd h (by decide)
theorem own_has_f {xs : List Int32} (h : ¬ own_has xs = (0 : Int32)) : (58 : Int32) ∈ xs := Classical.byContradiction fun q => h (own_has0 q)
def own_pre (xs : List Int32) : List Int32 := if (58 : Int32) ∈ xs then ((([] ++ [(91 : Int32)]) ++ xs) ++ [(93 : Int32), (58 : Int32)]) else (([] ++ xs) ++ [(58 : Int32)])
theorem own_pre1 {xs : List Int32} (h : (58 : Int32) ∈ xs) : own_pre xs = ((([] ++ [(91 : Int32)]) ++ xs) ++ [(93 : Int32), (58 : Int32)]) := if_pos h
theorem own_pre0 {xs : List Int32} (h : ¬ (58 : Int32) ∈ xs) : own_pre xs = (([] ++ xs) ++ [(58 : Int32)]) := if_neg h
def own_L4 (xs : List Int32) (n : Int32) : Prop := (∃ a0_, xs = [a0_] ∧ n = (1 : Int32)) ∨ (∃ a0_ a1_, xs = [a0_, a1_] ∧ n = (2 : Int32)) ∨ (∃ a0_ a1_ a2_, xs = [a0_, a1_, a2_] ∧ n = (3 : Int32)) ∨ (∃ a0_ a1_ a2_ a3_, xs = [a0_, a1_, a2_, a3_] ∧ n = (4 : Int32))
theorem own_L4.len {xs : List Int32} {n : Int32} (h : own_L4 xs n) : n.toInt = (xs.length : Int) ∧ 1 ≤ xs.length ∧ xs.length ≤ 4 := by
  rcases h with ⟨_, rfl, rfl⟩ | ⟨_, _, rfl, rfl⟩ | ⟨_, _, _, rfl, rfl⟩ | ⟨_, _, _, _, rfl, rfl⟩
  · exact ⟨rfl, by simp, by simp⟩
  · exact ⟨rfl, by simp, by simp⟩
  · exact ⟨rfl, by simp, by simp⟩
  · exact ⟨rfl, by simp, by simp⟩
theorem own_L4.nz {xs : List Int32} {n : Int32} (h : own_L4 xs n) : ¬ n = (0 : Int32) := fun q => by
  have l := h.len
  rw [q] at l
  have e : (0 : Int32).toInt = 0 := by decide
  omega
theorem own_emp0 {n : Int32} (h : ¬ n = (0 : Int32)) : own_emp n = (0 : Int32) := if_neg h
theorem own_port (x : Int32) : 0 ≤ (x &&& (65535 : Int32)).toInt ∧ (x &&& (65535 : Int32)).toInt ≤ 65535 := by
  have h := c_mask x (65535 : Int32) 16 (by decide) (by decide)
  omega
theorem own_pn {n : Int32} (h : 0 ≤ n.toInt) : ¬ n < (0 : Int32) := by
  rw [Int32.lt_iff_toInt_lt]
  have e : (0 : Int32).toInt = 0 := by decide
  omega
theorem own_pm {n : Int32} (h : n.toInt ≤ 65535) : ¬ (65535 : Int32) < n := by
  rw [Int32.lt_iff_toInt_lt]
  have e : (65535 : Int32).toInt = 65535 := by decide
  omega
theorem own_four1 (x : Int32) : ((x &&& (3 : Int32)) + (1 : Int32)) = (1 : Int32) ∨ ((x &&& (3 : Int32)) + (1 : Int32)) = (2 : Int32) ∨ ((x &&& (3 : Int32)) + (1 : Int32)) = (3 : Int32) ∨ ((x &&& (3 : Int32)) + (1 : Int32)) = (4 : Int32) := by
  rcases own_four x with h | h | h | h <;> rw [h] <;> decide
theorem own_by58 {x : Int32} (h : ¬ x < (0 : Int32) ∧ ¬ (255 : Int32) < x) : own_by (nar .char x) = (58 : Int32) ↔ x = (58 : Int32) := by
  rw [own_narI h]
  constructor
  · intro q
    have a := c_i2b x
    have e : x.toInt8.toInt32.toInt = 58 := by rw [show x.toInt8.toInt32 = (58 : Int32) from q]; decide
    obtain ⟨h1, h2⟩ := h
    simp only [Int32.lt_iff_toInt_lt] at h1 h2
    have e0 : (0 : Int32).toInt = 0 := by decide
    have e1 : (255 : Int32).toInt = 255 := by decide
    apply own_toInt
    have e2 : (58 : Int32).toInt = 58 := by decide
    omega
  · intro q
    rw [q]
    decide
theorem own_k91 : own_by (nar .char (91 : Int32)) = (91 : Int32) := by decide
theorem own_k93 : own_by (nar .char (93 : Int32)) = (93 : Int32) := by decide
theorem own_k58 : own_by (nar .char (58 : Int32)) = (58 : Int32) := by decide
theorem own_dchar {x : Int32} {y : Int} (h : x.toInt = 48 + y) (h0 : 0 ≤ y) (h1 : y < 10) : own_by (nar .char (x.toUInt32.toUInt16.toUInt32.toInt32)) = own_dg y ∧ (¬ nar .char (x.toUInt32.toUInt16.toUInt32.toInt32) < (0 : Int32) ∧ ¬ (255 : Int32) < nar .char (x.toUInt32.toUInt16.toUInt32.toInt32)) := by
  have e0 : (0 : Int32).toInt = 0 := by decide
  have e1 : (255 : Int32).toInt = 255 := by decide
  have ex : nar .char (x.toUInt32.toUInt16.toUInt32.toInt32) = x := by
    rw [own_nar_c]
    apply own_toInt
    have a := c_i2c x
    omega
  rw [ex]
  refine ⟨own_dg_of ?_, ?_⟩
  · show x.toInt8.toInt32.toInt = _
    have a := c_i2b x
    omega
  · simp only [Int32.lt_iff_toInt_lt]
    omega
theorem own_at_b {cs : List Int32} (h : ∀ c ∈ cs, ¬ c < (0 : Int32) ∧ ¬ (255 : Int32) < c) (j : Nat) : own_chr ((cs.map own_by).getD j 0) = cs.getD j 0 := by
  simp only [List.getD_eq_getElem?_getD, List.getElem?_map]
  cases q : cs[j]? with
  | none => decide
  | some x =>
    have hm := h x (List.mem_of_getElem? q)
    exact own_chr_of hm.1 hm.2
def own_AtC (Z : State) (h : Heap) (a : Addr) (i b : Int32) : Prop := ∃ c : Cell, Arr Z h a c .char ∧ ¬ (i < 0 ∨ c.slots.size ≤ i.toNatClampNeg) ∧ c.slots[i.toNatClampNeg]? = some (.int b)
theorem own_AtC.arv {Z : State} {h : Heap} {a : Addr} {k : ClassId} {n i b : Int32} {vs : List Value} {d : Value} (F : Arv Z h a k .char n vs d) (h1 : ¬ i < 0 ∧ i < n) (h2 : vs.getD i.toNatClampNeg d = .int b) : own_AtC Z h a i b := by
  obtain ⟨c, A, -, S, N, H, -⟩ := F
  exact ⟨c, A, inb_of S h1, H.at (inb_of S h1) h2⟩
theorem own_lt12 {i k : Int32} {n : Nat} (h1 : ¬ i < (0 : Int32)) (h2 : i < k) (hk : k.toInt = (n : Int)) (hn : n ≤ 12) : ¬ i < (0 : Int32) ∧ i < (12 : Int32) := by
  refine ⟨h1, ?_⟩
  rw [Int32.lt_iff_toInt_lt] at h2 ⊢
  have e : (12 : Int32).toInt = 12 := by decide
  omega
theorem own_in12 {k : Int32} {n : Nat} (hk : k.toInt = (n : Int)) (hn : n < 12) : ¬ k < (0 : Int32) ∧ k < (12 : Int32) := by
  simp only [Int32.lt_iff_toInt_lt]
  have e : (12 : Int32).toInt = 12 := by decide
  have e0 : (0 : Int32).toInt = 0 := by decide
  omega
theorem own_k1 {k : Int32} {cs : List Int32} {x : Int32} (hk : k.toInt = (cs.length : Int)) (h : cs.length ≤ 12) : (k + (1 : Int32)).toInt = ((cs ++ [x]).length : Int) := by
  rw [own_addI hk (show (1 : Int32).toInt = 1 by decide) (by omega) (by omega) (by omega) (by omega), List.length_append]
  simp
def own_EL : List (String × Nat) := [("com/example/redelivery/redelivery/settings/ListenAddress", 66), ("com/example/redelivery/redelivery/settings/ListenAddress", 81), ("com/example/redelivery/redelivery/settings/ListenAddress", 117)]
theorem own_EW (Z : State) (a0 : Array Value) (hw : ∀ d ∈ tables_1, d.before a0 Z = true) : EW Z a0 own_EL := by
  have W_ : ∀ {d : Jvm.Cond} (i : Nat), tables_1[i]? = some d → d.before a0 Z = true := fun i h => hw _ (List.mem_of_getElem? h)
  exact (EW.cons (text := "[") (W_ 250 rfl) (by decide +kernel) (EW.cons (text := ":") (W_ 69 rfl) (by decide +kernel) (EW.cons (text := "]:") (W_ 251 rfl) (by decide +kernel) EW.nil)))
theorem d16_0 : decode jdk_42_method_152_code 0 = .ok (.getstatic 38, 3) := by decide +kernel
theorem d16_3 : decode jdk_42_method_152_code 3 = .ok (.ifCond .eq 10, 3) := by decide +kernel
theorem d16_6 : decode jdk_42_method_152_code 6 = .ok (.aload_n 0, 1) := by decide +kernel
theorem d16_7 : decode jdk_42_method_152_code 7 = .ok (.getfield 15, 3) := by decide +kernel
theorem d16_10 : decode jdk_42_method_152_code 10 = .ok (.goto 4, 3) := by decide +kernel
theorem d16_14 : decode jdk_42_method_152_code 14 = .ok (.ireturn, 1) := by decide +kernel
theorem pn_java_2flang_2fString : plainName "java/lang/String" = true := by first | (simp [plainName, overriddenIn]; done) | decide +kernel
theorem ef_coder (m : MethodId) (a : Addr) : entryFrame m #[(.ref a)] 1 = mkF m 0 #[rv a] [] := by
  first | (simp [entryFrame, mkF, argsToLocals, Value.category]; done) | rfl
def Q_coder (Z : State) (a : Addr) (csz : Int32) (h0 : Heap) (n0 : Nat) (v : Option Value) (h : Heap) (L : List Loc) : Prop := v = some (.int 0) ∧ Fr n0 L ∧ h = h0
set_option maxRecDepth 65536 in
set_option maxHeartbeats 40000000 in
theorem rm_coder (l : Launch) (Z : State) (a0 : Array Value) (hw : ∀ d ∈ tables_1, d.before a0 Z = true) (ws : List Jvm.Cond) (a : Addr) (csz : Int32) (h0 : Heap) (n0 : Nat) (O0 : Old Z n0 h0) (S_CS : Sta Z Z.heap "java/lang/String" "COMPACT_STRINGS" "Z" (.int csz)) (hcs : ¬ csz = (0 : Int32)) (Fc : Fld Z h0 a "java/lang/String" "coder" "B" (.int 0)) :
    MetFree l own_y0 (head1 (Jvm.Cond.code own_y0 jdk_42_method_152_code 1 (some .byte) :: ws) ({ frames := 0, cells := 0, slots := 0, locals := 0 } : Room)) (fun aq_ Uq_ => aq_ = #[(.ref a)] ∧ Z.Warmed39 Uq_.vm ∧ Uq_.heap = h0) (fun _ _ _ _ _ => True) (fun _ Uq_ oq_ Ur_ => ∃ vq_ Lq_, oq_ = .returned vq_ ∧ Q_coder Z a csz h0 n0 vq_ Ur_.heap Lq_ ∧ FrameEnd Uq_ oq_ Ur_ Lq_ ({ frames := 0, cells := 0, slots := 0, locals := 0 } : Room).cells ({ frames := 0, cells := 0, slots := 0, locals := 0 } : Room).slots) := by
  refine MetFree.of_bodySF (plainFor_of_name pn_java_2flang_2fString) hisR ?_
  intro p e s m args below meth c s₁ Bd hml0 hP hK
  obtain ⟨rfl, hZ, hh⟩ := hP
  have W_ : ∀ {d : Jvm.Cond} (i : Nat), tables_1[i]? = some d → d.before a0 Z = true := fun i h => hw _ (List.mem_of_getElem? h)
  have hx := Bd.exec
  have hby := Bd.bytes
  have hml : c.maxLocals = 1 := hml0
  have hown : s.vm.findClass "java/lang/String" = some m.cls := findClass_of_methodNamed Bd.named
  have hnm := (name_of_methodNamed Bd.named Bd.method).1
  have X0 : Stand p l e ({ frames := 0, cells := 0, slots := 0, locals := 0 } : Room) s m #[(.ref a)] below meth c s₁ [] 0 0 := Stand.of_body Bd
  have e0 : s₁.heap = h0 := by rw [← hh, Bd.state]; rfl
  have N0 := Fr.nil n0
  have K0 := Keep.refl h0 []
  refine own_G.start (Q := Q_coder Z a csz h0 n0) (ef_coder m a) ?_
  obtain ⟨T1, X1, e1, st1⟩ := getS2 X0 hx hZ hown (host := "") (Or.inl (W_ 19 rfl)) Via.refl e0 (Sta.ext O0.2 S_CS) (g := (mkF m 0 #[rv a] [])) rfl (hb hby d16_0)
  refine own_G.st (T' := T1) 3 [(.int csz)] st1 ?_
  have hc3 : ¬ (csz = (0 : Int32)) := hcs
  refine own_G.sk 6 [] (fun _ kq => XS.ifNo X1.here hx rfl (hb hby d16_3) rfl ((if0 _ _).trans (feq hc3).1) kq) ?_
  refine own_G.sk 7 [(.ref a)] (fun _ kq => XS.aloadN X1.here hx rfl (hb hby d16_6) rfl rfl kq) ?_
  obtain ⟨T2, X2, e2, st2⟩ := getF X1 hx hZ hown (host := "") (Or.inl (W_ 31 rfl)) Via.refl e1 Fc (g := (mkF m 7 #[rv a] [(.ref a)])) rfl rfl (hb hby d16_7)
  refine own_G.st (T' := T2) 10 [(.int 0)] st2 ?_
  refine own_G.sk 14 [(.int 0)] (fun _ kq => XS.goto X2.here hx rfl (pc0 := 10) (pc' := 14) rfl (hb hby d16_10) (by decide) (by decide) kq) ?_
  exact own_ret X2 e2 (v := some (.int (nar .byte (0 : Int32)))) (fun h => by rw [Bd.returns] at h; cases h) Bd.notSynchronized ⟨rfl, N0, rfl⟩ (by decide) (by decide) (fun fs hr => retN X2 hx (t := .byte) Bd.returns (by simp) (hb hby d16_14) hr)
theorem d17_0 : decode jdk_42_method_154_code 0 = .ok (.getstatic 38, 3) := by decide +kernel
theorem d17_3 : decode jdk_42_method_154_code 3 = .ok (.ifCond .eq 14, 3) := by decide +kernel
theorem d17_6 : decode jdk_42_method_154_code 6 = .ok (.aload_n 0, 1) := by decide +kernel
theorem d17_7 : decode jdk_42_method_154_code 7 = .ok (.getfield 15, 3) := by decide +kernel
theorem d17_10 : decode jdk_42_method_154_code 10 = .ok (.ifCond .ne 7, 3) := by decide +kernel
theorem d17_13 : decode jdk_42_method_154_code 13 = .ok (.iconst 1, 1) := by decide +kernel
theorem d17_14 : decode jdk_42_method_154_code 14 = .ok (.goto 4, 3) := by decide +kernel
theorem d17_18 : decode jdk_42_method_154_code 18 = .ok (.ireturn, 1) := by decide +kernel
theorem ef_isLat (m : MethodId) (a : Addr) : entryFrame m #[(.ref a)] 1 = mkF m 0 #[rv a] [] := by
  first | (simp [entryFrame, mkF, argsToLocals, Value.category]; done) | rfl
def Q_isLat (Z : State) (a : Addr) (csz : Int32) (h0 : Heap) (n0 : Nat) (v : Option Value) (h : Heap) (L : List Loc) : Prop := v = some (.int 1) ∧ Fr n0 L ∧ h = h0
set_option maxRecDepth 65536 in
set_option maxHeartbeats 40000000 in
theorem rm_isLat (l : Launch) (Z : State) (a0 : Array Value) (hw : ∀ d ∈ tables_1, d.before a0 Z = true) (ws : List Jvm.Cond) (a : Addr) (csz : Int32) (h0 : Heap) (n0 : Nat) (O0 : Old Z n0 h0) (S_CS : Sta Z Z.heap "java/lang/String" "COMPACT_STRINGS" "Z" (.int csz)) (hcs : ¬ csz = (0 : Int32)) (Fc : Fld Z h0 a "java/lang/String" "coder" "B" (.int 0)) :
    MetFree l own_y1 (head1 (Jvm.Cond.code own_y1 jdk_42_method_154_code 1 (some .boolean) :: ws) ({ frames := 0, cells := 0, slots := 0, locals := 0 } : Room)) (fun aq_ Uq_ => aq_ = #[(.ref a)] ∧ Z.Warmed39 Uq_.vm ∧ Uq_.heap = h0) (fun _ _ _ _ _ => True) (fun _ Uq_ oq_ Ur_ => ∃ vq_ Lq_, oq_ = .returned vq_ ∧ Q_isLat Z a csz h0 n0 vq_ Ur_.heap Lq_ ∧ FrameEnd Uq_ oq_ Ur_ Lq_ ({ frames := 0, cells := 0, slots := 0, locals := 0 } : Room).cells ({ frames := 0, cells := 0, slots := 0, locals := 0 } : Room).slots) := by
  refine MetFree.of_bodySF (plainFor_of_name pn_java_2flang_2fString) hisR ?_
  intro p e s m args below meth c s₁ Bd hml0 hP hK
  obtain ⟨rfl, hZ, hh⟩ := hP
  have W_ : ∀ {d : Jvm.Cond} (i : Nat), tables_1[i]? = some d → d.before a0 Z = true := fun i h => hw _ (List.mem_of_getElem? h)
  have hx := Bd.exec
  have hby := Bd.bytes
  have hml : c.maxLocals = 1 := hml0
  have hown : s.vm.findClass "java/lang/String" = some m.cls := findClass_of_methodNamed Bd.named
  have hnm := (name_of_methodNamed Bd.named Bd.method).1
  have X0 : Stand p l e ({ frames := 0, cells := 0, slots := 0, locals := 0 } : Room) s m #[(.ref a)] below meth c s₁ [] 0 0 := Stand.of_body Bd
  have e0 : s₁.heap = h0 := by rw [← hh, Bd.state]; rfl
  have N0 := Fr.nil n0
  have K0 := Keep.refl h0 []
  refine own_G.start (Q := Q_isLat Z a csz h0 n0) (ef_isLat m a) ?_
  obtain ⟨T1, X1, e1, st1⟩ := getS2 X0 hx hZ hown (host := "") (Or.inl (W_ 19 rfl)) Via.refl e0 (Sta.ext O0.2 S_CS) (g := (mkF m 0 #[rv a] [])) rfl (hb hby d17_0)
  refine own_G.st (T' := T1) 3 [(.int csz)] st1 ?_
  have hc3 : ¬ (csz = (0 : Int32)) := hcs
  refine own_G.sk 6 [] (fun _ kq => XS.ifNo X1.here hx rfl (hb hby d17_3) rfl ((if0 _ _).trans (feq hc3).1) kq) ?_
  refine own_G.sk 7 [(.ref a)] (fun _ kq => XS.aloadN X1.here hx rfl (hb hby d17_6) rfl rfl kq) ?_
  obtain ⟨T2, X2, e2, st2⟩ := getF X1 hx hZ hown (host := "") (Or.inl (W_ 31 rfl)) Via.refl e1 Fc (g := (mkF m 7 #[rv a] [(.ref a)])) rfl rfl (hb hby d17_7)
  refine own_G.st (T' := T2) 10 [(.int 0)] st2 ?_
  have hc10 : (0 : Int32) = (0 : Int32) := rfl
  refine own_G.sk 13 [] (fun _ kq => XS.ifNo X2.here hx rfl (hb hby d17_10) rfl ((if0 _ _).trans (teq hc10).2) kq) ?_
  refine own_G.sk 14 [(.int 1)] (fun _ kq => XS.iconst X2.here hx rfl (hb hby d17_13) kq) ?_
  refine own_G.sk 18 [(.int 1)] (fun _ kq => XS.goto X2.here hx rfl (pc0 := 14) (pc' := 18) rfl (hb hby d17_14) (by decide) (by decide) kq) ?_
  exact own_ret X2 e2 (v := some (.int 1)) (fun h => by rw [Bd.returns] at h; cases h) Bd.notSynchronized ⟨rfl, N0, rfl⟩ (by decide) (by decide) (fun fs hr => retN X2 hx (t := .boolean) Bd.returns (by simp) (hb hby d17_18) hr)
theorem pd__28_29B : parseMethodDescriptor "()B" = some ⟨[], some .byte⟩ := by decide +kernel
theorem d24_0 : decode jdk_42_method_54_code 0 = .ok (.aload_n 0, 1) := by decide +kernel
theorem d24_1 : decode jdk_42_method_54_code 1 = .ok (.getfield 9, 3) := by decide +kernel
theorem d24_4 : decode jdk_42_method_54_code 4 = .ok (.arraylength, 1) := by decide +kernel
theorem d24_5 : decode jdk_42_method_54_code 5 = .ok (.aload_n 0, 1) := by decide +kernel
theorem d24_6 : decode jdk_42_method_54_code 6 = .ok (.invokevirtual 335, 3) := by decide +kernel
theorem d24_9 : decode jdk_42_method_54_code 9 = .ok (.ishr, 1) := by decide +kernel
theorem d24_10 : decode jdk_42_method_54_code 10 = .ok (.ireturn, 1) := by decide +kernel
theorem ef_strlen (m : MethodId) (a : Addr) : entryFrame m #[(.ref a)] 1 = mkF m 0 #[rv a] [] := by
  first | (simp [entryFrame, mkF, argsToLocals, Value.category]; done) | rfl
def Q_strlen (Z : State) (a : Addr) (csz : Int32) (t : Addr) (n : Int32) (h0 : Heap) (n0 : Nat) (v : Option Value) (h : Heap) (L : List Loc) : Prop := v = some (.int n) ∧ Fr n0 L ∧ h = h0
set_option maxRecDepth 65536 in
set_option maxHeartbeats 40000000 in
theorem rm_strlen (l : Launch) (Z : State) (a0 : Array Value) (hw : ∀ d ∈ tables_1, d.before a0 Z = true) (ws : List Jvm.Cond) (a : Addr) (csz : Int32) (t : Addr) (n : Int32) (h0 : Heap) (n0 : Nat) (O0 : Old Z n0 h0) (S_CS : Sta Z Z.heap "java/lang/String" "COMPACT_STRINGS" "Z" (.int csz)) (hcs : ¬ csz = (0 : Int32)) (Fc : Fld Z h0 a "java/lang/String" "coder" "B" (.int 0)) (Fv : Fld Z h0 a "java/lang/String" "value" "[B" (.ref t)) (LN : own_Len Z h0 t n) (Ea : Exa Z h0 a "java/lang/String") :
    MetFree l own_y2 (head1 (Jvm.Cond.code own_y2 jdk_42_method_54_code 1 (some .int) :: ws) ({ frames := 1, cells := 0, slots := 0, locals := 13 } : Room)) (fun aq_ Uq_ => aq_ = #[(.ref a)] ∧ Z.Warmed39 Uq_.vm ∧ Uq_.heap = h0) (fun _ _ _ _ _ => True) (fun _ Uq_ oq_ Ur_ => ∃ vq_ Lq_, oq_ = .returned vq_ ∧ Q_strlen Z a csz t n h0 n0 vq_ Ur_.heap Lq_ ∧ FrameEnd Uq_ oq_ Ur_ Lq_ ({ frames := 1, cells := 0, slots := 0, locals := 13 } : Room).cells ({ frames := 1, cells := 0, slots := 0, locals := 13 } : Room).slots) := by
  refine MetFree.of_bodySF (plainFor_of_name pn_java_2flang_2fString) hisR ?_
  intro p e s m args below meth c s₁ Bd hml0 hP hK
  obtain ⟨rfl, hZ, hh⟩ := hP
  have W_ : ∀ {d : Jvm.Cond} (i : Nat), tables_1[i]? = some d → d.before a0 Z = true := fun i h => hw _ (List.mem_of_getElem? h)
  have hx := Bd.exec
  have hby := Bd.bytes
  have hml : c.maxLocals = 1 := hml0
  have hown : s.vm.findClass "java/lang/String" = some m.cls := findClass_of_methodNamed Bd.named
  have hnm := (name_of_methodNamed Bd.named Bd.method).1
  have X0 : Stand p l e ({ frames := 1, cells := 0, slots := 0, locals := 13 } : Room) s m #[(.ref a)] below meth c s₁ [] 0 0 := Stand.of_body Bd
  have e0 : s₁.heap = h0 := by rw [← hh, Bd.state]; rfl
  have N0 := Fr.nil n0
  have K0 := Keep.refl h0 []
  refine own_G.start (Q := Q_strlen Z a csz t n h0 n0) (ef_strlen m a) ?_
  refine own_G.sk 1 [(.ref a)] (fun _ kq => XS.aloadN X0.here hx rfl (hb hby d24_0) rfl rfl kq) ?_
  obtain ⟨T1, X1, e1, st1⟩ := getF X0 hx hZ hown (host := "") (Or.inl (W_ 33 rfl)) Via.refl e0 Fv (g := (mkF m 1 #[rv a] [(.ref a)])) rfl rfl (hb hby d24_1)
  refine own_G.st (T' := T1) 4 [(.ref t)] st1 ?_
  obtain ⟨cl2, ty2, Ar2, Sz2, Nz2⟩ := id LN
  refine own_G.step (g' := (mkF m 5 #[rv a] [(.int n)])) (fun tq_ kq_ => X1.arraylength hx (by rw [e1]; exact Ar2.1) (State.isArrayOf_alike hZ.alike Ar2.2.1) (g := (mkF m 4 #[rv a] [(.ref t)])) rfl rfl (hb hby d24_4) _ (by rw [len_of Sz2 Nz2]; exact kq_)) ?_
  refine own_G.sk 6 [(.ref a), (.int n)] (fun _ kq => XS.aloadN X1.here hx rfl (hb hby d24_5) rfl rfl kq) ?_
  obtain ⟨cq3, kq3, q3a, q3b, q3c⟩ := isOf hZ e1 Ea
  obtain ⟨_, _, ⟨T3, L3, k3, n3⟩, -, X3, ⟨Lc3, hQ3, l3, y3, z3⟩, st3⟩ := X1.virtualBack hx (y := own_y0) (z := own_y0) hown (mvT hZ (W_ 89 rfl)) (mvT hZ (W_ 90 rfl)) (notFace_of_selects (args := #[]) (mvT hZ (W_ 92 rfl))) (mvT hZ (W_ 92 rfl)) (mvT hZ (W_ 91 rfl)) (by decide) (backOf (W := 1) (rm_coder l Z a0 hw [] a csz h0 n0 O0 S_CS hcs Fc) hZ (W_ 93 rfl) (W_ 8 rfl) (by decide) (by decide)) q3a q3c (g := (mkF m 6 #[rv a] [(.ref a), (.int n)])) rfl (by rw [hml]; rfl) (Steps.refl _) (argsL := []) (rest := [(.int n)]) (lenOf pd__28_29B rfl) rfl (by show 2 * 0 + _ ≤ _; exact Nat.le_of_eq rfl) (hb hby d24_6) (fun _ _ => ⟨rfl, e1, (by decide : 0 + 0 ≤ _), (by decide : 0 + 0 ≤ _)⟩)
  dsimp only [Pt.U, Pt.locs, Pt.cells, Pt.slots] at X3 l3 y3 z3 st3 hQ3
  subst l3 y3 z3
  obtain ⟨rfl, Nq3, P4⟩ := hQ3
  have N3 := Fr.app N0 Nq3
  refine own_G.st (T' := T3) 9 [(.int 0), (.int n)] (fun _ kq => st3.trans kq) ?_
  refine own_G.sk 10 [(.int (n >>> ((0 : Int32) &&& 31)))] (fun _ kq => XS.ishr X3.here hx rfl (hb hby d24_9) rfl kq) ?_
  exact own_ret X3 P4 (v := some (.int (n >>> ((0 : Int32) &&& 31)))) (fun h => by rw [Bd.returns] at h; cases h) Bd.notSynchronized ⟨(by rw [own_shr0]), N3, rfl⟩ (by decide) (by decide) (fun fs hr => retI X3 hx Bd.returns (hb hby d24_10) hr)
theorem d11_0 : decode jdk_42_method_55_code 0 = .ok (.aload_n 0, 1) := by decide +kernel
theorem d11_1 : decode jdk_42_method_55_code 1 = .ok (.getfield 9, 3) := by decide +kernel
theorem d11_4 : decode jdk_42_method_55_code 4 = .ok (.arraylength, 1) := by decide +kernel
theorem d11_5 : decode jdk_42_method_55_code 5 = .ok (.ifCond .ne 7, 3) := by decide +kernel
theorem d11_8 : decode jdk_42_method_55_code 8 = .ok (.iconst 1, 1) := by decide +kernel
theorem d11_9 : decode jdk_42_method_55_code 9 = .ok (.goto 4, 3) := by decide +kernel
theorem d11_12 : decode jdk_42_method_55_code 12 = .ok (.iconst 0, 1) := by decide +kernel
theorem d11_13 : decode jdk_42_method_55_code 13 = .ok (.ireturn, 1) := by decide +kernel
theorem ef_isEmp (m : MethodId) (a : Addr) : entryFrame m #[(.ref a)] 1 = mkF m 0 #[rv a] [] := by
  first | (simp [entryFrame, mkF, argsToLocals, Value.category]; done) | rfl
def Q_isEmp (Z : State) (a : Addr) (t : Addr) (n : Int32) (h0 : Heap) (n0 : Nat) (v : Option Value) (h : Heap) (L : List Loc) : Prop := v = some (.int (own_emp n)) ∧ Fr n0 L ∧ h = h0
set_option maxRecDepth 65536 in
set_option maxHeartbeats 40000000 in
theorem rm_isEmp (l : Launch) (Z : State) (a0 : Array Value) (hw : ∀ d ∈ tables_1, d.before a0 Z = true) (ws : List Jvm.Cond) (a : Addr) (t : Addr) (n : Int32) (h0 : Heap) (n0 : Nat) (O0 : Old Z n0 h0) (Fv : Fld Z h0 a "java/lang/String" "value" "[B" (.ref t)) (LN : own_Len Z h0 t n) :
    MetFree l own_y3 (head1 (Jvm.Cond.code own_y3 jdk_42_method_55_code 1 (some .boolean) :: ws) ({ frames := 0, cells := 0, slots := 0, locals := 0 } : Room)) (fun aq_ Uq_ => aq_ = #[(.ref a)] ∧ Z.Warmed39 Uq_.vm ∧ Uq_.heap = h0) (fun _ _ _ _ _ => True) (fun _ Uq_ oq_ Ur_ => ∃ vq_ Lq_, oq_ = .returned vq_ ∧ Q_isEmp Z a t n h0 n0 vq_ Ur_.heap Lq_ ∧ FrameEnd Uq_ oq_ Ur_ Lq_ ({ frames := 0, cells := 0, slots := 0, locals := 0 } : Room).cells ({ frames := 0, cells := 0, slots := 0, locals := 0 } : Room).slots) := by
  refine MetFree.of_bodySF (plainFor_of_name pn_java_2flang_2fString) hisR ?_
  intro p e s m args below meth c s₁ Bd hml0 hP hK
  obtain ⟨rfl, hZ, hh⟩ := hP
  have W_ : ∀ {d : Jvm.Cond} (i : Nat), tables_1[i]? = some d → d.before a0 Z = true := fun i h => hw _ (List.mem_of_getElem? h)
  have hx := Bd.exec
  have hby := Bd.bytes
  have hml : c.maxLocals = 1 := hml0
  have hown : s.vm.findClass "java/lang/String" = some m.cls := findClass_of_methodNamed Bd.named
  have hnm := (name_of_methodNamed Bd.named Bd.method).1
  have X0 : Stand p l e ({ frames := 0, cells := 0, slots := 0, locals := 0 } : Room) s m #[(.ref a)] below meth c s₁ [] 0 0 := Stand.of_body Bd
  have e0 : s₁.heap = h0 := by rw [← hh, Bd.state]; rfl
  have N0 := Fr.nil n0
  have K0 := Keep.refl h0 []
  refine own_G.start (Q := Q_isEmp Z a t n h0 n0) (ef_isEmp m a) ?_
  refine own_G.sk 1 [(.ref a)] (fun _ kq => XS.aloadN X0.here hx rfl (hb hby d11_0) rfl rfl kq) ?_
  obtain ⟨T1, X1, e1, st1⟩ := getF X0 hx hZ hown (host := "") (Or.inl (W_ 33 rfl)) Via.refl e0 Fv (g := (mkF m 1 #[rv a] [(.ref a)])) rfl rfl (hb hby d11_1)
  refine own_G.st (T' := T1) 4 [(.ref t)] st1 ?_
  obtain ⟨cl2, ty2, Ar2, Sz2, Nz2⟩ := id LN
  refine own_G.step (g' := (mkF m 5 #[rv a] [(.int n)])) (fun tq_ kq_ => X1.arraylength hx (by rw [e1]; exact Ar2.1) (State.isArrayOf_alike hZ.alike Ar2.2.1) (g := (mkF m 4 #[rv a] [(.ref t)])) rfl rfl (hb hby d11_4) _ (by rw [len_of Sz2 Nz2]; exact kq_)) ?_
  rcases Classical.em (n = (0 : Int32)) with hc5 | hc5
  · refine own_G.sk 8 [] (fun _ kq => XS.ifNo X1.here hx rfl (hb hby d11_5) rfl ((if0 _ _).trans (teq hc5).2) kq) ?_
    refine own_G.sk 9 [(.int 1)] (fun _ kq => XS.iconst X1.here hx rfl (hb hby d11_8) kq) ?_
    refine own_G.sk 13 [(.int 1)] (fun _ kq => XS.goto X1.here hx rfl (pc0 := 9) (pc' := 13) rfl (hb hby d11_9) (by decide) (by decide) kq) ?_
    exact own_ret X1 e1 (v := some (.int 1)) (fun h => by rw [Bd.returns] at h; cases h) Bd.notSynchronized ⟨(by simp [own_emp, hc5]), N0, rfl⟩ (by decide) (by decide) (fun fs hr => retN X1 hx (t := .boolean) Bd.returns (by simp) (hb hby d11_13) hr)
  · refine own_G.sk 12 [] (fun _ kq => XS.ifYes X1.here hx rfl (pc0 := 5) (pc' := 12) rfl (hb hby d11_5) rfl ((if0 _ _).trans (feq hc5).2) (by decide) (by decide) kq) ?_
    refine own_G.sk 13 [(.int 0)] (fun _ kq => XS.iconst X1.here hx rfl (hb hby d11_12) kq) ?_
    exact own_ret X1 e1 (v := some (.int 0)) (fun h => by rw [Bd.returns] at h; cases h) Bd.notSynchronized ⟨(by simp [own_emp, hc5]), N0, rfl⟩ (by decide) (by decide) (fun fs hr => retN X1 hx (t := .boolean) Bd.returns (by simp) (hb hby d11_13) hr)
theorem d48_0 : decode jdk_41_method_11_code 0 = .ok (.iload_n 0, 1) := by decide +kernel
theorem d48_1 : decode jdk_41_method_11_code 1 = .ok (.ifCond .lt 8, 3) := by decide +kernel
theorem d48_4 : decode jdk_41_method_11_code 4 = .ok (.iload_n 0, 1) := by decide +kernel
theorem d48_5 : decode jdk_41_method_11_code 5 = .ok (.iload_n 1, 1) := by decide +kernel
theorem d48_6 : decode jdk_41_method_11_code 6 = .ok (.if_icmp .lt 10, 3) := by decide +kernel
theorem d48_16 : decode jdk_41_method_11_code 16 = .ok (.iload_n 0, 1) := by decide +kernel
theorem d48_17 : decode jdk_41_method_11_code 17 = .ok (.ireturn, 1) := by decide +kernel
theorem pn_jdk_2finternal_2futil_2fPreconditions : plainName "jdk/internal/util/Preconditions" = true := by first | (simp [plainName, overriddenIn]; done) | decide +kernel
theorem ef_pchk (m : MethodId) (i : Int32) (n : Int32) (f : Value) (rf : f.isRef = true) : entryFrame m #[(.int i), (.int n), f] 3 = mkF m 0 #[iv i, iv n, .val f] [] := by
  rcases ref_cases rf with rfl | ⟨z, rfl⟩ <;> first | (simp [entryFrame, mkF, argsToLocals, Value.category]; done) | rfl
def Q_pchk (Z : State) (i : Int32) (n : Int32) (f : Value) (h0 : Heap) (n0 : Nat) (v : Option Value) (h : Heap) (L : List Loc) : Prop := v = some (.int i) ∧ Fr n0 L ∧ h = h0
set_option maxRecDepth 65536 in
set_option maxHeartbeats 40000000 in
theorem rm_pchk (l : Launch) (Z : State) (a0 : Array Value) (hw : ∀ d ∈ tables_1, d.before a0 Z = true) (ws : List Jvm.Cond) (i : Int32) (n : Int32) (f : Value) (h0 : Heap) (n0 : Nat) (O0 : Old Z n0 h0) (rf : f.isRef = true) (h1 : ¬ i < (0 : Int32)) (h2 : i < n) :
    MetFree l own_y4 (head1 (Jvm.Cond.code own_y4 jdk_41_method_11_code 3 (some .int) :: ws) ({ frames := 0, cells := 0, slots := 0, locals := 0 } : Room)) (fun aq_ Uq_ => aq_ = #[(.int i), (.int n), f] ∧ Z.Warmed39 Uq_.vm ∧ Uq_.heap = h0) (fun _ _ _ _ _ => True) (fun _ Uq_ oq_ Ur_ => ∃ vq_ Lq_, oq_ = .returned vq_ ∧ Q_pchk Z i n f h0 n0 vq_ Ur_.heap Lq_ ∧ FrameEnd Uq_ oq_ Ur_ Lq_ ({ frames := 0, cells := 0, slots := 0, locals := 0 } : Room).cells ({ frames := 0, cells := 0, slots := 0, locals := 0 } : Room).slots) := by
  refine MetFree.of_bodySF (plainFor_of_name pn_jdk_2finternal_2futil_2fPreconditions) hisR ?_
  intro p e s m args below meth c s₁ Bd hml0 hP hK
  obtain ⟨rfl, hZ, hh⟩ := hP
  have W_ : ∀ {d : Jvm.Cond} (i : Nat), tables_1[i]? = some d → d.before a0 Z = true := fun i h => hw _ (List.mem_of_getElem? h)
  have hx := Bd.exec
  have hby := Bd.bytes
  have hml : c.maxLocals = 3 := hml0
  have hown : s.vm.findClass "jdk/internal/util/Preconditions" = some m.cls := findClass_of_methodNamed Bd.named
  have hnm := (name_of_methodNamed Bd.named Bd.method).1
  have X0 : Stand p l e ({ frames := 0, cells := 0, slots := 0, locals := 0 } : Room) s m #[(.int i), (.int n), f] below meth c s₁ [] 0 0 := Stand.of_body Bd
  have e0 : s₁.heap = h0 := by rw [← hh, Bd.state]; rfl
  have N0 := Fr.nil n0
  have K0 := Keep.refl h0 []
  refine own_G.start (Q := Q_pchk Z i n f h0 n0) (ef_pchk m i n f rf) ?_
  refine own_G.sk 1 [(.int i)] (fun _ kq => XS.iloadN X0.here hx rfl (hb hby d48_0) rfl kq) ?_
  have hc1 : ¬ (i < (0 : Int32)) := h1
  refine own_G.sk 4 [] (fun _ kq => XS.ifNo X0.here hx rfl (hb hby d48_1) rfl ((if0 _ _).trans (flt hc1).1) kq) ?_
  refine own_G.sk 5 [(.int i)] (fun _ kq => XS.iloadN X0.here hx rfl (hb hby d48_4) rfl kq) ?_
  refine own_G.sk 6 [(.int n), (.int i)] (fun _ kq => XS.iloadN X0.here hx rfl (hb hby d48_5) rfl kq) ?_
  have hc6 : i < n := h2
  refine own_G.sk 16 [] (fun _ kq => XS.icmpYes X0.here hx rfl (pc0 := 6) (pc' := 16) rfl (hb hby d48_6) rfl (tlt hc6).1 (by decide) (by decide) kq) ?_
  refine own_G.sk 17 [(.int i)] (fun _ kq => XS.iloadN X0.here hx rfl (hb hby d48_16) rfl kq) ?_
  exact own_ret X0 e0 (v := some (.int i)) (fun h => by rw [Bd.returns] at h; cases h) Bd.notSynchronized ⟨rfl, N0, rfl⟩ (by decide) (by decide) (fun fs hr => retI X0 hx Bd.returns (hb hby d48_17) hr)
theorem pd__28IILjava_2futil_2ffunction_2fBiFunction_3b_29I : parseMethodDescriptor "(IILjava/util/function/BiFunction;)I" = some ⟨[.int, .int, (.object "java/util/function/BiFunction")], some .int⟩ := by decide +kernel
theorem d47_0 : decode jdk_42_method_155_code 0 = .ok (.iload_n 0, 1) := by decide +kernel
theorem d47_1 : decode jdk_42_method_155_code 1 = .ok (.iload_n 1, 1) := by decide +kernel
theorem d47_2 : decode jdk_42_method_155_code 2 = .ok (.getstatic 1053, 3) := by decide +kernel
theorem d47_5 : decode jdk_42_method_155_code 5 = .ok (.invokestatic 1059, 3) := by decide +kernel
theorem d47_8 : decode jdk_42_method_155_code 8 = .ok (.pop, 1) := by decide +kernel
theorem d47_9 : decode jdk_42_method_155_code 9 = .ok (.return_, 1) := by decide +kernel
theorem ef_schk (m : MethodId) (i : Int32) (n : Int32) : entryFrame m #[(.int i), (.int n)] 2 = mkF m 0 #[iv i, iv n] [] := by
  first | (simp [entryFrame, mkF, argsToLocals, Value.category]; done) | rfl
def Q_schk (Z : State) (i : Int32) (n : Int32) (fm : Value) (h0 : Heap) (n0 : Nat) (v : Option Value) (h : Heap) (L : List Loc) : Prop := v = none ∧ Fr n0 L ∧ h = h0
set_option maxRecDepth 65536 in
set_option maxHeartbeats 40000000 in
theorem rm_schk (l : Launch) (Z : State) (a0 : Array Value) (hw : ∀ d ∈ tables_1, d.before a0 Z = true) (ws : List Jvm.Cond) (i : Int32) (n : Int32) (fm : Value) (h0 : Heap) (n0 : Nat) (O0 : Old Z n0 h0) (S_IO : Sta Z Z.heap "jdk/internal/util/Preconditions" "SIOOBE_FORMATTER" "Ljava/util/function/BiFunction;" fm) (hio : fm.isRef = true) (h1 : ¬ i < (0 : Int32)) (h2 : i < n) :
    MetFree l own_y5 (head1 (Jvm.Cond.code own_y5 jdk_42_method_155_code 2 none :: ws) ({ frames := 1, cells := 0, slots := 0, locals := 14 } : Room)) (fun aq_ Uq_ => aq_ = #[(.int i), (.int n)] ∧ Z.Warmed39 Uq_.vm ∧ Uq_.heap = h0) (fun _ _ _ _ _ => True) (fun _ Uq_ oq_ Ur_ => ∃ vq_ Lq_, oq_ = .returned vq_ ∧ Q_schk Z i n fm h0 n0 vq_ Ur_.heap Lq_ ∧ FrameEnd Uq_ oq_ Ur_ Lq_ ({ frames := 1, cells := 0, slots := 0, locals := 14 } : Room).cells ({ frames := 1, cells := 0, slots := 0, locals := 14 } : Room).slots) := by
  refine MetFree.of_bodySF (plainFor_of_name pn_java_2flang_2fString) hisR ?_
  intro p e s m args below meth c s₁ Bd hml0 hP hK
  obtain ⟨rfl, hZ, hh⟩ := hP
  have W_ : ∀ {d : Jvm.Cond} (i : Nat), tables_1[i]? = some d → d.before a0 Z = true := fun i h => hw _ (List.mem_of_getElem? h)
  have hx := Bd.exec
  have hby := Bd.bytes
  have hml : c.maxLocals = 2 := hml0
  have hown : s.vm.findClass "java/lang/String" = some m.cls := findClass_of_methodNamed Bd.named
  have hnm := (name_of_methodNamed Bd.named Bd.method).1
  have X0 : Stand p l e ({ frames := 1, cells := 0, slots := 0, locals := 14 } : Room) s m #[(.int i), (.int n)] below meth c s₁ [] 0 0 := Stand.of_body Bd
  have e0 : s₁.heap = h0 := by rw [← hh, Bd.state]; rfl
  have N0 := Fr.nil n0
  have K0 := Keep.refl h0 []
  refine own_G.start (Q := Q_schk Z i n fm h0 n0) (ef_schk m i n) ?_
  refine own_G.sk 1 [(.int i)] (fun _ kq => XS.iloadN X0.here hx rfl (hb hby d47_0) rfl kq) ?_
  refine own_G.sk 2 [(.int n), (.int i)] (fun _ kq => XS.iloadN X0.here hx rfl (hb hby d47_1) rfl kq) ?_
  obtain ⟨T1, X1, e1, st1⟩ := getS2 X0 hx hZ hown (host := "") (Or.inl (W_ 244 rfl)) Via.refl e0 (Sta.ext O0.2 S_IO) (g := (mkF m 2 #[iv i, iv n] [(.int n), (.int i)])) rfl (hb hby d47_2)
  refine own_G.st (T' := T1) 5 [fm, (.int n), (.int i)] st1 ?_
  obtain ⟨_, _, ⟨T2, L2, k2, n2⟩, -, X2, ⟨Lc2, hQ2, l2, y2, z2⟩, st2⟩ := Jvm.LawKit.callS X1 hx (y := own_y4) hown (mvT hZ (W_ 246 rfl)) (mvT hZ (W_ 247 rfl)) (mvT hZ (W_ 245 rfl)) (mvT hZ (W_ 248 rfl)) (by decide) (backOf (W := 0) (rm_pchk l Z a0 hw [] i n fm h0 n0 O0 hio h1 h2) hZ (W_ 248 rfl) (W_ 245 rfl) (by decide) (by decide)) (g := (mkF m 5 #[iv i, iv n] [fm, (.int n), (.int i)])) rfl (by rw [hml]; rfl) (argsL := [(.int i), (.int n), fm]) (rest := []) (lenOf pd__28IILjava_2futil_2ffunction_2fBiFunction_3b_29I rfl) rfl (by show 2 * 0 + _ ≤ _; exact Nat.le_of_eq rfl) (hb hby d47_5) (fun _ _ => ⟨rfl, e1, (by decide : 0 + 0 ≤ _), (by decide : 0 + 0 ≤ _)⟩)
  dsimp only [Pt.U, Pt.locs, Pt.cells, Pt.slots] at X2 l2 y2 z2 st2 hQ2
  subst l2 y2 z2
  obtain ⟨rfl, Nq2, P3⟩ := hQ2
  have N2 := Fr.app N0 Nq2
  refine own_G.st (T' := T2) 8 [(.int i)] (fun _ kq => st2 _ kq) ?_
  refine own_G.sk 9 [] (fun _ kq => XS.pop X2.here hx rfl (hb hby d47_8) rfl rfl kq) ?_
  exact own_ret X2 P3 (v := none) (fun _ => rfl) Bd.notSynchronized ⟨rfl, N2, rfl⟩ (by decide) (by decide) (fun fs hr => X2.returnOut hx Bd.returns (hb hby d47_9) hr)
theorem pd__28II_29V : parseMethodDescriptor "(II)V" = some ⟨[.int, .int], none⟩ := by decide +kernel
theorem d46_0 : decode jdk_43_method_2_code 0 = .ok (.iload_n 1, 1) := by decide +kernel
theorem d46_1 : decode jdk_43_method_2_code 1 = .ok (.aload_n 0, 1) := by decide +kernel
theorem d46_2 : decode jdk_43_method_2_code 2 = .ok (.arraylength, 1) := by decide +kernel
theorem d46_3 : decode jdk_43_method_2_code 3 = .ok (.invokestatic 9, 3) := by decide +kernel
theorem d46_6 : decode jdk_43_method_2_code 6 = .ok (.aload_n 0, 1) := by decide +kernel
theorem d46_7 : decode jdk_43_method_2_code 7 = .ok (.iload_n 1, 1) := by decide +kernel
theorem d46_8 : decode jdk_43_method_2_code 8 = .ok (.baload, 1) := by decide +kernel
theorem d46_9 : decode jdk_43_method_2_code 9 = .ok (.sipush 255, 3) := by decide +kernel
theorem d46_12 : decode jdk_43_method_2_code 12 = .ok (.iand, 1) := by decide +kernel
theorem d46_13 : decode jdk_43_method_2_code 13 = .ok (.i2c, 1) := by decide +kernel
theorem d46_14 : decode jdk_43_method_2_code 14 = .ok (.ireturn, 1) := by decide +kernel
theorem pn_java_2flang_2fStringLatin1 : plainName "java/lang/StringLatin1" = true := by first | (simp [plainName, overriddenIn]; done) | decide +kernel
theorem ef_lchar (m : MethodId) (t : Addr) (i : Int32) : entryFrame m #[(.ref t), (.int i)] 2 = mkF m 0 #[rv t, iv i] [] := by
  first | (simp [entryFrame, mkF, argsToLocals, Value.category]; done) | rfl
def Q_lchar (Z : State) (t : Addr) (i : Int32) (fm : Value) (n : Int32) (b : Int32) (h0 : Heap) (n0 : Nat) (v : Option Value) (h : Heap) (L : List Loc) : Prop := v = some (.int (own_chr b)) ∧ Fr n0 L ∧ h = h0
set_option maxRecDepth 65536 in
set_option maxHeartbeats 40000000 in
theorem rm_lchar (l : Launch) (Z : State) (a0 : Array Value) (hw : ∀ d ∈ tables_1, d.before a0 Z = true) (ws : List Jvm.Cond) (t : Addr) (i : Int32) (fm : Value) (n : Int32) (b : Int32) (h0 : Heap) (n0 : Nat) (O0 : Old Z n0 h0) (S_IO : Sta Z Z.heap "jdk/internal/util/Preconditions" "SIOOBE_FORMATTER" "Ljava/util/function/BiFunction;" fm) (hio : fm.isRef = true) (LN : own_Len Z h0 t n) (AT : own_At Z h0 t i b) (h1 : ¬ i < (0 : Int32)) (h2 : i < n) :
    MetFree l own_y6 (head1 (Jvm.Cond.code own_y6 jdk_43_method_2_code 2 (some .char) :: ws) ({ frames := 2, cells := 0, slots := 0, locals := 27 } : Room)) (fun aq_ Uq_ => aq_ = #[(.ref t), (.int i)] ∧ Z.Warmed39 Uq_.vm ∧ Uq_.heap = h0) (fun _ _ _ _ _ => True) (fun _ Uq_ oq_ Ur_ => ∃ vq_ Lq_, oq_ = .returned vq_ ∧ Q_lchar Z t i fm n b h0 n0 vq_ Ur_.heap Lq_ ∧ FrameEnd Uq_ oq_ Ur_ Lq_ ({ frames := 2, cells := 0, slots := 0, locals := 27 } : Room).cells ({ frames := 2, cells := 0, slots := 0, locals := 27 } : Room).slots) := by
  refine MetFree.of_bodySF (plainFor_of_name pn_java_2flang_2fStringLatin1) hisR ?_
  intro p e s m args below meth c s₁ Bd hml0 hP hK
  obtain ⟨rfl, hZ, hh⟩ := hP
  have W_ : ∀ {d : Jvm.Cond} (i : Nat), tables_1[i]? = some d → d.before a0 Z = true := fun i h => hw _ (List.mem_of_getElem? h)
  have hx := Bd.exec
  have hby := Bd.bytes
  have hml : c.maxLocals = 2 := hml0
  have hown : s.vm.findClass "java/lang/StringLatin1" = some m.cls := findClass_of_methodNamed Bd.named
  have hnm := (name_of_methodNamed Bd.named Bd.method).1
  have X0 : Stand p l e ({ frames := 2, cells := 0, slots := 0, locals := 27 } : Room) s m #[(.ref t), (.int i)] below meth c s₁ [] 0 0 := Stand.of_body Bd
  have e0 : s₁.heap = h0 := by rw [← hh, Bd.state]; rfl
  have N0 := Fr.nil n0
  have K0 := Keep.refl h0 []
  refine own_G.start (Q := Q_lchar Z t i fm n b h0 n0) (ef_lchar m t i) ?_
  refine own_G.sk 1 [(.int i)] (fun _ kq => XS.iloadN X0.here hx rfl (hb hby d46_0) rfl kq) ?_
  refine own_G.sk 2 [(.ref t), (.int i)] (fun _ kq => XS.aloadN X0.here hx rfl (hb hby d46_1) rfl rfl kq) ?_
  obtain ⟨cl1, ty1, Ar1, Sz1, Nz1⟩ := id LN
  refine own_G.step (g' := (mkF m 3 #[rv t, iv i] [(.int n), (.int i)])) (fun tq_ kq_ => X0.arraylength hx (by rw [e0]; exact Ar1.1) (State.isArrayOf_alike hZ.alike Ar1.2.1) (g := (mkF m 2 #[rv t, iv i] [(.ref t), (.int i)])) rfl rfl (hb hby d46_2) _ (by rw [len_of Sz1 Nz1]; exact kq_)) ?_
  obtain ⟨_, _, ⟨T2, L2, k2, n2⟩, -, X2, ⟨Lc2, hQ2, l2, y2, z2⟩, st2⟩ := Jvm.LawKit.callS X0 hx (y := own_y5) hown (mvT hZ (W_ 241 rfl)) (mvT hZ (W_ 242 rfl)) (mvT hZ (W_ 8 rfl)) (mvT hZ (W_ 243 rfl)) (by decide) (backOf (W := 0) (rm_schk l Z a0 hw [] i n fm h0 n0 O0 S_IO hio h1 h2) hZ (W_ 243 rfl) (W_ 8 rfl) (by decide) (by decide)) (g := (mkF m 3 #[rv t, iv i] [(.int n), (.int i)])) rfl (by rw [hml]; rfl) (argsL := [(.int i), (.int n)]) (rest := []) (lenOf pd__28II_29V rfl) rfl (by show 2 * 0 + _ ≤ _; exact Nat.le_of_eq rfl) (hb hby d46_3) (fun _ _ => ⟨rfl, e0, (by decide : 0 + 0 ≤ _), (by decide : 0 + 0 ≤ _)⟩)
  dsimp only [Pt.U, Pt.locs, Pt.cells, Pt.slots] at X2 l2 y2 z2 st2 hQ2
  subst l2 y2 z2
  obtain ⟨rfl, Nq2, P3⟩ := hQ2
  have N2 := Fr.app N0 Nq2
  refine own_G.st (T' := T2) 6 [] (fun _ kq => st2 _ kq) ?_
  refine own_G.sk 7 [(.ref t)] (fun _ kq => XS.aloadN X2.here hx rfl (hb hby d46_6) rfl rfl kq) ?_
  refine own_G.sk 8 [(.int i), (.ref t)] (fun _ kq => XS.iloadN X2.here hx rfl (hb hby d46_7) rfl kq) ?_
  obtain ⟨cl4, Ar4, hin4, hat4⟩ := id AT
  refine own_G.sk 9 [(.int b)] (fun _ kq => X2.baloadBytes hx (j := i) (v := (.int b)) (by rw [P3]; exact Ar4.1) (State.isArrayOf_alike hZ.alike Ar4.2.1) Ar4.2.2 hin4 hat4 (g := (mkF m 8 #[rv t, iv i] [(.int i), (.ref t)])) rfl rfl (hb hby d46_8) _ kq) ?_
  refine own_G.sk 12 [(.int 255), (.int b)] (fun _ kq => XS.sipush X2.here hx rfl (hb hby d46_9) kq) ?_
  refine own_G.sk 13 [(.int (b &&& (255 : Int32)))] (fun _ kq => XS.iand X2.here hx rfl (hb hby d46_12) rfl kq) ?_
  refine own_G.sk 14 [(.int ((b &&& (255 : Int32)).toUInt32.toUInt16.toUInt32.toInt32))] (fun _ kq => XS.i2c X2.here hx rfl (hb hby d46_13) rfl kq) ?_
  exact own_ret X2 P3 (v := some (.int (nar .char ((b &&& (255 : Int32)).toUInt32.toUInt16.toUInt32.toInt32)))) (fun h => by rw [Bd.returns] at h; cases h) Bd.notSynchronized ⟨(by rw [own_nar_c]; rfl), N2, rfl⟩ (by decide) (by decide) (fun fs hr => retN X2 hx (t := .char) Bd.returns (by simp) (hb hby d46_14) hr)
theorem pd__28_29Z : parseMethodDescriptor "()Z" = some ⟨[], some .boolean⟩ := by decide +kernel
theorem pd__28_5bBI_29C : parseMethodDescriptor "([BI)C" = some ⟨[(.array .byte), .int], some .char⟩ := by decide +kernel
theorem d45_0 : decode jdk_42_method_56_code 0 = .ok (.aload_n 0, 1) := by decide +kernel
theorem d45_1 : decode jdk_42_method_56_code 1 = .ok (.invokevirtual 492, 3) := by decide +kernel
theorem d45_4 : decode jdk_42_method_56_code 4 = .ok (.ifCond .eq 12, 3) := by decide +kernel
theorem d45_7 : decode jdk_42_method_56_code 7 = .ok (.aload_n 0, 1) := by decide +kernel
theorem d45_8 : decode jdk_42_method_56_code 8 = .ok (.getfield 9, 3) := by decide +kernel
theorem d45_11 : decode jdk_42_method_56_code 11 = .ok (.iload_n 1, 1) := by decide +kernel
theorem d45_12 : decode jdk_42_method_56_code 12 = .ok (.invokestatic 495, 3) := by decide +kernel
theorem d45_15 : decode jdk_42_method_56_code 15 = .ok (.ireturn, 1) := by decide +kernel
theorem ef_charAt (m : MethodId) (a : Addr) (i : Int32) : entryFrame m #[(.ref a), (.int i)] 2 = mkF m 0 #[rv a, iv i] [] := by
  first | (simp [entryFrame, mkF, argsToLocals, Value.category]; done) | rfl
def Q_charAt (Z : State) (a : Addr) (i : Int32) (csz : Int32) (fm : Value) (t : Addr) (n : Int32) (b : Int32) (h0 : Heap) (n0 : Nat) (v : Option Value) (h : Heap) (L : List Loc) : Prop := v = some (.int (own_chr b)) ∧ Fr n0 L ∧ h = h0
set_option maxRecDepth 65536 in
set_option maxHeartbeats 40000000 in
theorem rm_charAt (l : Launch) (Z : State) (a0 : Array Value) (hw : ∀ d ∈ tables_1, d.before a0 Z = true) (ws : List Jvm.Cond) (a : Addr) (i : Int32) (csz : Int32) (fm : Value) (t : Addr) (n : Int32) (b : Int32) (h0 : Heap) (n0 : Nat) (O0 : Old Z n0 h0) (S_CS : Sta Z Z.heap "java/lang/String" "COMPACT_STRINGS" "Z" (.int csz)) (hcs : ¬ csz = (0 : Int32)) (S_IO : Sta Z Z.heap "jdk/internal/util/Preconditions" "SIOOBE_FORMATTER" "Ljava/util/function/BiFunction;" fm) (hio : fm.isRef = true) (Ea : Exa Z h0 a "java/lang/String") (Fv : Fld Z h0 a "java/lang/String" "value" "[B" (.ref t)) (Fc : Fld Z h0 a "java/lang/String" "coder" "B" (.int 0)) (LN : own_Len Z h0 t n) (AT : own_At Z h0 t i b) (h1 : ¬ i < (0 : Int32)) (h2 : i < n) :
    MetFree l own_y7 (head1 (Jvm.Cond.code own_y7 jdk_42_method_56_code 2 (some .char) :: ws) ({ frames := 3, cells := 0, slots := 0, locals := 40 } : Room)) (fun aq_ Uq_ => aq_ = #[(.ref a), (.int i)] ∧ Z.Warmed39 Uq_.vm ∧ Uq_.heap = h0) (fun _ _ _ _ _ => True) (fun _ Uq_ oq_ Ur_ => ∃ vq_ Lq_, oq_ = .returned vq_ ∧ Q_charAt Z a i csz fm t n b h0 n0 vq_ Ur_.heap Lq_ ∧ FrameEnd Uq_ oq_ Ur_ Lq_ ({ frames := 3, cells := 0, slots := 0, locals := 40 } : Room).cells ({ frames := 3, cells := 0, slots := 0, locals := 40 } : Room).slots) := by
  refine MetFree.of_bodySF (plainFor_of_name pn_java_2flang_2fString) hisR ?_
  intro p e s m args below meth c s₁ Bd hml0 hP hK
  obtain ⟨rfl, hZ, hh⟩ := hP
  have W_ : ∀ {d : Jvm.Cond} (i : Nat), tables_1[i]? = some d → d.before a0 Z = true := fun i h => hw _ (List.mem_of_getElem? h)
  have hx := Bd.exec
  have hby := Bd.bytes
  have hml : c.maxLocals = 2 := hml0
  have hown : s.vm.findClass "java/lang/String" = some m.cls := findClass_of_methodNamed Bd.named
  have hnm := (name_of_methodNamed Bd.named Bd.method).1
  have X0 : Stand p l e ({ frames := 3, cells := 0, slots := 0, locals := 40 } : Room) s m #[(.ref a), (.int i)] below meth c s₁ [] 0 0 := Stand.of_body Bd
  have e0 : s₁.heap = h0 := by rw [← hh, Bd.state]; rfl
  have N0 := Fr.nil n0
  have K0 := Keep.refl h0 []
  refine own_G.start (Q := Q_charAt Z a i csz fm t n b h0 n0) (ef_charAt m a i) ?_
  refine own_G.sk 1 [(.ref a)] (fun _ kq => XS.aloadN X0.here hx rfl (hb hby d45_0) rfl rfl kq) ?_
  obtain ⟨cq1, kq1, q1a, q1b, q1c⟩ := isOf hZ e0 Ea
  obtain ⟨_, _, ⟨T1, L1, k1, n1⟩, -, X1, ⟨Lc1, hQ1, l1, y1, z1⟩, st1⟩ := X0.virtualBack hx (y := own_y1) (z := own_y1) hown (mvT hZ (W_ 94 rfl)) (mvT hZ (W_ 95 rfl)) (notFace_of_selects (args := #[]) (mvT hZ (W_ 97 rfl))) (mvT hZ (W_ 97 rfl)) (mvT hZ (W_ 96 rfl)) (by decide) (backOf (W := 0) (rm_isLat l Z a0 hw [] a csz h0 n0 O0 S_CS hcs Fc) hZ (W_ 98 rfl) (W_ 8 rfl) (by decide) (by decide)) q1a q1c (g := (mkF m 1 #[rv a, iv i] [(.ref a)])) rfl (by rw [hml]; rfl) (Steps.refl _) (argsL := []) (rest := []) (lenOf pd__28_29Z rfl) rfl (by show 2 * 0 + _ ≤ _; exact Nat.le_of_eq rfl) (hb hby d45_1) (fun _ _ => ⟨rfl, e0, (by decide : 0 + 0 ≤ _), (by decide : 0 + 0 ≤ _)⟩)
  dsimp only [Pt.U, Pt.locs, Pt.cells, Pt.slots] at X1 l1 y1 z1 st1 hQ1
  subst l1 y1 z1
  obtain ⟨rfl, Nq1, P2⟩ := hQ1
  have N1 := Fr.app N0 Nq1
  refine own_G.st (T' := T1) 4 [(.int 1)] (fun _ kq => st1.trans kq) ?_
  have hc4 : ¬ ((1 : Int32) = (0 : Int32)) := by decide
  refine own_G.sk 7 [] (fun _ kq => XS.ifNo X1.here hx rfl (hb hby d45_4) rfl ((if0 _ _).trans (feq hc4).1) kq) ?_
  refine own_G.sk 8 [(.ref a)] (fun _ kq => XS.aloadN X1.here hx rfl (hb hby d45_7) rfl rfl kq) ?_
  obtain ⟨T3, X3, e3, st3⟩ := getF X1 hx hZ hown (host := "") (Or.inl (W_ 33 rfl)) Via.refl P2 Fv (g := (mkF m 8 #[rv a, iv i] [(.ref a)])) rfl rfl (hb hby d45_8)
  refine own_G.st (T' := T3) 11 [(.ref t)] st3 ?_
  refine own_G.sk 12 [(.int i), (.ref t)] (fun _ kq => XS.iloadN X3.here hx rfl (hb hby d45_11) rfl kq) ?_
  obtain ⟨_, _, ⟨T4, L4, k4, n4⟩, -, X4, ⟨Lc4, hQ4, l4, y4, z4⟩, st4⟩ := Jvm.LawKit.callS X3 hx (y := own_y6) hown (mvT hZ (W_ 238 rfl)) (mvT hZ (W_ 239 rfl)) (mvT hZ (W_ 101 rfl)) (mvT hZ (W_ 240 rfl)) (by decide) (backOf (W := 0) (rm_lchar l Z a0 hw [] t i fm n b h0 n0 O0 S_IO hio LN AT h1 h2) hZ (W_ 240 rfl) (W_ 101 rfl) (by decide) (by decide)) (g := (mkF m 12 #[rv a, iv i] [(.int i), (.ref t)])) rfl (by rw [hml]; rfl) (argsL := [(.ref t), (.int i)]) (rest := []) (lenOf pd__28_5bBI_29C rfl) rfl (by show 2 * 0 + _ ≤ _; exact Nat.le_of_eq rfl) (hb hby d45_12) (fun _ _ => ⟨rfl, e3, (by decide : 0 + 0 ≤ _), (by decide : 0 + 0 ≤ _)⟩)
  dsimp only [Pt.U, Pt.locs, Pt.cells, Pt.slots] at X4 l4 y4 z4 st4 hQ4
  subst l4 y4 z4
  obtain ⟨rfl, Nq4, P5⟩ := hQ4
  have N4 := Fr.app N1 Nq4
  refine own_G.st (T' := T4) 15 [(.int (own_chr b))] (fun _ kq => st4 _ kq) ?_
  exact own_ret X4 P5 (v := some (.int (nar .char (own_chr b)))) (fun h => by rw [Bd.returns] at h; cases h) Bd.notSynchronized ⟨(by rw [own_chr, own_nar_c]), N4, rfl⟩ (by decide) (by decide) (fun fs hr => retN X4 hx (t := .char) Bd.returns (by simp) (hb hby d45_15) hr)
theorem d9_0 : decode jdk_30_method_1_code 0 = .ok (.aload_n 0, 1) := by decide +kernel
theorem d9_1 : decode jdk_30_method_1_code 1 = .ok (.invokespecial 1, 3) := by decide +kernel
theorem d9_4 : decode jdk_30_method_1_code 4 = .ok (.return_, 1) := by decide +kernel
theorem pn_java_2flang_2fRecord : plainName "java/lang/Record" = true := by first | (simp [plainName, overriddenIn]; done) | decide +kernel
theorem ef_recinit (m : MethodId) (a : Addr) : entryFrame m #[(.ref a)] 1 = mkF m 0 #[rv a] [] := by
  first | (simp [entryFrame, mkF, argsToLocals, Value.category]; done) | rfl
def Q_recinit (Z : State) (a : Addr) (h0 : Heap) (n0 : Nat) (v : Option Value) (h : Heap) (L : List Loc) : Prop := v = none ∧ Fr n0 L ∧ h = h0
set_option maxRecDepth 65536 in
set_option maxHeartbeats 40000000 in
theorem rm_recinit (l : Launch) (Z : State) (a0 : Array Value) (hw : ∀ d ∈ tables_1, d.before a0 Z = true) (ws : List Jvm.Cond) (a : Addr) (h0 : Heap) (n0 : Nat) (O0 : Old Z n0 h0) :
    MetFree l own_y8 (head1 (Jvm.Cond.code own_y8 jdk_30_method_1_code 1 none :: ws) ({ frames := 1, cells := 0, slots := 0, locals := 12 } : Room)) (fun aq_ Uq_ => aq_ = #[(.ref a)] ∧ Z.Warmed39 Uq_.vm ∧ Uq_.heap = h0) (fun _ _ _ _ _ => True) (fun _ Uq_ oq_ Ur_ => ∃ vq_ Lq_, oq_ = .returned vq_ ∧ Q_recinit Z a h0 n0 vq_ Ur_.heap Lq_ ∧ FrameEnd Uq_ oq_ Ur_ Lq_ ({ frames := 1, cells := 0, slots := 0, locals := 12 } : Room).cells ({ frames := 1, cells := 0, slots := 0, locals := 12 } : Room).slots) := by
  refine MetFree.of_bodySF (plainFor_of_name pn_java_2flang_2fRecord) hisR ?_
  intro p e s m args below meth c s₁ Bd hml0 hP hK
  obtain ⟨rfl, hZ, hh⟩ := hP
  have W_ : ∀ {d : Jvm.Cond} (i : Nat), tables_1[i]? = some d → d.before a0 Z = true := fun i h => hw _ (List.mem_of_getElem? h)
  have hx := Bd.exec
  have hby := Bd.bytes
  have hml : c.maxLocals = 1 := hml0
  have hown : s.vm.findClass "java/lang/Record" = some m.cls := findClass_of_methodNamed Bd.named
  have hnm := (name_of_methodNamed Bd.named Bd.method).1
  have X0 : Stand p l e ({ frames := 1, cells := 0, slots := 0, locals := 12 } : Room) s m #[(.ref a)] below meth c s₁ [] 0 0 := Stand.of_body Bd
  have e0 : s₁.heap = h0 := by rw [← hh, Bd.state]; rfl
  have N0 := Fr.nil n0
  have K0 := Keep.refl h0 []
  refine own_G.start (Q := Q_recinit Z a h0 n0) (ef_recinit m a) ?_
  refine own_G.sk 1 [(.ref a)] (fun _ kq => XS.aloadN X0.here hx rfl (hb hby d9_0) rfl rfl kq) ?_
  obtain ⟨T1, X1, e1, st1⟩ := initO X0 hx hZ hown (W_ 46 rfl) (W_ 17 rfl) (W_ 18 rfl) e0 (g := (mkF m 1 #[rv a] [(.ref a)])) rfl (by rw [hml]; rfl) rfl (hb hby d9_1) (by decide) (W := 0) (by show 2 * 0 + _ ≤ _; exact Nat.le_of_eq rfl) (by decide)
  refine own_G.st (T' := T1) 4 [] st1 ?_
  exact own_ret X1 e1 (v := none) (fun _ => rfl) Bd.notSynchronized ⟨rfl, N0, rfl⟩ (by decide) (by decide) (fun fs hr => X1.returnOut hx Bd.returns (hb hby d9_4) hr)
theorem d10_0 : decode jdk_31_method_11_code 0 = .ok (.aload_n 0, 1) := by decide +kernel
theorem d10_1 : decode jdk_31_method_11_code 1 = .ok (.ifnonnull 12, 3) := by decide +kernel
theorem d10_13 : decode jdk_31_method_11_code 13 = .ok (.aload_n 0, 1) := by decide +kernel
theorem d10_14 : decode jdk_31_method_11_code 14 = .ok (.areturn, 1) := by decide +kernel
theorem pn_java_2futil_2fObjects : plainName "java/util/Objects" = true := by first | (simp [plainName, overriddenIn]; done) | decide +kernel
theorem ef_rnn (m : MethodId) (o : Addr) (ms : Addr) : entryFrame m #[(.ref o), (.ref ms)] 2 = mkF m 0 #[rv o, rv ms] [] := by
  first | (simp [entryFrame, mkF, argsToLocals, Value.category]; done) | rfl
def Q_rnn (Z : State) (o : Addr) (ms : Addr) (h0 : Heap) (n0 : Nat) (v : Option Value) (h : Heap) (L : List Loc) : Prop := v = some (.ref o) ∧ Fr n0 L ∧ h = h0
set_option maxRecDepth 65536 in
set_option maxHeartbeats 40000000 in
theorem rm_rnn (l : Launch) (Z : State) (a0 : Array Value) (hw : ∀ d ∈ tables_1, d.before a0 Z = true) (ws : List Jvm.Cond) (o : Addr) (ms : Addr) (h0 : Heap) (n0 : Nat) (O0 : Old Z n0 h0) :
    MetFree l own_y9 (head1 (Jvm.Cond.code own_y9 jdk_31_method_11_code 2 (some (.object "java/lang/Object")) :: ws) ({ frames := 0, cells := 0, slots := 0, locals := 0 } : Room)) (fun aq_ Uq_ => aq_ = #[(.ref o), (.ref ms)] ∧ Z.Warmed39 Uq_.vm ∧ Uq_.heap = h0) (fun _ _ _ _ _ => True) (fun _ Uq_ oq_ Ur_ => ∃ vq_ Lq_, oq_ = .returned vq_ ∧ Q_rnn Z o ms h0 n0 vq_ Ur_.heap Lq_ ∧ FrameEnd Uq_ oq_ Ur_ Lq_ ({ frames := 0, cells := 0, slots := 0, locals := 0 } : Room).cells ({ frames := 0, cells := 0, slots := 0, locals := 0 } : Room).slots) := by
  refine MetFree.of_bodySF (plainFor_of_name pn_java_2futil_2fObjects) hisR ?_
  intro p e s m args below meth c s₁ Bd hml0 hP hK
  obtain ⟨rfl, hZ, hh⟩ := hP
  have W_ : ∀ {d : Jvm.Cond} (i : Nat), tables_1[i]? = some d → d.before a0 Z = true := fun i h => hw _ (List.mem_of_getElem? h)
  have hx := Bd.exec
  have hby := Bd.bytes
  have hml : c.maxLocals = 2 := hml0
  have hown : s.vm.findClass "java/util/Objects" = some m.cls := findClass_of_methodNamed Bd.named
  have hnm := (name_of_methodNamed Bd.named Bd.method).1
  have X0 : Stand p l e ({ frames := 0, cells := 0, slots := 0, locals := 0 } : Room) s m #[(.ref o), (.ref ms)] below meth c s₁ [] 0 0 := Stand.of_body Bd
  have e0 : s₁.heap = h0 := by rw [← hh, Bd.state]; rfl
  have N0 := Fr.nil n0
  have K0 := Keep.refl h0 []
  refine own_G.start (Q := Q_rnn Z o ms h0 n0) (ef_rnn m o ms) ?_
  refine own_G.sk 1 [(.ref o)] (fun _ kq => XS.aloadN X0.here hx rfl (hb hby d10_0) rfl rfl kq) ?_
  refine own_G.sk 13 [] (fun _ kq => XS.ifnonnullYes X0.here hx rfl (pc0 := 1) (pc' := 13) rfl (hb hby d10_1) rfl (by decide) (by decide) kq) ?_
  refine own_G.sk 14 [(.ref o)] (fun _ kq => XS.aloadN X0.here hx rfl (hb hby d10_13) rfl rfl kq) ?_
  exact own_ret X0 e0 (v := some (.ref o)) (fun h => by rw [Bd.returns] at h; cases h) Bd.notSynchronized ⟨rfl, N0, rfl⟩ (by decide) (by decide) (fun fs hr => own_retR X0 hx Bd.returns rfl rfl (hb hby d10_14) hr)
theorem d21_0 : decode jdk_68_method_2_code 0 = .ok (.aload_n 0, 1) := by decide +kernel
theorem d21_1 : decode jdk_68_method_2_code 1 = .ok (.invokespecial 3, 3) := by decide +kernel
theorem d21_4 : decode jdk_68_method_2_code 4 = .ok (.getstatic 18, 3) := by decide +kernel
theorem d21_7 : decode jdk_68_method_2_code 7 = .ok (.ifCond .eq 18, 3) := by decide +kernel
theorem d21_10 : decode jdk_68_method_2_code 10 = .ok (.aload_n 0, 1) := by decide +kernel
theorem d21_11 : decode jdk_68_method_2_code 11 = .ok (.iload_n 1, 1) := by decide +kernel
theorem d21_12 : decode jdk_68_method_2_code 12 = .ok (.newarray .byte, 2) := by decide +kernel
theorem d21_14 : decode jdk_68_method_2_code 14 = .ok (.putfield 15, 3) := by decide +kernel
theorem d21_17 : decode jdk_68_method_2_code 17 = .ok (.aload_n 0, 1) := by decide +kernel
theorem d21_18 : decode jdk_68_method_2_code 18 = .ok (.iconst 0, 1) := by decide +kernel
theorem d21_19 : decode jdk_68_method_2_code 19 = .ok (.putfield 22, 3) := by decide +kernel
theorem d21_22 : decode jdk_68_method_2_code 22 = .ok (.goto 16, 3) := by decide +kernel
theorem d21_38 : decode jdk_68_method_2_code 38 = .ok (.return_, 1) := by decide +kernel
theorem pn_java_2flang_2fAbstractStringBuilder : plainName "java/lang/AbstractStringBuilder" = true := by first | (simp [plainName, overriddenIn]; done) | decide +kernel
theorem ef_asbinit (m : MethodId) (a : Addr) : entryFrame m #[(.ref a), (.int 16)] 2 = mkF m 0 #[rv a, iv 16] [] := by
  first | (simp [entryFrame, mkF, argsToLocals, Value.category]; done) | rfl
def Q_asbinit (Z : State) (a : Addr) (csz : Int32) (h0 : Heap) (n0 : Nat) (v : Option Value) (h : Heap) (L : List Loc) : Prop := ∃ (t : Addr), ∃ (kb : ClassId), v = none ∧ Fr n0 L ∧ Keep h0 h [a] ∧ h0.size ≤ t ∧ Exa Z h a "java/lang/StringBuilder" ∧ Fld Z h a "java/lang/AbstractStringBuilder" "value" "[B" (.ref t) ∧ Fld Z h a "java/lang/AbstractStringBuilder" "coder" "B" (.int 0) ∧ Fld Z h a "java/lang/AbstractStringBuilder" "count" "I" (.int 0) ∧ Arv Z h t kb .byte (16 : Int32) [] (.int 0)
set_option maxRecDepth 65536 in
set_option maxHeartbeats 40000000 in
theorem rm_asbinit (l : Launch) (Z : State) (a0 : Array Value) (hw : ∀ d ∈ tables_1, d.before a0 Z = true) (ws : List Jvm.Cond) (a : Addr) (csz : Int32) (h0 : Heap) (n0 : Nat) (O0 : Old Z n0 h0) (S_CS : Sta Z Z.heap "java/lang/String" "COMPACT_STRINGS" "Z" (.int csz)) (hcs : ¬ csz = (0 : Int32)) (Ea : Exa Z h0 a "java/lang/StringBuilder") (Fv : Fld Z h0 a "java/lang/AbstractStringBuilder" "value" "[B" .null) (Fc : Fld Z h0 a "java/lang/AbstractStringBuilder" "coder" "B" (.int 0)) (Fn : Fld Z h0 a "java/lang/AbstractStringBuilder" "count" "I" (.int 0)) (ga : n0 ≤ a) :
    MetFree l own_y10 (head1 (Jvm.Cond.code own_y10 jdk_68_method_2_code 2 none :: ws) ({ frames := 1, cells := 1, slots := 16, locals := 12 } : Room)) (fun aq_ Uq_ => aq_ = #[(.ref a), (.int 16)] ∧ Z.Warmed39 Uq_.vm ∧ Uq_.heap = h0) (fun _ _ _ _ _ => True) (fun _ Uq_ oq_ Ur_ => ∃ vq_ Lq_, oq_ = .returned vq_ ∧ Q_asbinit Z a csz h0 n0 vq_ Ur_.heap Lq_ ∧ FrameEnd Uq_ oq_ Ur_ Lq_ ({ frames := 1, cells := 1, slots := 16, locals := 12 } : Room).cells ({ frames := 1, cells := 1, slots := 16, locals := 12 } : Room).slots) := by
  refine MetFree.of_bodySF (plainFor_of_name pn_java_2flang_2fAbstractStringBuilder) hisR ?_
  intro p e s m args below meth c s₁ Bd hml0 hP hK
  obtain ⟨rfl, hZ, hh⟩ := hP
  have W_ : ∀ {d : Jvm.Cond} (i : Nat), tables_1[i]? = some d → d.before a0 Z = true := fun i h => hw _ (List.mem_of_getElem? h)
  have hx := Bd.exec
  have hby := Bd.bytes
  have hml : c.maxLocals = 2 := hml0
  have hown : s.vm.findClass "java/lang/AbstractStringBuilder" = some m.cls := findClass_of_methodNamed Bd.named
  have hnm := (name_of_methodNamed Bd.named Bd.method).1
  have X0 : Stand p l e ({ frames := 1, cells := 1, slots := 16, locals := 12 } : Room) s m #[(.ref a), (.int 16)] below meth c s₁ [] 0 0 := Stand.of_body Bd
  have e0 : s₁.heap = h0 := by rw [← hh, Bd.state]; rfl
  have N0 := Fr.nil n0
  have K0 := Keep.refl h0 [a]
  refine own_G.start (Q := Q_asbinit Z a csz h0 n0) (ef_asbinit m a) ?_
  refine own_G.sk 1 [(.ref a)] (fun _ kq => XS.aloadN X0.here hx rfl (hb hby d21_0) rfl rfl kq) ?_
  obtain ⟨T1, X1, e1, st1⟩ := initO X0 hx hZ hown (W_ 118 rfl) (W_ 17 rfl) (W_ 18 rfl) e0 (g := (mkF m 1 #[rv a, iv 16] [(.ref a)])) rfl (by rw [hml]; rfl) rfl (hb hby d21_1) (by decide) (W := 0) (by show 2 * 0 + _ ≤ _; exact Nat.le_of_eq rfl) (by decide)
  refine own_G.st (T' := T1) 4 [] st1 ?_
  obtain ⟨T2, X2, e2, st2⟩ := getS2 X1 hx hZ hown (host := "") (Or.inl (W_ 119 rfl)) Via.refl e1 (Sta.ext O0.2 S_CS) (g := (mkF m 4 #[rv a, iv 16] [])) rfl (hb hby d21_4)
  refine own_G.st (T' := T2) 7 [(.int csz)] st2 ?_
  have hc7 : ¬ (csz = (0 : Int32)) := hcs
  refine own_G.sk 10 [] (fun _ kq => XS.ifNo X2.here hx rfl (hb hby d21_7) rfl ((if0 _ _).trans (feq hc7).1) kq) ?_
  refine own_G.sk 11 [(.ref a)] (fun _ kq => XS.aloadN X2.here hx rfl (hb hby d21_10) rfl rfl kq) ?_
  refine own_G.sk 12 [(.int 16), (.ref a)] (fun _ kq => XS.iloadN X2.here hx rfl (hb hby d21_11) rfl kq) ?_
  obtain ⟨T3, h3, k3, X3, e3, E3, A3, st3⟩ := newP X2 hx hZ (W_ 24 rfl) e2 (g := (mkF m 12 #[rv a, iv 16] [(.int 16), (.ref a)])) rfl (hb hby d21_12) rfl (by decide) (cap := 16) (by decide) (by decide) (by decide) (by decide)
  obtain ⟨b3, g3⟩ : ∃ z, z = h0.size := ⟨_, rfl⟩
  rw [← g3] at A3 st3
  have ne4 : a ≠ b3 := Nat.ne_of_lt (Nat.lt_of_lt_of_le Ea.lt (Nat.le_of_eq g3.symm))
  have g5 : n0 ≤ b3 := Nat.le_trans O0.le (Nat.le_of_eq g3.symm)
  have z6 : h0.size ≤ b3 := Nat.le_trans K0.1 (Nat.le_of_eq g3.symm)
  have F7 := Ea.ext E3
  have F8 := Fv.ext E3
  have F9 := Fc.ext E3
  have F10 := Fn.ext E3
  have O11 := O0.ext E3
  have K12 := K0.ext E3
  have F13 : Arv Z h3 b3 k3 .byte (16 : Int32) [] (.int 0) := Arv.new A3 (by decide)
  refine own_G.st (T' := T3) 14 [(.ref b3), (.ref a)] st3 ?_
  obtain ⟨T14, h14, X14, e14, W14, st14⟩ := putF X3 hx hZ hown (host := "") (Or.inl (W_ 120 rfl)) Via.refl e3 F8 F7 (Or.inl (W_ 121 rfl)) (W_ 107 rfl) (ty := (.array .byte)) (by decide) rfl rfl (g := (mkF m 14 #[rv a, iv 16] [(.ref b3), (.ref a)])) rfl rfl (hb hby d21_14)
  have N14 := Fr.snoc X14 N0 ga
  have F15 := F7.wr W14
  have F16 := F8.same W14
  have F17 := F9.other W14 (Or.inr (slot_ne (Or.inl (W_ 123 rfl)) (Or.inl (W_ 121 rfl)) (by decide) (t := .byte) (t' := (.array .byte)) (by decide) (by decide)))
  have F18 := F10.other W14 (Or.inr (slot_ne (Or.inl (W_ 140 rfl)) (Or.inl (W_ 121 rfl)) (by decide) (t := .int) (t' := (.array .byte)) (by decide) (by decide)))
  have F19 := F13.other W14 (Ne.symm ne4)
  have O20 := O11.wr W14 ga
  have K21 := K12.wr W14 (Or.inl (List.mem_of_getElem? (i := 0) rfl))
  refine own_G.st (T' := T14) 17 [] st14 ?_
  refine own_G.sk 18 [(.ref a)] (fun _ kq => XS.aloadN X14.here hx rfl (hb hby d21_17) rfl rfl kq) ?_
  refine own_G.sk 19 [(.int 0), (.ref a)] (fun _ kq => XS.iconst X14.here hx rfl (hb hby d21_18) kq) ?_
  obtain ⟨T22, h22, X22, e22, W22, st22⟩ := putFN X14 hx hZ hown (W_ 122 rfl) Via.refl e14 F17 F15 (Or.inl (W_ 123 rfl)) (W_ 107 rfl) (ty := .byte) (v' := (.int (nar .byte (0 : Int32)))) (by decide) rfl (fits_nar_byte _) (g := (mkF m 19 #[rv a, iv 16] [(.int 0), (.ref a)])) rfl rfl (hb hby d21_19)
  have N22 := Fr.snoc X22 N14 ga
  have F23 := F15.wr W22
  have F24 := F16.other W22 (Or.inr (slot_ne (Or.inl (W_ 121 rfl)) (Or.inl (W_ 123 rfl)) (by decide) (t := (.array .byte)) (t' := .byte) (by decide) (by decide)))
  have F25 := F17.same W22
  have F26 := F18.other W22 (Or.inr (slot_ne (Or.inl (W_ 140 rfl)) (Or.inl (W_ 123 rfl)) (by decide) (t := .int) (t' := .byte) (by decide) (by decide)))
  have F27 := F19.other W22 (Ne.symm ne4)
  have O28 := O20.wr W22 ga
  have K29 := K21.wr W22 (Or.inl (List.mem_of_getElem? (i := 0) rfl))
  refine own_G.st (T' := T22) 22 [] st22 ?_
  refine own_G.sk 38 [] (fun _ kq => XS.goto X22.here hx rfl (pc0 := 22) (pc' := 38) rfl (hb hby d21_22) (by decide) (by decide) kq) ?_
  exact own_ret X22 e22 (v := none) (fun _ => rfl) Bd.notSynchronized ⟨b3, k3, rfl, N22, K29, z6, F23, F24, F25, F26, F27⟩ (by decide) (by decide) (fun fs hr => X22.returnOut hx Bd.returns (hb hby d21_38) hr)
theorem pd__28I_29V : parseMethodDescriptor "(I)V" = some ⟨[.int], none⟩ := by decide +kernel
theorem d20_0 : decode jdk_67_method_1_code 0 = .ok (.aload_n 0, 1) := by decide +kernel
theorem d20_1 : decode jdk_67_method_1_code 1 = .ok (.bipush 16, 2) := by decide +kernel
theorem d20_3 : decode jdk_67_method_1_code 3 = .ok (.invokespecial 1, 3) := by decide +kernel
theorem d20_6 : decode jdk_67_method_1_code 6 = .ok (.return_, 1) := by decide +kernel
theorem pn_java_2flang_2fStringBuilder : plainName "java/lang/StringBuilder" = true := by first | (simp [plainName, overriddenIn]; done) | decide +kernel
theorem ef_sbinit (m : MethodId) (a : Addr) : entryFrame m #[(.ref a)] 1 = mkF m 0 #[rv a] [] := by
  first | (simp [entryFrame, mkF, argsToLocals, Value.category]; done) | rfl
def Q_sbinit (Z : State) (a : Addr) (csz : Int32) (h0 : Heap) (n0 : Nat) (v : Option Value) (h : Heap) (L : List Loc) : Prop := ∃ (t : Addr), ∃ (kb : ClassId), v = none ∧ Fr n0 L ∧ Keep h0 h [a] ∧ h0.size ≤ t ∧ Exa Z h a "java/lang/StringBuilder" ∧ Fld Z h a "java/lang/AbstractStringBuilder" "value" "[B" (.ref t) ∧ Fld Z h a "java/lang/AbstractStringBuilder" "coder" "B" (.int 0) ∧ Fld Z h a "java/lang/AbstractStringBuilder" "count" "I" (.int 0) ∧ Arv Z h t kb .byte (16 : Int32) [] (.int 0)
set_option maxRecDepth 65536 in
set_option maxHeartbeats 40000000 in
theorem rm_sbinit (l : Launch) (Z : State) (a0 : Array Value) (hw : ∀ d ∈ tables_1, d.before a0 Z = true) (ws : List Jvm.Cond) (a : Addr) (csz : Int32) (h0 : Heap) (n0 : Nat) (O0 : Old Z n0 h0) (S_CS : Sta Z Z.heap "java/lang/String" "COMPACT_STRINGS" "Z" (.int csz)) (hcs : ¬ csz = (0 : Int32)) (Ea : Exa Z h0 a "java/lang/StringBuilder") (Fv : Fld Z h0 a "java/lang/AbstractStringBuilder" "value" "[B" .null) (Fc : Fld Z h0 a "java/lang/AbstractStringBuilder" "coder" "B" (.int 0)) (Fn : Fld Z h0 a "java/lang/AbstractStringBuilder" "count" "I" (.int 0)) (ga : n0 ≤ a) :
    MetFree l own_y11 (head1 (Jvm.Cond.code own_y11 jdk_67_method_1_code 1 none :: ws) ({ frames := 2, cells := 1, slots := 16, locals := 25 } : Room)) (fun aq_ Uq_ => aq_ = #[(.ref a)] ∧ Z.Warmed39 Uq_.vm ∧ Uq_.heap = h0) (fun _ _ _ _ _ => True) (fun _ Uq_ oq_ Ur_ => ∃ vq_ Lq_, oq_ = .returned vq_ ∧ Q_sbinit Z a csz h0 n0 vq_ Ur_.heap Lq_ ∧ FrameEnd Uq_ oq_ Ur_ Lq_ ({ frames := 2, cells := 1, slots := 16, locals := 25 } : Room).cells ({ frames := 2, cells := 1, slots := 16, locals := 25 } : Room).slots) := by
  refine MetFree.of_bodySF (plainFor_of_name pn_java_2flang_2fStringBuilder) hisR ?_
  intro p e s m args below meth c s₁ Bd hml0 hP hK
  obtain ⟨rfl, hZ, hh⟩ := hP
  have W_ : ∀ {d : Jvm.Cond} (i : Nat), tables_1[i]? = some d → d.before a0 Z = true := fun i h => hw _ (List.mem_of_getElem? h)
  have hx := Bd.exec
  have hby := Bd.bytes
  have hml : c.maxLocals = 1 := hml0
  have hown : s.vm.findClass "java/lang/StringBuilder" = some m.cls := findClass_of_methodNamed Bd.named
  have hnm := (name_of_methodNamed Bd.named Bd.method).1
  have X0 : Stand p l e ({ frames := 2, cells := 1, slots := 16, locals := 25 } : Room) s m #[(.ref a)] below meth c s₁ [] 0 0 := Stand.of_body Bd
  have e0 : s₁.heap = h0 := by rw [← hh, Bd.state]; rfl
  have N0 := Fr.nil n0
  have K0 := Keep.refl h0 [a]
  refine own_G.start (Q := Q_sbinit Z a csz h0 n0) (ef_sbinit m a) ?_
  refine own_G.sk 1 [(.ref a)] (fun _ kq => XS.aloadN X0.here hx rfl (hb hby d20_0) rfl rfl kq) ?_
  refine own_G.sk 3 [(.int 16), (.ref a)] (fun _ kq => XS.bipush X0.here hx rfl (hb hby d20_1) kq) ?_
  obtain ⟨_, _, ⟨T1, L1, k1, n1⟩, -, X1, ⟨Lc1, hQ1, l1, y1, z1⟩, st1⟩ := X0.specialBack hx (y := own_y10) rfl hown (mvT hZ (W_ 112 rfl)) (mvT hZ (W_ 113 rfl)) (mvT hZ (W_ 117 rfl)) (by decide) (backOf (W := 0) (rm_asbinit l Z a0 hw [] a csz h0 n0 O0 S_CS hcs Ea Fv Fc Fn ga) hZ (W_ 117 rfl) (W_ 116 rfl) (by decide) (by decide)) (g := (mkF m 3 #[rv a] [(.int 16), (.ref a)])) rfl (by rw [hml]; rfl) (Steps.refl _) (a := a) (argsL := [(.int 16)]) (rest := []) (lenOf pd__28I_29V rfl) rfl (by show 2 * 0 + _ ≤ _; exact Nat.le_of_eq rfl) (hb hby d20_3) (fun _ _ => ⟨rfl, e0, (by decide : 0 + 1 ≤ _), (by decide : 0 + 16 ≤ _)⟩)
  dsimp only [Pt.U, Pt.locs, Pt.cells, Pt.slots] at X1 l1 y1 z1 st1 hQ1
  subst l1 y1 z1
  obtain ⟨b2, x3, rfl, Nq1, P4, P5, P6, P7, P8, P9, P10⟩ := hQ1
  have N1 := Fr.app N0 Nq1
  have ne11 : a ≠ b2 := Nat.ne_of_lt (Nat.lt_of_lt_of_le Ea.lt P5)
  have g12 : n0 ≤ b2 := Nat.le_trans O0.le P5
  have z13 : h0.size ≤ b2 := Nat.le_trans K0.1 P5
  have F14 := Ea.keep P4
  have O15 := O0.keep P4 (allS ga all0)
  have K16 := K0.trans P4 (allS (Or.inl (List.mem_of_getElem? (i := 0) rfl)) all0)
  refine own_G.st (T' := T1) 6 [] (fun _ kq => st1.trans kq) ?_
  exact own_ret X1 rfl (v := none) (fun _ => rfl) Bd.notSynchronized ⟨b2, x3, rfl, N1, K16, z13, P6, P7, P8, P9, P10⟩ (by decide) (by decide) (fun fs hr => X1.returnOut hx Bd.returns (hb hby d20_6) hr)
theorem d37_0 : decode jdk_68_method_64_code 0 = .ok (.aload_n 0, 1) := by decide +kernel
theorem d37_1 : decode jdk_68_method_64_code 1 = .ok (.getfield 15, 3) := by decide +kernel
theorem d37_4 : decode jdk_68_method_64_code 4 = .ok (.areturn, 1) := by decide +kernel
theorem ef_getval (m : MethodId) (a : Addr) : entryFrame m #[(.ref a)] 1 = mkF m 0 #[rv a] [] := by
  first | (simp [entryFrame, mkF, argsToLocals, Value.category]; done) | rfl
def Q_getval (Z : State) (a : Addr) (t : Addr) (h0 : Heap) (n0 : Nat) (v : Option Value) (h : Heap) (L : List Loc) : Prop := v = some (.ref t) ∧ Fr n0 L ∧ h = h0
set_option maxRecDepth 65536 in
set_option maxHeartbeats 40000000 in
theorem rm_getval (l : Launch) (Z : State) (a0 : Array Value) (hw : ∀ d ∈ tables_1, d.before a0 Z = true) (ws : List Jvm.Cond) (a : Addr) (t : Addr) (h0 : Heap) (n0 : Nat) (O0 : Old Z n0 h0) (Gv : Fld Z h0 a "java/lang/AbstractStringBuilder" "value" "[B" (.ref t)) :
    MetFree l own_y12 (head1 (Jvm.Cond.code own_y12 jdk_68_method_64_code 1 (some (.array .byte)) :: ws) ({ frames := 0, cells := 0, slots := 0, locals := 0 } : Room)) (fun aq_ Uq_ => aq_ = #[(.ref a)] ∧ Z.Warmed39 Uq_.vm ∧ Uq_.heap = h0) (fun _ _ _ _ _ => True) (fun _ Uq_ oq_ Ur_ => ∃ vq_ Lq_, oq_ = .returned vq_ ∧ Q_getval Z a t h0 n0 vq_ Ur_.heap Lq_ ∧ FrameEnd Uq_ oq_ Ur_ Lq_ ({ frames := 0, cells := 0, slots := 0, locals := 0 } : Room).cells ({ frames := 0, cells := 0, slots := 0, locals := 0 } : Room).slots) := by
  refine MetFree.of_bodySF (plainFor_of_name pn_java_2flang_2fAbstractStringBuilder) hisR ?_
  intro p e s m args below meth c s₁ Bd hml0 hP hK
  obtain ⟨rfl, hZ, hh⟩ := hP
  have W_ : ∀ {d : Jvm.Cond} (i : Nat), tables_1[i]? = some d → d.before a0 Z = true := fun i h => hw _ (List.mem_of_getElem? h)
  have hx := Bd.exec
  have hby := Bd.bytes
  have hml : c.maxLocals = 1 := hml0
  have hown : s.vm.findClass "java/lang/AbstractStringBuilder" = some m.cls := findClass_of_methodNamed Bd.named
  have hnm := (name_of_methodNamed Bd.named Bd.method).1
  have X0 : Stand p l e ({ frames := 0, cells := 0, slots := 0, locals := 0 } : Room) s m #[(.ref a)] below meth c s₁ [] 0 0 := Stand.of_body Bd
  have e0 : s₁.heap = h0 := by rw [← hh, Bd.state]; rfl
  have N0 := Fr.nil n0
  have K0 := Keep.refl h0 []
  refine own_G.start (Q := Q_getval Z a t h0 n0) (ef_getval m a) ?_
  refine own_G.sk 1 [(.ref a)] (fun _ kq => XS.aloadN X0.here hx rfl (hb hby d37_0) rfl rfl kq) ?_
  obtain ⟨T1, X1, e1, st1⟩ := getF X0 hx hZ hown (host := "") (Or.inl (W_ 120 rfl)) Via.refl e0 Gv (g := (mkF m 1 #[rv a] [(.ref a)])) rfl rfl (hb hby d37_1)
  refine own_G.st (T' := T1) 4 [(.ref t)] st1 ?_
  exact own_ret X1 e1 (v := some (.ref t)) (fun h => by rw [Bd.returns] at h; cases h) Bd.notSynchronized ⟨rfl, N0, rfl⟩ (by decide) (by decide) (fun fs hr => own_retR X1 hx Bd.returns rfl rfl (hb hby d37_4) hr)
theorem d39_0 : decode jdk_68_method_6_code 0 = .ok (.aload_n 0, 1) := by decide +kernel
theorem d39_1 : decode jdk_68_method_6_code 1 = .ok (.getfield 79, 3) := by decide +kernel
theorem d39_4 : decode jdk_68_method_6_code 4 = .ok (.ireturn, 1) := by decide +kernel
theorem ef_asblen (m : MethodId) (a : Addr) : entryFrame m #[(.ref a)] 1 = mkF m 0 #[rv a] [] := by
  first | (simp [entryFrame, mkF, argsToLocals, Value.category]; done) | rfl
def Q_asblen (Z : State) (a : Addr) (n : Int32) (h0 : Heap) (n0 : Nat) (v : Option Value) (h : Heap) (L : List Loc) : Prop := v = some (.int n) ∧ Fr n0 L ∧ h = h0
set_option maxRecDepth 65536 in
set_option maxHeartbeats 40000000 in
theorem rm_asblen (l : Launch) (Z : State) (a0 : Array Value) (hw : ∀ d ∈ tables_1, d.before a0 Z = true) (ws : List Jvm.Cond) (a : Addr) (n : Int32) (h0 : Heap) (n0 : Nat) (O0 : Old Z n0 h0) (Gn : Fld Z h0 a "java/lang/AbstractStringBuilder" "count" "I" (.int n)) :
    MetFree l own_y13 (head1 (Jvm.Cond.code own_y13 jdk_68_method_6_code 1 (some .int) :: ws) ({ frames := 0, cells := 0, slots := 0, locals := 0 } : Room)) (fun aq_ Uq_ => aq_ = #[(.ref a)] ∧ Z.Warmed39 Uq_.vm ∧ Uq_.heap = h0) (fun _ _ _ _ _ => True) (fun _ Uq_ oq_ Ur_ => ∃ vq_ Lq_, oq_ = .returned vq_ ∧ Q_asblen Z a n h0 n0 vq_ Ur_.heap Lq_ ∧ FrameEnd Uq_ oq_ Ur_ Lq_ ({ frames := 0, cells := 0, slots := 0, locals := 0 } : Room).cells ({ frames := 0, cells := 0, slots := 0, locals := 0 } : Room).slots) := by
  refine MetFree.of_bodySF (plainFor_of_name pn_java_2flang_2fAbstractStringBuilder) hisR ?_
  intro p e s m args below meth c s₁ Bd hml0 hP hK
  obtain ⟨rfl, hZ, hh⟩ := hP
  have W_ : ∀ {d : Jvm.Cond} (i : Nat), tables_1[i]? = some d → d.before a0 Z = true := fun i h => hw _ (List.mem_of_getElem? h)
  have hx := Bd.exec
  have hby := Bd.bytes
  have hml : c.maxLocals = 1 := hml0
  have hown : s.vm.findClass "java/lang/AbstractStringBuilder" = some m.cls := findClass_of_methodNamed Bd.named
  have hnm := (name_of_methodNamed Bd.named Bd.method).1
  have X0 : Stand p l e ({ frames := 0, cells := 0, slots := 0, locals := 0 } : Room) s m #[(.ref a)] below meth c s₁ [] 0 0 := Stand.of_body Bd
  have e0 : s₁.heap = h0 := by rw [← hh, Bd.state]; rfl
  have N0 := Fr.nil n0
  have K0 := Keep.refl h0 []
  refine own_G.start (Q := Q_asblen Z a n h0 n0) (ef_asblen m a) ?_
  refine own_G.sk 1 [(.ref a)] (fun _ kq => XS.aloadN X0.here hx rfl (hb hby d39_0) rfl rfl kq) ?_
  obtain ⟨T1, X1, e1, st1⟩ := getF X0 hx hZ hown (host := "") (Or.inl (W_ 139 rfl)) Via.refl e0 Gn (g := (mkF m 1 #[rv a] [(.ref a)])) rfl rfl (hb hby d39_1)
  refine own_G.st (T' := T1) 4 [(.int n)] st1 ?_
  exact own_ret X1 e1 (v := some (.int n)) (fun h => by rw [Bd.returns] at h; cases h) Bd.notSynchronized ⟨rfl, N0, rfl⟩ (by decide) (by decide) (fun fs hr => retI X1 hx Bd.returns (hb hby d39_4) hr)
theorem pd__28_29I : parseMethodDescriptor "()I" = some ⟨[], some .int⟩ := by decide +kernel
theorem d38_0 : decode jdk_67_method_93_code 0 = .ok (.aload_n 0, 1) := by decide +kernel
theorem d38_1 : decode jdk_67_method_93_code 1 = .ok (.invokespecial 343, 3) := by decide +kernel
theorem d38_4 : decode jdk_67_method_93_code 4 = .ok (.ireturn, 1) := by decide +kernel
theorem ef_sblen (m : MethodId) (a : Addr) : entryFrame m #[(.ref a)] 1 = mkF m 0 #[rv a] [] := by
  first | (simp [entryFrame, mkF, argsToLocals, Value.category]; done) | rfl
def Q_sblen (Z : State) (a : Addr) (n : Int32) (h0 : Heap) (n0 : Nat) (v : Option Value) (h : Heap) (L : List Loc) : Prop := v = some (.int n) ∧ Fr n0 L ∧ h = h0
set_option maxRecDepth 65536 in
set_option maxHeartbeats 40000000 in
theorem rm_sblen (l : Launch) (Z : State) (a0 : Array Value) (hw : ∀ d ∈ tables_1, d.before a0 Z = true) (ws : List Jvm.Cond) (a : Addr) (n : Int32) (h0 : Heap) (n0 : Nat) (O0 : Old Z n0 h0) (Ea : Exa Z h0 a "java/lang/StringBuilder") (Gn : Fld Z h0 a "java/lang/AbstractStringBuilder" "count" "I" (.int n)) :
    MetFree l own_y14 (head1 (Jvm.Cond.code own_y14 jdk_67_method_93_code 1 (some .int) :: ws) ({ frames := 1, cells := 0, slots := 0, locals := 12 } : Room)) (fun aq_ Uq_ => aq_ = #[(.ref a)] ∧ Z.Warmed39 Uq_.vm ∧ Uq_.heap = h0) (fun _ _ _ _ _ => True) (fun _ Uq_ oq_ Ur_ => ∃ vq_ Lq_, oq_ = .returned vq_ ∧ Q_sblen Z a n h0 n0 vq_ Ur_.heap Lq_ ∧ FrameEnd Uq_ oq_ Ur_ Lq_ ({ frames := 1, cells := 0, slots := 0, locals := 12 } : Room).cells ({ frames := 1, cells := 0, slots := 0, locals := 12 } : Room).slots) := by
  refine MetFree.of_bodySF (plainFor_of_name pn_java_2flang_2fStringBuilder) hisR ?_
  intro p e s m args below meth c s₁ Bd hml0 hP hK
  obtain ⟨rfl, hZ, hh⟩ := hP
  have W_ : ∀ {d : Jvm.Cond} (i : Nat), tables_1[i]? = some d → d.before a0 Z = true := fun i h => hw _ (List.mem_of_getElem? h)
  have hx := Bd.exec
  have hby := Bd.bytes
  have hml : c.maxLocals = 1 := hml0
  have hown : s.vm.findClass "java/lang/StringBuilder" = some m.cls := findClass_of_methodNamed Bd.named
  have hnm := (name_of_methodNamed Bd.named Bd.method).1
  have X0 : Stand p l e ({ frames := 1, cells := 0, slots := 0, locals := 12 } : Room) s m #[(.ref a)] below meth c s₁ [] 0 0 := Stand.of_body Bd
  have e0 : s₁.heap = h0 := by rw [← hh, Bd.state]; rfl
  have N0 := Fr.nil n0
  have K0 := Keep.refl h0 []
  refine own_G.start (Q := Q_sblen Z a n h0 n0) (ef_sblen m a) ?_
  refine own_G.sk 1 [(.ref a)] (fun _ kq => XS.aloadN X0.here hx rfl (hb hby d38_0) rfl rfl kq) ?_
  obtain ⟨_, _, ⟨T1, L1, k1, n1⟩, -, X1, ⟨Lc1, hQ1, l1, y1, z1⟩, st1⟩ := superBack X0 hx hZ (y := own_y13) hown (W_ 211 rfl) (own_same (W_ 206 rfl) (W_ 144 rfl) rfl (by decide)) (W_ 207 rfl) (W_ 131 rfl) (by decide) (backOf (W := 0) (rm_asblen l Z a0 hw [] a n h0 n0 O0 Gn) hZ (W_ 212 rfl) (W_ 116 rfl) (by decide) (by decide)) e0 (Ins.self Ea) (g := (mkF m 1 #[rv a] [(.ref a)])) rfl (by rw [hml]; rfl) (W_ 212 rfl) (argsL := []) (rest := []) (lenOf pd__28_29I rfl) rfl (by show 2 * 0 + _ ≤ _; exact Nat.le_of_eq rfl) (hb hby d38_1) (fun _ _ => ⟨rfl, e0, (by decide : 0 + 0 ≤ _), (by decide : 0 + 0 ≤ _)⟩)
  dsimp only [Pt.U, Pt.locs, Pt.cells, Pt.slots] at X1 l1 y1 z1 st1 hQ1
  subst l1 y1 z1
  obtain ⟨rfl, Nq1, P2⟩ := hQ1
  have N1 := Fr.app N0 Nq1
  refine own_G.st (T' := T1) 4 [(.int n)] (fun _ kq => st1.trans kq) ?_
  exact own_ret X1 P2 (v := some (.int n)) (fun h => by rw [Bd.returns] at h; cases h) Bd.notSynchronized ⟨rfl, N1, rfl⟩ (by decide) (by decide) (fun fs hr => retI X1 hx Bd.returns (hb hby d38_4) hr)
theorem d32_0 : decode jdk_68_method_68_code 0 = .ok (.getstatic 18, 3) := by decide +kernel
theorem d32_3 : decode jdk_68_method_68_code 3 = .ok (.ifCond .eq 14, 3) := by decide +kernel
theorem d32_6 : decode jdk_68_method_68_code 6 = .ok (.aload_n 0, 1) := by decide +kernel
theorem d32_7 : decode jdk_68_method_68_code 7 = .ok (.getfield 22, 3) := by decide +kernel
theorem d32_10 : decode jdk_68_method_68_code 10 = .ok (.ifCond .ne 7, 3) := by decide +kernel
theorem d32_13 : decode jdk_68_method_68_code 13 = .ok (.iconst 1, 1) := by decide +kernel
theorem d32_14 : decode jdk_68_method_68_code 14 = .ok (.goto 4, 3) := by decide +kernel
theorem d32_18 : decode jdk_68_method_68_code 18 = .ok (.ireturn, 1) := by decide +kernel
theorem ef_asblat (m : MethodId) (a : Addr) : entryFrame m #[(.ref a)] 1 = mkF m 0 #[rv a] [] := by
  first | (simp [entryFrame, mkF, argsToLocals, Value.category]; done) | rfl
def Q_asblat (Z : State) (a : Addr) (csz : Int32) (h0 : Heap) (n0 : Nat) (v : Option Value) (h : Heap) (L : List Loc) : Prop := v = some (.int 1) ∧ Fr n0 L ∧ h = h0
set_option maxRecDepth 65536 in
set_option maxHeartbeats 40000000 in
theorem rm_asblat (l : Launch) (Z : State) (a0 : Array Value) (hw : ∀ d ∈ tables_1, d.before a0 Z = true) (ws : List Jvm.Cond) (a : Addr) (csz : Int32) (h0 : Heap) (n0 : Nat) (O0 : Old Z n0 h0) (S_CS : Sta Z Z.heap "java/lang/String" "COMPACT_STRINGS" "Z" (.int csz)) (hcs : ¬ csz = (0 : Int32)) (Gc : Fld Z h0 a "java/lang/AbstractStringBuilder" "coder" "B" (.int 0)) :
    MetFree l own_y15 (head1 (Jvm.Cond.code own_y15 jdk_68_method_68_code 1 (some .boolean) :: ws) ({ frames := 0, cells := 0, slots := 0, locals := 0 } : Room)) (fun aq_ Uq_ => aq_ = #[(.ref a)] ∧ Z.Warmed39 Uq_.vm ∧ Uq_.heap = h0) (fun _ _ _ _ _ => True) (fun _ Uq_ oq_ Ur_ => ∃ vq_ Lq_, oq_ = .returned vq_ ∧ Q_asblat Z a csz h0 n0 vq_ Ur_.heap Lq_ ∧ FrameEnd Uq_ oq_ Ur_ Lq_ ({ frames := 0, cells := 0, slots := 0, locals := 0 } : Room).cells ({ frames := 0, cells := 0, slots := 0, locals := 0 } : Room).slots) := by
  refine MetFree.of_bodySF (plainFor_of_name pn_java_2flang_2fAbstractStringBuilder) hisR ?_
  intro p e s m args below meth c s₁ Bd hml0 hP hK
  obtain ⟨rfl, hZ, hh⟩ := hP
  have W_ : ∀ {d : Jvm.Cond} (i : Nat), tables_1[i]? = some d → d.before a0 Z = true := fun i h => hw _ (List.mem_of_getElem? h)
  have hx := Bd.exec
  have hby := Bd.bytes
  have hml : c.maxLocals = 1 := hml0
  have hown : s.vm.findClass "java/lang/AbstractStringBuilder" = some m.cls := findClass_of_methodNamed Bd.named
  have hnm := (name_of_methodNamed Bd.named Bd.method).1
  have X0 : Stand p l e ({ frames := 0, cells := 0, slots := 0, locals := 0 } : Room) s m #[(.ref a)] below meth c s₁ [] 0 0 := Stand.of_body Bd
  have e0 : s₁.heap = h0 := by rw [← hh, Bd.state]; rfl
  have N0 := Fr.nil n0
  have K0 := Keep.refl h0 []
  refine own_G.start (Q := Q_asblat Z a csz h0 n0) (ef_asblat m a) ?_
  obtain ⟨T1, X1, e1, st1⟩ := getS2 X0 hx hZ hown (host := "") (Or.inl (W_ 119 rfl)) Via.refl e0 (Sta.ext O0.2 S_CS) (g := (mkF m 0 #[rv a] [])) rfl (hb hby d32_0)
  refine own_G.st (T' := T1) 3 [(.int csz)] st1 ?_
  have hc3 : ¬ (csz = (0 : Int32)) := hcs
  refine own_G.sk 6 [] (fun _ kq => XS.ifNo X1.here hx rfl (hb hby d32_3) rfl ((if0 _ _).trans (feq hc3).1) kq) ?_
  refine own_G.sk 7 [(.ref a)] (fun _ kq => XS.aloadN X1.here hx rfl (hb hby d32_6) rfl rfl kq) ?_
  obtain ⟨T2, X2, e2, st2⟩ := getF X1 hx hZ hown (host := "") (Or.inl (W_ 122 rfl)) Via.refl e1 Gc (g := (mkF m 7 #[rv a] [(.ref a)])) rfl rfl (hb hby d32_7)
  refine own_G.st (T' := T2) 10 [(.int 0)] st2 ?_
  have hc10 : (0 : Int32) = (0 : Int32) := rfl
  refine own_G.sk 13 [] (fun _ kq => XS.ifNo X2.here hx rfl (hb hby d32_10) rfl ((if0 _ _).trans (teq hc10).2) kq) ?_
  refine own_G.sk 14 [(.int 1)] (fun _ kq => XS.iconst X2.here hx rfl (hb hby d32_13) kq) ?_
  refine own_G.sk 18 [(.int 1)] (fun _ kq => XS.goto X2.here hx rfl (pc0 := 14) (pc' := 18) rfl (hb hby d32_14) (by decide) (by decide) kq) ?_
  exact own_ret X2 e2 (v := some (.int 1)) (fun h => by rw [Bd.returns] at h; cases h) Bd.notSynchronized ⟨rfl, N0, rfl⟩ (by decide) (by decide) (fun fs hr => retN X2 hx (t := .boolean) Bd.returns (by simp) (hb hby d32_18) hr)
theorem d43_0 : decode jdk_29_method_69_code 0 = .ok (.iload_n 0, 1) := by decide +kernel
theorem d43_1 : decode jdk_29_method_69_code 1 = .ok (.iload_n 1, 1) := by decide +kernel
theorem d43_2 : decode jdk_29_method_69_code 2 = .ok (.if_icmp .gt 7, 3) := by decide +kernel
theorem d43_5 : decode jdk_29_method_69_code 5 = .ok (.iload_n 0, 1) := by decide +kernel
theorem d43_6 : decode jdk_29_method_69_code 6 = .ok (.goto 4, 3) := by decide +kernel
theorem d43_9 : decode jdk_29_method_69_code 9 = .ok (.iload_n 1, 1) := by decide +kernel
theorem d43_10 : decode jdk_29_method_69_code 10 = .ok (.ireturn, 1) := by decide +kernel
theorem ef_min (m : MethodId) (x : Int32) (y : Int32) : entryFrame m #[(.int x), (.int y)] 2 = mkF m 0 #[iv x, iv y] [] := by
  first | (simp [entryFrame, mkF, argsToLocals, Value.category]; done) | rfl
def Q_min (Z : State) (x : Int32) (y : Int32) (h0 : Heap) (n0 : Nat) (v : Option Value) (h : Heap) (L : List Loc) : Prop := v = some (.int (own_min x y)) ∧ Fr n0 L ∧ h = h0
set_option maxRecDepth 65536 in
set_option maxHeartbeats 40000000 in
theorem rm_min (l : Launch) (Z : State) (a0 : Array Value) (hw : ∀ d ∈ tables_1, d.before a0 Z = true) (ws : List Jvm.Cond) (x : Int32) (y : Int32) (h0 : Heap) (n0 : Nat) (O0 : Old Z n0 h0) :
    MetFree l own_y16 (head1 (Jvm.Cond.code own_y16 jdk_29_method_69_code 2 (some .int) :: ws) ({ frames := 0, cells := 0, slots := 0, locals := 0 } : Room)) (fun aq_ Uq_ => aq_ = #[(.int x), (.int y)] ∧ Z.Warmed39 Uq_.vm ∧ Uq_.heap = h0) (fun _ _ _ _ _ => True) (fun _ Uq_ oq_ Ur_ => ∃ vq_ Lq_, oq_ = .returned vq_ ∧ Q_min Z x y h0 n0 vq_ Ur_.heap Lq_ ∧ FrameEnd Uq_ oq_ Ur_ Lq_ ({ frames := 0, cells := 0, slots := 0, locals := 0 } : Room).cells ({ frames := 0, cells := 0, slots := 0, locals := 0 } : Room).slots) := by
  refine MetFree.of_bodySF (Jvm.Free.JP.mathPlain rfl (by decide +kernel)) hisR ?_
  intro p e s m args below meth c s₁ Bd hml0 hP hK
  obtain ⟨rfl, hZ, hh⟩ := hP
  have W_ : ∀ {d : Jvm.Cond} (i : Nat), tables_1[i]? = some d → d.before a0 Z = true := fun i h => hw _ (List.mem_of_getElem? h)
  have hx := Bd.exec
  have hby := Bd.bytes
  have hml : c.maxLocals = 2 := hml0
  have hown : s.vm.findClass "java/lang/Math" = some m.cls := findClass_of_methodNamed Bd.named
  have hnm := (name_of_methodNamed Bd.named Bd.method).1
  have X0 : Stand p l e ({ frames := 0, cells := 0, slots := 0, locals := 0 } : Room) s m #[(.int x), (.int y)] below meth c s₁ [] 0 0 := Stand.of_body Bd
  have e0 : s₁.heap = h0 := by rw [← hh, Bd.state]; rfl
  have N0 := Fr.nil n0
  have K0 := Keep.refl h0 []
  refine own_G.start (Q := Q_min Z x y h0 n0) (ef_min m x y) ?_
  refine own_G.sk 1 [(.int x)] (fun _ kq => XS.iloadN X0.here hx rfl (hb hby d43_0) rfl kq) ?_
  refine own_G.sk 2 [(.int y), (.int x)] (fun _ kq => XS.iloadN X0.here hx rfl (hb hby d43_1) rfl kq) ?_
  rcases Classical.em (y < x) with hc2 | hc2
  · refine own_G.sk 9 [] (fun _ kq => XS.icmpYes X0.here hx rfl (pc0 := 2) (pc' := 9) rfl (hb hby d43_2) rfl (tlt hc2).2.2.1 (by decide) (by decide) kq) ?_
    refine own_G.sk 10 [(.int y)] (fun _ kq => XS.iloadN X0.here hx rfl (hb hby d43_9) rfl kq) ?_
    exact own_ret X0 e0 (v := some (.int y)) (fun h => by rw [Bd.returns] at h; cases h) Bd.notSynchronized ⟨(by simp [own_min, hc2]), N0, rfl⟩ (by decide) (by decide) (fun fs hr => retI X0 hx Bd.returns (hb hby d43_10) hr)
  · refine own_G.sk 5 [] (fun _ kq => XS.icmpNo X0.here hx rfl (hb hby d43_2) rfl (flt hc2).2.2.1 kq) ?_
    refine own_G.sk 6 [(.int x)] (fun _ kq => XS.iloadN X0.here hx rfl (hb hby d43_5) rfl kq) ?_
    refine own_G.sk 10 [(.int x)] (fun _ kq => XS.goto X0.here hx rfl (pc0 := 6) (pc' := 10) rfl (hb hby d43_6) (by decide) (by decide) kq) ?_
    exact own_ret X0 e0 (v := some (.int x)) (fun h => by rw [Bd.returns] at h; cases h) Bd.notSynchronized ⟨(by simp [own_min, hc2]), N0, rfl⟩ (by decide) (by decide) (fun fs hr => retI X0 hx Bd.returns (hb hby d43_10) hr)
theorem d42_0 : decode jdk_65_method_131_code 0 = .ok (.iload_n 1, 1) := by decide +kernel
theorem d42_1 : decode jdk_65_method_131_code 1 = .ok (.iload_n 0, 1) := by decide +kernel
theorem d42_2 : decode jdk_65_method_131_code 2 = .ok (.if_icmp .ge 35, 3) := by decide +kernel
theorem d42_37 : decode jdk_65_method_131_code 37 = .ok (.return_, 1) := by decide +kernel
theorem pn_java_2futil_2fArrays : plainName "java/util/Arrays" = true := by first | (simp [plainName, overriddenIn]; done) | decide +kernel
theorem ef_chklen (m : MethodId) (x : Int32) (y : Int32) : entryFrame m #[(.int x), (.int y)] 2 = mkF m 0 #[iv x, iv y] [] := by
  first | (simp [entryFrame, mkF, argsToLocals, Value.category]; done) | rfl
def Q_chklen (Z : State) (x : Int32) (y : Int32) (h0 : Heap) (n0 : Nat) (v : Option Value) (h : Heap) (L : List Loc) : Prop := v = none ∧ Fr n0 L ∧ h = h0
set_option maxRecDepth 65536 in
set_option maxHeartbeats 40000000 in
theorem rm_chklen (l : Launch) (Z : State) (a0 : Array Value) (hw : ∀ d ∈ tables_1, d.before a0 Z = true) (ws : List Jvm.Cond) (x : Int32) (y : Int32) (h0 : Heap) (n0 : Nat) (O0 : Old Z n0 h0) (h1 : ¬ y < x) :
    MetFree l own_y17 (head1 (Jvm.Cond.code own_y17 jdk_65_method_131_code 2 none :: ws) ({ frames := 0, cells := 0, slots := 0, locals := 0 } : Room)) (fun aq_ Uq_ => aq_ = #[(.int x), (.int y)] ∧ Z.Warmed39 Uq_.vm ∧ Uq_.heap = h0) (fun _ _ _ _ _ => True) (fun _ Uq_ oq_ Ur_ => ∃ vq_ Lq_, oq_ = .returned vq_ ∧ Q_chklen Z x y h0 n0 vq_ Ur_.heap Lq_ ∧ FrameEnd Uq_ oq_ Ur_ Lq_ ({ frames := 0, cells := 0, slots := 0, locals := 0 } : Room).cells ({ frames := 0, cells := 0, slots := 0, locals := 0 } : Room).slots) := by
  refine MetFree.of_bodySF (plainFor_of_name pn_java_2futil_2fArrays) hisR ?_
  intro p e s m args below meth c s₁ Bd hml0 hP hK
  obtain ⟨rfl, hZ, hh⟩ := hP
  have W_ : ∀ {d : Jvm.Cond} (i : Nat), tables_1[i]? = some d → d.before a0 Z = true := fun i h => hw _ (List.mem_of_getElem? h)
  have hx := Bd.exec
  have hby := Bd.bytes
  have hml : c.maxLocals = 2 := hml0
  have hown : s.vm.findClass "java/util/Arrays" = some m.cls := findClass_of_methodNamed Bd.named
  have hnm := (name_of_methodNamed Bd.named Bd.method).1
  have X0 : Stand p l e ({ frames := 0, cells := 0, slots := 0, locals := 0 } : Room) s m #[(.int x), (.int y)] below meth c s₁ [] 0 0 := Stand.of_body Bd
  have e0 : s₁.heap = h0 := by rw [← hh, Bd.state]; rfl
  have N0 := Fr.nil n0
  have K0 := Keep.refl h0 []
  refine own_G.start (Q := Q_chklen Z x y h0 n0) (ef_chklen m x y) ?_
  refine own_G.sk 1 [(.int y)] (fun _ kq => XS.iloadN X0.here hx rfl (hb hby d42_0) rfl kq) ?_
  refine own_G.sk 2 [(.int x), (.int y)] (fun _ kq => XS.iloadN X0.here hx rfl (hb hby d42_1) rfl kq) ?_
  have hc2 : ¬ (y < x) := h1
  refine own_G.sk 37 [] (fun _ kq => XS.icmpYes X0.here hx rfl (pc0 := 2) (pc' := 37) rfl (hb hby d42_2) rfl (flt hc2).2.1 (by decide) (by decide) kq) ?_
  exact own_ret X0 e0 (v := none) (fun _ => rfl) Bd.notSynchronized ⟨rfl, N0, rfl⟩ (by decide) (by decide) (fun fs hr => X0.returnOut hx Bd.returns (hb hby d42_37) hr)
theorem d31_0 : decode jdk_33_method_13_code 0 = .ok (.iconst 1, 1) := by decide +kernel
theorem d31_1 : decode jdk_33_method_13_code 1 = .ok (.istore_n 1, 1) := by decide +kernel
theorem d31_2 : decode jdk_33_method_13_code 2 = .ok (.iload_n 0, 1) := by decide +kernel
theorem d31_3 : decode jdk_33_method_13_code 3 = .ok (.ifCond .lt 8, 3) := by decide +kernel
theorem d31_6 : decode jdk_33_method_13_code 6 = .ok (.iconst 0, 1) := by decide +kernel
theorem d31_7 : decode jdk_33_method_13_code 7 = .ok (.istore_n 1, 1) := by decide +kernel
theorem d31_8 : decode jdk_33_method_13_code 8 = .ok (.iload_n 0, 1) := by decide +kernel
theorem d31_9 : decode jdk_33_method_13_code 9 = .ok (.ineg, 1) := by decide +kernel
theorem d31_10 : decode jdk_33_method_13_code 10 = .ok (.istore_n 0, 1) := by decide +kernel
theorem d31_11 : decode jdk_33_method_13_code 11 = .ok (.bipush (-10), 2) := by decide +kernel
theorem d31_13 : decode jdk_33_method_13_code 13 = .ok (.istore_n 2, 1) := by decide +kernel
theorem d31_14 : decode jdk_33_method_13_code 14 = .ok (.iconst 1, 1) := by decide +kernel
theorem d31_15 : decode jdk_33_method_13_code 15 = .ok (.istore_n 3, 1) := by decide +kernel
theorem d31_16 : decode jdk_33_method_13_code 16 = .ok (.iload_n 3, 1) := by decide +kernel
theorem d31_17 : decode jdk_33_method_13_code 17 = .ok (.bipush 10, 2) := by decide +kernel
theorem d31_19 : decode jdk_33_method_13_code 19 = .ok (.if_icmp .ge 23, 3) := by decide +kernel
theorem d31_22 : decode jdk_33_method_13_code 22 = .ok (.iload_n 0, 1) := by decide +kernel
theorem d31_23 : decode jdk_33_method_13_code 23 = .ok (.iload_n 2, 1) := by decide +kernel
theorem d31_24 : decode jdk_33_method_13_code 24 = .ok (.if_icmp .le 7, 3) := by decide +kernel
theorem d31_27 : decode jdk_33_method_13_code 27 = .ok (.iload_n 3, 1) := by decide +kernel
theorem d31_28 : decode jdk_33_method_13_code 28 = .ok (.iload_n 1, 1) := by decide +kernel
theorem d31_29 : decode jdk_33_method_13_code 29 = .ok (.iadd, 1) := by decide +kernel
theorem d31_30 : decode jdk_33_method_13_code 30 = .ok (.ireturn, 1) := by decide +kernel
theorem d31_31 : decode jdk_33_method_13_code 31 = .ok (.bipush 10, 2) := by decide +kernel
theorem d31_33 : decode jdk_33_method_13_code 33 = .ok (.iload_n 2, 1) := by decide +kernel
theorem d31_34 : decode jdk_33_method_13_code 34 = .ok (.imul, 1) := by decide +kernel
theorem d31_35 : decode jdk_33_method_13_code 35 = .ok (.istore_n 2, 1) := by decide +kernel
theorem d31_36 : decode jdk_33_method_13_code 36 = .ok (.iinc 3 1, 3) := by decide +kernel
theorem d31_39 : decode jdk_33_method_13_code 39 = .ok (.goto (-23), 3) := by decide +kernel
theorem pn_java_2flang_2fInteger : plainName "java/lang/Integer" = true := by first | (simp [plainName, overriddenIn]; done) | decide +kernel
theorem ef_ssize (m : MethodId) (pp : Int32) : entryFrame m #[(.int pp)] 4 = mkF m 0 #[iv pp, .unset, .unset, .unset] [] := by
  first | (simp [entryFrame, mkF, argsToLocals, Value.category]; done) | rfl
def Q_ssize (Z : State) (pp : Int32) (h0 : Heap) (n0 : Nat) (v : Option Value) (h : Heap) (L : List Loc) : Prop := v = some (.int (own_ss pp)) ∧ Fr n0 L ∧ h = h0
set_option maxRecDepth 65536 in
set_option maxHeartbeats 40000000 in
theorem rm_ssize (l : Launch) (Z : State) (a0 : Array Value) (hw : ∀ d ∈ tables_1, d.before a0 Z = true) (ws : List Jvm.Cond) (pp : Int32) (h0 : Heap) (n0 : Nat) (O0 : Old Z n0 h0) (hp0 : 0 ≤ pp.toInt) (hp1 : pp.toInt ≤ 65535) :
    MetFree l own_y18 (head1 (Jvm.Cond.code own_y18 jdk_33_method_13_code 4 (some .int) :: ws) ({ frames := 0, cells := 0, slots := 0, locals := 0 } : Room)) (fun aq_ Uq_ => aq_ = #[(.int pp)] ∧ Z.Warmed39 Uq_.vm ∧ Uq_.heap = h0) (fun _ _ _ _ _ => True) (fun _ Uq_ oq_ Ur_ => ∃ vq_ Lq_, oq_ = .returned vq_ ∧ Q_ssize Z pp h0 n0 vq_ Ur_.heap Lq_ ∧ FrameEnd Uq_ oq_ Ur_ Lq_ ({ frames := 0, cells := 0, slots := 0, locals := 0 } : Room).cells ({ frames := 0, cells := 0, slots := 0, locals := 0 } : Room).slots) := by
  refine MetFree.of_bodySF (plainFor_of_name pn_java_2flang_2fInteger) hisR ?_
  intro p e s m args below meth c s₁ Bd hml0 hP hK
  obtain ⟨rfl, hZ, hh⟩ := hP
  have W_ : ∀ {d : Jvm.Cond} (i : Nat), tables_1[i]? = some d → d.before a0 Z = true := fun i h => hw _ (List.mem_of_getElem? h)
  have hx := Bd.exec
  have hby := Bd.bytes
  have hml : c.maxLocals = 4 := hml0
  have hown : s.vm.findClass "java/lang/Integer" = some m.cls := findClass_of_methodNamed Bd.named
  have hnm := (name_of_methodNamed Bd.named Bd.method).1
  have X0 : Stand p l e ({ frames := 0, cells := 0, slots := 0, locals := 0 } : Room) s m #[(.int pp)] below meth c s₁ [] 0 0 := Stand.of_body Bd
  have e0 : s₁.heap = h0 := by rw [← hh, Bd.state]; rfl
  have N0 := Fr.nil n0
  have K0 := Keep.refl h0 []
  refine own_G.start (Q := Q_ssize Z pp h0 n0) (ef_ssize m pp) ?_
  refine own_G.sk 1 [(.int 1)] (fun _ kq => XS.iconst X0.here hx rfl (hb hby d31_0) kq) ?_
  refine own_G.si 2 [] (fun _ kq => XS.istoreN X0.here hx rfl (hb hby d31_1) rfl (l' := #[iv pp, iv 1, .unset, .unset]) rfl kq) ?_
  refine own_G.sk 3 [(.int pp)] (fun _ kq => XS.iloadN X0.here hx rfl (hb hby d31_2) rfl kq) ?_
  have hc3 : ¬ (pp < (0 : Int32)) := (own_pn hp0)
  refine own_G.sk 6 [] (fun _ kq => XS.ifNo X0.here hx rfl (hb hby d31_3) rfl ((if0 _ _).trans (flt hc3).1) kq) ?_
  refine own_G.sk 7 [(.int 0)] (fun _ kq => XS.iconst X0.here hx rfl (hb hby d31_6) kq) ?_
  refine own_G.si 8 [] (fun _ kq => XS.istoreN X0.here hx rfl (hb hby d31_7) rfl (l' := #[iv pp, iv 0, .unset, .unset]) rfl kq) ?_
  refine own_G.sk 9 [(.int pp)] (fun _ kq => XS.iloadN X0.here hx rfl (hb hby d31_8) rfl kq) ?_
  refine own_G.sk 10 [(.int (-pp))] (fun _ kq => XS.ineg X0.here hx rfl (hb hby d31_9) rfl kq) ?_
  refine own_G.si 11 [] (fun _ kq => XS.istoreN X0.here hx rfl (hb hby d31_10) rfl (l' := #[.val (.int (-pp)), iv 0, .unset, .unset]) rfl kq) ?_
  obtain ⟨xx, hxx⟩ : ∃ z, z = (-pp) := ⟨_, rfl⟩
  refine own_G.cast (g' := (mkF m 11 #[iv xx, iv 0, .unset, .unset] [])) (by rw [hxx]) ?_
  have hxI : xx.toInt = -pp.toInt := by rw [hxx]; exact own_neg rfl (by omega) (by omega)
  refine own_G.sk 13 [(.int (-10 : Int32))] (fun _ kq => XS.bipush X0.here hx rfl (hb hby d31_11) kq) ?_
  refine own_G.si 14 [] (fun _ kq => XS.istoreN X0.here hx rfl (hb hby d31_13) rfl (l' := #[iv xx, iv 0, .val (.int (-10 : Int32)), .unset]) rfl kq) ?_
  refine own_G.sk 15 [(.int 1)] (fun _ kq => XS.iconst X0.here hx rfl (hb hby d31_14) kq) ?_
  refine own_G.si 16 [] (fun _ kq => XS.istoreN X0.here hx rfl (hb hby d31_15) rfl (l' := #[iv xx, iv 0, .val (.int (-10 : Int32)), iv 1]) rfl kq) ?_
  refine own_G.sk 17 [(.int 1)] (fun _ kq => XS.iloadN X0.here hx rfl (hb hby d31_16) rfl kq) ?_
  refine own_G.sk 19 [(.int 10), (.int 1)] (fun _ kq => XS.bipush X0.here hx rfl (hb hby d31_17) kq) ?_
  have hc19 : (1 : Int32) < (10 : Int32) := (by decide)
  refine own_G.sk 22 [] (fun _ kq => XS.icmpNo X0.here hx rfl (hb hby d31_19) rfl (tlt hc19).2.1 kq) ?_
  refine own_G.sk 23 [(.int xx)] (fun _ kq => XS.iloadN X0.here hx rfl (hb hby d31_22) rfl kq) ?_
  refine own_G.sk 24 [(.int (-10 : Int32)), (.int xx)] (fun _ kq => XS.iloadN X0.here hx rfl (hb hby d31_23) rfl kq) ?_
  rcases Classical.em ((-10 : Int32) < xx) with hs1 | hs1
  · have hI1 : pp.toInt < 10 := (own_cmp hxI (by decide)).mp hs1
    refine own_G.sk 27 [] (fun _ kq => XS.icmpNo X0.here hx rfl (hb hby d31_24) rfl (tlt hs1).2.2.2 kq) ?_
    refine own_G.sk 28 [(.int 1)] (fun _ kq => XS.iloadN X0.here hx rfl (hb hby d31_27) rfl kq) ?_
    refine own_G.sk 29 [(.int 0), (.int 1)] (fun _ kq => XS.iloadN X0.here hx rfl (hb hby d31_28) rfl kq) ?_
    refine own_G.sk 30 [(.int ((1 : Int32) + (0 : Int32)))] (fun _ kq => XS.iadd X0.here hx rfl (hb hby d31_29) rfl kq) ?_
    exact own_ret X0 e0 (v := some (.int ((1 : Int32) + (0 : Int32)))) (fun h => by rw [Bd.returns] at h; cases h) Bd.notSynchronized ⟨(by rw [own_ss1 hI1]; rfl), N0, rfl⟩ (by decide) (by decide) (fun fs hr => retI X0 hx Bd.returns (hb hby d31_30) hr)
  · have hI1 : ¬ pp.toInt < 10 := fun q => hs1 ((own_cmp hxI (by decide)).mpr q)
    refine own_G.sk 31 [] (fun _ kq => XS.icmpYes X0.here hx rfl (pc0 := 24) (pc' := 31) rfl (hb hby d31_24) rfl (flt hs1).2.2.2 (by decide) (by decide) kq) ?_
    refine own_G.sk 33 [(.int 10)] (fun _ kq => XS.bipush X0.here hx rfl (hb hby d31_31) kq) ?_
    refine own_G.sk 34 [(.int (-10 : Int32)), (.int 10)] (fun _ kq => XS.iloadN X0.here hx rfl (hb hby d31_33) rfl kq) ?_
    refine own_G.sk 35 [(.int ((10 : Int32) * (-10 : Int32)))] (fun _ kq => XS.imul X0.here hx rfl (hb hby d31_34) rfl kq) ?_
    refine own_G.si 36 [] (fun _ kq => XS.istoreN X0.here hx rfl (hb hby d31_35) rfl (l' := #[iv xx, iv 0, .val (.int ((10 : Int32) * (-10 : Int32))), iv 1]) rfl kq) ?_
    have hl1 : ((10 : Int32) * (-10 : Int32)) = (-100 : Int32) := by decide
    refine own_G.cast (g' := (mkF m 36 #[iv xx, iv 0, .val (.int (-100 : Int32)), iv 1] [])) (by rw [hl1]) ?_
    refine own_G.si 39 [] (fun _ kq => XS.iinc X0.here hx rfl (hb hby d31_36) rfl (l' := #[iv xx, iv 0, .val (.int (-100 : Int32)), .val (.int ((1 : Int32) + (1 : Int32)))]) rfl kq) ?_
    have hl2 : ((1 : Int32) + (1 : Int32)) = (2 : Int32) := by decide
    refine own_G.cast (g' := (mkF m 39 #[iv xx, iv 0, .val (.int (-100 : Int32)), iv 2] [])) (by rw [hl2]) ?_
    refine own_G.sk 16 [] (fun _ kq => XS.goto X0.here hx rfl (pc0 := 39) (pc' := 16) rfl (hb hby d31_39) (by decide) (by decide) kq) ?_
    refine own_G.sk 17 [(.int 2)] (fun _ kq => XS.iloadN X0.here hx rfl (hb hby d31_16) rfl kq) ?_
    refine own_G.sk 19 [(.int 10), (.int 2)] (fun _ kq => XS.bipush X0.here hx rfl (hb hby d31_17) kq) ?_
    have hc19 : (2 : Int32) < (10 : Int32) := (by decide)
    refine own_G.sk 22 [] (fun _ kq => XS.icmpNo X0.here hx rfl (hb hby d31_19) rfl (tlt hc19).2.1 kq) ?_
    refine own_G.sk 23 [(.int xx)] (fun _ kq => XS.iloadN X0.here hx rfl (hb hby d31_22) rfl kq) ?_
    refine own_G.sk 24 [(.int (-100 : Int32)), (.int xx)] (fun _ kq => XS.iloadN X0.here hx rfl (hb hby d31_23) rfl kq) ?_
    rcases Classical.em ((-100 : Int32) < xx) with hs2 | hs2
    · have hI2 : pp.toInt < 100 := (own_cmp hxI (by decide)).mp hs2
      refine own_G.sk 27 [] (fun _ kq => XS.icmpNo X0.here hx rfl (hb hby d31_24) rfl (tlt hs2).2.2.2 kq) ?_
      refine own_G.sk 28 [(.int 2)] (fun _ kq => XS.iloadN X0.here hx rfl (hb hby d31_27) rfl kq) ?_
      refine own_G.sk 29 [(.int 0), (.int 2)] (fun _ kq => XS.iloadN X0.here hx rfl (hb hby d31_28) rfl kq) ?_
      refine own_G.sk 30 [(.int ((2 : Int32) + (0 : Int32)))] (fun _ kq => XS.iadd X0.here hx rfl (hb hby d31_29) rfl kq) ?_
      exact own_ret X0 e0 (v := some (.int ((2 : Int32) + (0 : Int32)))) (fun h => by rw [Bd.returns] at h; cases h) Bd.notSynchronized ⟨(by rw [own_ss2 hI1 hI2]; rfl), N0, rfl⟩ (by decide) (by decide) (fun fs hr => retI X0 hx Bd.returns (hb hby d31_30) hr)
    · have hI2 : ¬ pp.toInt < 100 := fun q => hs2 ((own_cmp hxI (by decide)).mpr q)
      refine own_G.sk 31 [] (fun _ kq => XS.icmpYes X0.here hx rfl (pc0 := 24) (pc' := 31) rfl (hb hby d31_24) rfl (flt hs2).2.2.2 (by decide) (by decide) kq) ?_
      refine own_G.sk 33 [(.int 10)] (fun _ kq => XS.bipush X0.here hx rfl (hb hby d31_31) kq) ?_
      refine own_G.sk 34 [(.int (-100 : Int32)), (.int 10)] (fun _ kq => XS.iloadN X0.here hx rfl (hb hby d31_33) rfl kq) ?_
      refine own_G.sk 35 [(.int ((10 : Int32) * (-100 : Int32)))] (fun _ kq => XS.imul X0.here hx rfl (hb hby d31_34) rfl kq) ?_
      refine own_G.si 36 [] (fun _ kq => XS.istoreN X0.here hx rfl (hb hby d31_35) rfl (l' := #[iv xx, iv 0, .val (.int ((10 : Int32) * (-100 : Int32))), iv 2]) rfl kq) ?_
      have hl3 : ((10 : Int32) * (-100 : Int32)) = (-1000 : Int32) := by decide
      refine own_G.cast (g' := (mkF m 36 #[iv xx, iv 0, .val (.int (-1000 : Int32)), iv 2] [])) (by rw [hl3]) ?_
      refine own_G.si 39 [] (fun _ kq => XS.iinc X0.here hx rfl (hb hby d31_36) rfl (l' := #[iv xx, iv 0, .val (.int (-1000 : Int32)), .val (.int ((2 : Int32) + (1 : Int32)))]) rfl kq) ?_
      have hl4 : ((2 : Int32) + (1 : Int32)) = (3 : Int32) := by decide
      refine own_G.cast (g' := (mkF m 39 #[iv xx, iv 0, .val (.int (-1000 : Int32)), iv 3] [])) (by rw [hl4]) ?_
      refine own_G.sk 16 [] (fun _ kq => XS.goto X0.here hx rfl (pc0 := 39) (pc' := 16) rfl (hb hby d31_39) (by decide) (by decide) kq) ?_
      refine own_G.sk 17 [(.int 3)] (fun _ kq => XS.iloadN X0.here hx rfl (hb hby d31_16) rfl kq) ?_
      refine own_G.sk 19 [(.int 10), (.int 3)] (fun _ kq => XS.bipush X0.here hx rfl (hb hby d31_17) kq) ?_
      have hc19 : (3 : Int32) < (10 : Int32) := (by decide)
      refine own_G.sk 22 [] (fun _ kq => XS.icmpNo X0.here hx rfl (hb hby d31_19) rfl (tlt hc19).2.1 kq) ?_
      refine own_G.sk 23 [(.int xx)] (fun _ kq => XS.iloadN X0.here hx rfl (hb hby d31_22) rfl kq) ?_
      refine own_G.sk 24 [(.int (-1000 : Int32)), (.int xx)] (fun _ kq => XS.iloadN X0.here hx rfl (hb hby d31_23) rfl kq) ?_
      rcases Classical.em ((-1000 : Int32) < xx) with hs3 | hs3
      · have hI3 : pp.toInt < 1000 := (own_cmp hxI (by decide)).mp hs3
        refine own_G.sk 27 [] (fun _ kq => XS.icmpNo X0.here hx rfl (hb hby d31_24) rfl (tlt hs3).2.2.2 kq) ?_
        refine own_G.sk 28 [(.int 3)] (fun _ kq => XS.iloadN X0.here hx rfl (hb hby d31_27) rfl kq) ?_
        refine own_G.sk 29 [(.int 0), (.int 3)] (fun _ kq => XS.iloadN X0.here hx rfl (hb hby d31_28) rfl kq) ?_
        refine own_G.sk 30 [(.int ((3 : Int32) + (0 : Int32)))] (fun _ kq => XS.iadd X0.here hx rfl (hb hby d31_29) rfl kq) ?_
        exact own_ret X0 e0 (v := some (.int ((3 : Int32) + (0 : Int32)))) (fun h => by rw [Bd.returns] at h; cases h) Bd.notSynchronized ⟨(by rw [own_ss3 hI2 hI3]; rfl), N0, rfl⟩ (by decide) (by decide) (fun fs hr => retI X0 hx Bd.returns (hb hby d31_30) hr)
      · have hI3 : ¬ pp.toInt < 1000 := fun q => hs3 ((own_cmp hxI (by decide)).mpr q)
        refine own_G.sk 31 [] (fun _ kq => XS.icmpYes X0.here hx rfl (pc0 := 24) (pc' := 31) rfl (hb hby d31_24) rfl (flt hs3).2.2.2 (by decide) (by decide) kq) ?_
        refine own_G.sk 33 [(.int 10)] (fun _ kq => XS.bipush X0.here hx rfl (hb hby d31_31) kq) ?_
        refine own_G.sk 34 [(.int (-1000 : Int32)), (.int 10)] (fun _ kq => XS.iloadN X0.here hx rfl (hb hby d31_33) rfl kq) ?_
        refine own_G.sk 35 [(.int ((10 : Int32) * (-1000 : Int32)))] (fun _ kq => XS.imul X0.here hx rfl (hb hby d31_34) rfl kq) ?_
        refine own_G.si 36 [] (fun _ kq => XS.istoreN X0.here hx rfl (hb hby d31_35) rfl (l' := #[iv xx, iv 0, .val (.int ((10 : Int32) * (-1000 : Int32))), iv 3]) rfl kq) ?_
        have hl5 : ((10 : Int32) * (-1000 : Int32)) = (-10000 : Int32) := by decide
        refine own_G.cast (g' := (mkF m 36 #[iv xx, iv 0, .val (.int (-10000 : Int32)), iv 3] [])) (by rw [hl5]) ?_
        refine own_G.si 39 [] (fun _ kq => XS.iinc X0.here hx rfl (hb hby d31_36) rfl (l' := #[iv xx, iv 0, .val (.int (-10000 : Int32)), .val (.int ((3 : Int32) + (1 : Int32)))]) rfl kq) ?_
        have hl6 : ((3 : Int32) + (1 : Int32)) = (4 : Int32) := by decide
        refine own_G.cast (g' := (mkF m 39 #[iv xx, iv 0, .val (.int (-10000 : Int32)), iv 4] [])) (by rw [hl6]) ?_
        refine own_G.sk 16 [] (fun _ kq => XS.goto X0.here hx rfl (pc0 := 39) (pc' := 16) rfl (hb hby d31_39) (by decide) (by decide) kq) ?_
        refine own_G.sk 17 [(.int 4)] (fun _ kq => XS.iloadN X0.here hx rfl (hb hby d31_16) rfl kq) ?_
        refine own_G.sk 19 [(.int 10), (.int 4)] (fun _ kq => XS.bipush X0.here hx rfl (hb hby d31_17) kq) ?_
        have hc19 : (4 : Int32) < (10 : Int32) := (by decide)
        refine own_G.sk 22 [] (fun _ kq => XS.icmpNo X0.here hx rfl (hb hby d31_19) rfl (tlt hc19).2.1 kq) ?_
        refine own_G.sk 23 [(.int xx)] (fun _ kq => XS.iloadN X0.here hx rfl (hb hby d31_22) rfl kq) ?_
        refine own_G.sk 24 [(.int (-10000 : Int32)), (.int xx)] (fun _ kq => XS.iloadN X0.here hx rfl (hb hby d31_23) rfl kq) ?_
        rcases Classical.em ((-10000 : Int32) < xx) with hs4 | hs4
        · have hI4 : pp.toInt < 10000 := (own_cmp hxI (by decide)).mp hs4
          refine own_G.sk 27 [] (fun _ kq => XS.icmpNo X0.here hx rfl (hb hby d31_24) rfl (tlt hs4).2.2.2 kq) ?_
          refine own_G.sk 28 [(.int 4)] (fun _ kq => XS.iloadN X0.here hx rfl (hb hby d31_27) rfl kq) ?_
          refine own_G.sk 29 [(.int 0), (.int 4)] (fun _ kq => XS.iloadN X0.here hx rfl (hb hby d31_28) rfl kq) ?_
          refine own_G.sk 30 [(.int ((4 : Int32) + (0 : Int32)))] (fun _ kq => XS.iadd X0.here hx rfl (hb hby d31_29) rfl kq) ?_
          exact own_ret X0 e0 (v := some (.int ((4 : Int32) + (0 : Int32)))) (fun h => by rw [Bd.returns] at h; cases h) Bd.notSynchronized ⟨(by rw [own_ss4 hI3 hI4]; rfl), N0, rfl⟩ (by decide) (by decide) (fun fs hr => retI X0 hx Bd.returns (hb hby d31_30) hr)
        · have hI4 : ¬ pp.toInt < 10000 := fun q => hs4 ((own_cmp hxI (by decide)).mpr q)
          refine own_G.sk 31 [] (fun _ kq => XS.icmpYes X0.here hx rfl (pc0 := 24) (pc' := 31) rfl (hb hby d31_24) rfl (flt hs4).2.2.2 (by decide) (by decide) kq) ?_
          refine own_G.sk 33 [(.int 10)] (fun _ kq => XS.bipush X0.here hx rfl (hb hby d31_31) kq) ?_
          refine own_G.sk 34 [(.int (-10000 : Int32)), (.int 10)] (fun _ kq => XS.iloadN X0.here hx rfl (hb hby d31_33) rfl kq) ?_
          refine own_G.sk 35 [(.int ((10 : Int32) * (-10000 : Int32)))] (fun _ kq => XS.imul X0.here hx rfl (hb hby d31_34) rfl kq) ?_
          refine own_G.si 36 [] (fun _ kq => XS.istoreN X0.here hx rfl (hb hby d31_35) rfl (l' := #[iv xx, iv 0, .val (.int ((10 : Int32) * (-10000 : Int32))), iv 4]) rfl kq) ?_
          have hl7 : ((10 : Int32) * (-10000 : Int32)) = (-100000 : Int32) := by decide
          refine own_G.cast (g' := (mkF m 36 #[iv xx, iv 0, .val (.int (-100000 : Int32)), iv 4] [])) (by rw [hl7]) ?_
          refine own_G.si 39 [] (fun _ kq => XS.iinc X0.here hx rfl (hb hby d31_36) rfl (l' := #[iv xx, iv 0, .val (.int (-100000 : Int32)), .val (.int ((4 : Int32) + (1 : Int32)))]) rfl kq) ?_
          have hl8 : ((4 : Int32) + (1 : Int32)) = (5 : Int32) := by decide
          refine own_G.cast (g' := (mkF m 39 #[iv xx, iv 0, .val (.int (-100000 : Int32)), iv 5] [])) (by rw [hl8]) ?_
          refine own_G.sk 16 [] (fun _ kq => XS.goto X0.here hx rfl (pc0 := 39) (pc' := 16) rfl (hb hby d31_39) (by decide) (by decide) kq) ?_
          refine own_G.sk 17 [(.int 5)] (fun _ kq => XS.iloadN X0.here hx rfl (hb hby d31_16) rfl kq) ?_
          refine own_G.sk 19 [(.int 10), (.int 5)] (fun _ kq => XS.bipush X0.here hx rfl (hb hby d31_17) kq) ?_
          have hc19 : (5 : Int32) < (10 : Int32) := (by decide)
          refine own_G.sk 22 [] (fun _ kq => XS.icmpNo X0.here hx rfl (hb hby d31_19) rfl (tlt hc19).2.1 kq) ?_
          refine own_G.sk 23 [(.int xx)] (fun _ kq => XS.iloadN X0.here hx rfl (hb hby d31_22) rfl kq) ?_
          refine own_G.sk 24 [(.int (-100000 : Int32)), (.int xx)] (fun _ kq => XS.iloadN X0.here hx rfl (hb hby d31_23) rfl kq) ?_
          rcases Classical.em ((-100000 : Int32) < xx) with hs5 | hs5
          · have hI5 : pp.toInt < 100000 := (own_cmp hxI (by decide)).mp hs5
            refine own_G.sk 27 [] (fun _ kq => XS.icmpNo X0.here hx rfl (hb hby d31_24) rfl (tlt hs5).2.2.2 kq) ?_
            refine own_G.sk 28 [(.int 5)] (fun _ kq => XS.iloadN X0.here hx rfl (hb hby d31_27) rfl kq) ?_
            refine own_G.sk 29 [(.int 0), (.int 5)] (fun _ kq => XS.iloadN X0.here hx rfl (hb hby d31_28) rfl kq) ?_
            refine own_G.sk 30 [(.int ((5 : Int32) + (0 : Int32)))] (fun _ kq => XS.iadd X0.here hx rfl (hb hby d31_29) rfl kq) ?_
            exact own_ret X0 e0 (v := some (.int ((5 : Int32) + (0 : Int32)))) (fun h => by rw [Bd.returns] at h; cases h) Bd.notSynchronized ⟨(by rw [own_ss5 hI4]; rfl), N0, rfl⟩ (by decide) (by decide) (fun fs hr => retI X0 hx Bd.returns (hb hby d31_30) hr)
          · have hI5 : ¬ pp.toInt < 100000 := fun q => hs5 ((own_cmp hxI (by decide)).mpr q)
            omega
theorem d33_0 : decode jdk_33_method_12_code 0 = .ok (.iload_n 1, 1) := by decide +kernel
theorem d33_1 : decode jdk_33_method_12_code 1 = .ok (.istore 5, 2) := by decide +kernel
theorem d33_3 : decode jdk_33_method_12_code 3 = .ok (.iload_n 0, 1) := by decide +kernel
theorem d33_4 : decode jdk_33_method_12_code 4 = .ok (.ifCond .ge 7, 3) := by decide +kernel
theorem d33_11 : decode jdk_33_method_12_code 11 = .ok (.iconst 0, 1) := by decide +kernel
theorem d33_12 : decode jdk_33_method_12_code 12 = .ok (.istore 6, 2) := by decide +kernel
theorem d33_14 : decode jdk_33_method_12_code 14 = .ok (.iload 6, 2) := by decide +kernel
theorem d33_16 : decode jdk_33_method_12_code 16 = .ok (.ifCond .ne 6, 3) := by decide +kernel
theorem d33_19 : decode jdk_33_method_12_code 19 = .ok (.iload_n 0, 1) := by decide +kernel
theorem d33_20 : decode jdk_33_method_12_code 20 = .ok (.ineg, 1) := by decide +kernel
theorem d33_21 : decode jdk_33_method_12_code 21 = .ok (.istore_n 0, 1) := by decide +kernel
theorem d33_22 : decode jdk_33_method_12_code 22 = .ok (.iload_n 0, 1) := by decide +kernel
theorem d33_23 : decode jdk_33_method_12_code 23 = .ok (.bipush (-100), 2) := by decide +kernel
theorem d33_25 : decode jdk_33_method_12_code 25 = .ok (.if_icmp .gt 47, 3) := by decide +kernel
theorem d33_28 : decode jdk_33_method_12_code 28 = .ok (.iload_n 0, 1) := by decide +kernel
theorem d33_29 : decode jdk_33_method_12_code 29 = .ok (.bipush 100, 2) := by decide +kernel
theorem d33_31 : decode jdk_33_method_12_code 31 = .ok (.idiv, 1) := by decide +kernel
theorem d33_32 : decode jdk_33_method_12_code 32 = .ok (.istore_n 3, 1) := by decide +kernel
theorem d33_33 : decode jdk_33_method_12_code 33 = .ok (.iload_n 3, 1) := by decide +kernel
theorem d33_34 : decode jdk_33_method_12_code 34 = .ok (.bipush 100, 2) := by decide +kernel
theorem d33_36 : decode jdk_33_method_12_code 36 = .ok (.imul, 1) := by decide +kernel
theorem d33_37 : decode jdk_33_method_12_code 37 = .ok (.iload_n 0, 1) := by decide +kernel
theorem d33_38 : decode jdk_33_method_12_code 38 = .ok (.isub, 1) := by decide +kernel
theorem d33_39 : decode jdk_33_method_12_code 39 = .ok (.istore 4, 2) := by decide +kernel
theorem d33_41 : decode jdk_33_method_12_code 41 = .ok (.iload_n 3, 1) := by decide +kernel
theorem d33_42 : decode jdk_33_method_12_code 42 = .ok (.istore_n 0, 1) := by decide +kernel
theorem d33_43 : decode jdk_33_method_12_code 43 = .ok (.aload_n 2, 1) := by decide +kernel
theorem d33_44 : decode jdk_33_method_12_code 44 = .ok (.iinc 5 (-1), 3) := by decide +kernel
theorem d33_47 : decode jdk_33_method_12_code 47 = .ok (.iload 5, 2) := by decide +kernel
theorem d33_49 : decode jdk_33_method_12_code 49 = .ok (.getstatic 83, 3) := by decide +kernel
theorem d33_52 : decode jdk_33_method_12_code 52 = .ok (.iload 4, 2) := by decide +kernel
theorem d33_54 : decode jdk_33_method_12_code 54 = .ok (.baload, 1) := by decide +kernel
theorem d33_55 : decode jdk_33_method_12_code 55 = .ok (.bastore, 1) := by decide +kernel
theorem d33_56 : decode jdk_33_method_12_code 56 = .ok (.aload_n 2, 1) := by decide +kernel
theorem d33_57 : decode jdk_33_method_12_code 57 = .ok (.iinc 5 (-1), 3) := by decide +kernel
theorem d33_60 : decode jdk_33_method_12_code 60 = .ok (.iload 5, 2) := by decide +kernel
theorem d33_62 : decode jdk_33_method_12_code 62 = .ok (.getstatic 87, 3) := by decide +kernel
theorem d33_65 : decode jdk_33_method_12_code 65 = .ok (.iload 4, 2) := by decide +kernel
theorem d33_67 : decode jdk_33_method_12_code 67 = .ok (.baload, 1) := by decide +kernel
theorem d33_68 : decode jdk_33_method_12_code 68 = .ok (.bastore, 1) := by decide +kernel
theorem d33_69 : decode jdk_33_method_12_code 69 = .ok (.goto (-47), 3) := by decide +kernel
theorem d33_72 : decode jdk_33_method_12_code 72 = .ok (.aload_n 2, 1) := by decide +kernel
theorem d33_73 : decode jdk_33_method_12_code 73 = .ok (.iinc 5 (-1), 3) := by decide +kernel
theorem d33_76 : decode jdk_33_method_12_code 76 = .ok (.iload 5, 2) := by decide +kernel
theorem d33_78 : decode jdk_33_method_12_code 78 = .ok (.getstatic 83, 3) := by decide +kernel
theorem d33_81 : decode jdk_33_method_12_code 81 = .ok (.iload_n 0, 1) := by decide +kernel
theorem d33_82 : decode jdk_33_method_12_code 82 = .ok (.ineg, 1) := by decide +kernel
theorem d33_83 : decode jdk_33_method_12_code 83 = .ok (.baload, 1) := by decide +kernel
theorem d33_84 : decode jdk_33_method_12_code 84 = .ok (.bastore, 1) := by decide +kernel
theorem d33_85 : decode jdk_33_method_12_code 85 = .ok (.iload_n 0, 1) := by decide +kernel
theorem d33_86 : decode jdk_33_method_12_code 86 = .ok (.bipush (-9), 2) := by decide +kernel
theorem d33_88 : decode jdk_33_method_12_code 88 = .ok (.if_icmp .ge 16, 3) := by decide +kernel
theorem d33_91 : decode jdk_33_method_12_code 91 = .ok (.aload_n 2, 1) := by decide +kernel
theorem d33_92 : decode jdk_33_method_12_code 92 = .ok (.iinc 5 (-1), 3) := by decide +kernel
theorem d33_95 : decode jdk_33_method_12_code 95 = .ok (.iload 5, 2) := by decide +kernel
theorem d33_97 : decode jdk_33_method_12_code 97 = .ok (.getstatic 87, 3) := by decide +kernel
theorem d33_100 : decode jdk_33_method_12_code 100 = .ok (.iload_n 0, 1) := by decide +kernel
theorem d33_101 : decode jdk_33_method_12_code 101 = .ok (.ineg, 1) := by decide +kernel
theorem d33_102 : decode jdk_33_method_12_code 102 = .ok (.baload, 1) := by decide +kernel
theorem d33_103 : decode jdk_33_method_12_code 103 = .ok (.bastore, 1) := by decide +kernel
theorem d33_104 : decode jdk_33_method_12_code 104 = .ok (.iload 6, 2) := by decide +kernel
theorem d33_106 : decode jdk_33_method_12_code 106 = .ok (.ifCond .eq 12, 3) := by decide +kernel
theorem d33_118 : decode jdk_33_method_12_code 118 = .ok (.iload 5, 2) := by decide +kernel
theorem d33_120 : decode jdk_33_method_12_code 120 = .ok (.ireturn, 1) := by decide +kernel
theorem ef_gchars (m : MethodId) (pp : Int32) (ee : Int32) (t : Addr) : entryFrame m #[(.int pp), (.int ee), (.ref t)] 7 = mkF m 0 #[iv pp, iv ee, rv t, .unset, .unset, .unset, .unset] [] := by
  first | (simp [entryFrame, mkF, argsToLocals, Value.category]; done) | rfl
def Q_gchars (Z : State) (pp : Int32) (ee : Int32) (t : Addr) (dga : Addr) (cga : Cell) (dgb : Addr) (cgb : Cell) (kb : ClassId) (xs : List Int32) (h0 : Heap) (n0 : Nat) (v : Option Value) (h : Heap) (L : List Loc) : Prop := ∃ (rc : Int32), v = some (.int rc) ∧ Fr n0 L ∧ Keep h0 h [t] ∧ Arv Z h t kb .byte (16 : Int32) (own_B (xs ++ own_dig pp)) (.int 0)
set_option maxRecDepth 65536 in
set_option maxHeartbeats 40000000 in
theorem rm_gchars (l : Launch) (Z : State) (a0 : Array Value) (hw : ∀ d ∈ tables_1, d.before a0 Z = true) (ws : List Jvm.Cond) (pp : Int32) (ee : Int32) (t : Addr) (dga : Addr) (cga : Cell) (dgb : Addr) (cgb : Cell) (kb : ClassId) (xs : List Int32) (h0 : Heap) (n0 : Nat) (O0 : Old Z n0 h0) (S_D1 : Sta Z Z.heap "java/lang/Integer" "DigitOnes" "[B" (.ref dga)) (TB1 : own_Tb Z dga cga (fun j => (48 : Int32) + (j % (10 : Int32)))) (S_D2 : Sta Z Z.heap "java/lang/Integer" "DigitTens" "[B" (.ref dgb)) (TB2 : own_Tb Z dgb cgb (fun j => (48 : Int32) + (j / (10 : Int32)))) (At : Arv Z h0 t kb .byte (16 : Int32) (own_B xs) (.int 0)) (gt : n0 ≤ t) (hp0 : 0 ≤ pp.toInt) (hp1 : pp.toInt ≤ 65535) (he : ee.toInt = (xs.length : Int) + ((own_dig pp).length : Int)) (hcp : xs.length + (own_dig pp).length ≤ 16) :
    MetFree l own_y19 (head1 (Jvm.Cond.code own_y19 jdk_33_method_12_code 7 (some .int) :: ws) ({ frames := 0, cells := 0, slots := 0, locals := 0 } : Room)) (fun aq_ Uq_ => aq_ = #[(.int pp), (.int ee), (.ref t)] ∧ Z.Warmed39 Uq_.vm ∧ Uq_.heap = h0) (fun _ _ _ _ _ => True) (fun _ Uq_ oq_ Ur_ => ∃ vq_ Lq_, oq_ = .returned vq_ ∧ Q_gchars Z pp ee t dga cga dgb cgb kb xs h0 n0 vq_ Ur_.heap Lq_ ∧ FrameEnd Uq_ oq_ Ur_ Lq_ ({ frames := 0, cells := 0, slots := 0, locals := 0 } : Room).cells ({ frames := 0, cells := 0, slots := 0, locals := 0 } : Room).slots) := by
  refine MetFree.of_bodySF (plainFor_of_name pn_java_2flang_2fInteger) hisR ?_
  intro p e s m args below meth c s₁ Bd hml0 hP hK
  obtain ⟨rfl, hZ, hh⟩ := hP
  have W_ : ∀ {d : Jvm.Cond} (i : Nat), tables_1[i]? = some d → d.before a0 Z = true := fun i h => hw _ (List.mem_of_getElem? h)
  have hx := Bd.exec
  have hby := Bd.bytes
  have hml : c.maxLocals = 7 := hml0
  have hown : s.vm.findClass "java/lang/Integer" = some m.cls := findClass_of_methodNamed Bd.named
  have hnm := (name_of_methodNamed Bd.named Bd.method).1
  have X0 : Stand p l e ({ frames := 0, cells := 0, slots := 0, locals := 0 } : Room) s m #[(.int pp), (.int ee), (.ref t)] below meth c s₁ [] 0 0 := Stand.of_body Bd
  have e0 : s₁.heap = h0 := by rw [← hh, Bd.state]; rfl
  have N0 := Fr.nil n0
  have K0 := Keep.refl h0 [t]
  refine own_G.start (Q := Q_gchars Z pp ee t dga cga dgb cgb kb xs h0 n0) (ef_gchars m pp ee t) ?_
  have hdl := own_dlen1 pp
  have Ah := At.arh
  refine own_G.sk 1 [(.int ee)] (fun _ kq => XS.iloadN X0.here hx rfl (hb hby d33_0) rfl kq) ?_
  refine own_G.si 3 [] (fun _ kq => XS.istore X0.here hx rfl (hb hby d33_1) rfl (l' := #[iv pp, iv ee, rv t, .unset, .unset, iv ee, .unset]) rfl kq) ?_
  refine own_G.sk 4 [(.int pp)] (fun _ kq => XS.iloadN X0.here hx rfl (hb hby d33_3) rfl kq) ?_
  have hc4 : ¬ (pp < (0 : Int32)) := (own_pn hp0)
  refine own_G.sk 11 [] (fun _ kq => XS.ifYes X0.here hx rfl (pc0 := 4) (pc' := 11) rfl (hb hby d33_4) rfl ((if0 _ _).trans (flt hc4).2.1) (by decide) (by decide) kq) ?_
  refine own_G.sk 12 [(.int 0)] (fun _ kq => XS.iconst X0.here hx rfl (hb hby d33_11) kq) ?_
  refine own_G.si 14 [] (fun _ kq => XS.istore X0.here hx rfl (hb hby d33_12) rfl (l' := #[iv pp, iv ee, rv t, .unset, .unset, iv ee, iv 0]) rfl kq) ?_
  refine own_G.sk 16 [(.int 0)] (fun _ kq => XS.iload X0.here hx rfl (hb hby d33_14) rfl kq) ?_
  have hc16 : (0 : Int32) = (0 : Int32) := (by decide)
  refine own_G.sk 19 [] (fun _ kq => XS.ifNo X0.here hx rfl (hb hby d33_16) rfl ((if0 _ _).trans (teq hc16).2) kq) ?_
  refine own_G.sk 20 [(.int pp)] (fun _ kq => XS.iloadN X0.here hx rfl (hb hby d33_19) rfl kq) ?_
  refine own_G.sk 21 [(.int (-pp))] (fun _ kq => XS.ineg X0.here hx rfl (hb hby d33_20) rfl kq) ?_
  refine own_G.si 22 [] (fun _ kq => XS.istoreN X0.here hx rfl (hb hby d33_21) rfl (l' := #[.val (.int (-pp)), iv ee, rv t, .unset, .unset, iv ee, iv 0]) rfl kq) ?_
  obtain ⟨i0, hi0⟩ : ∃ z, z = (-pp) := ⟨_, rfl⟩
  refine own_G.cast (g' := (mkF m 22 #[iv i0, iv ee, rv t, .unset, .unset, iv ee, iv 0] [])) (by rw [hi0]) ?_
  have hiI0 : i0.toInt = -(pp.toInt) := by rw [hi0]; exact own_neg rfl (Int.le_trans (by decide) hp0) hp1
  refine own_G.sk 23 [(.int i0)] (fun _ kq => XS.iloadN X0.here hx rfl (hb hby d33_22) rfl kq) ?_
  refine own_G.sk 25 [(.int (-100 : Int32)), (.int i0)] (fun _ kq => XS.bipush X0.here hx rfl (hb hby d33_23) kq) ?_
  rcases Classical.em ((-100 : Int32) < i0) with hg0 | hg0
  · have hy0 : pp.toInt < 100 := (own_cmp hiI0 (by decide)).mp hg0
    refine own_G.sk 72 [] (fun _ kq => XS.icmpYes X0.here hx rfl (pc0 := 25) (pc' := 72) rfl (hb hby d33_25) rfl (tlt hg0).2.2.1 (by decide) (by decide) kq) ?_
    refine own_G.sk 73 [(.ref t)] (fun _ kq => XS.aloadN X0.here hx rfl (hb hby d33_72) rfl rfl kq) ?_
    refine own_G.si 76 [(.ref t)] (fun _ kq => XS.iinc X0.here hx rfl (hb hby d33_73) rfl (l' := #[iv i0, iv ee, rv t, .unset, .unset, .val (.int (ee + (-1 : Int32))), iv 0]) rfl kq) ?_
    obtain ⟨c1, hc1⟩ : ∃ z, z = (ee + (-1 : Int32)) := ⟨_, rfl⟩
    refine own_G.cast (g' := (mkF m 76 #[iv i0, iv ee, rv t, .unset, .unset, iv c1, iv 0] [(.ref t)])) (by rw [hc1]) ?_
    have hcI1 : c1.toInt = (xs.length : Int) + ((own_dig pp).length : Int) - 1 := own_decn (own_he0 he) hc1 hcp (by decide) (own_nI hdl (by decide)) (by decide)
    refine own_G.sk 78 [(.int c1), (.ref t)] (fun _ kq => XS.iload X0.here hx rfl (hb hby d33_76) rfl kq) ?_
    obtain ⟨T1, X1, e1, st1⟩ := getS2 X0 hx hZ hown (host := "") (Or.inl (W_ 187 rfl)) Via.refl e0 (Sta.ext O0.2 S_D1) (g := (mkF m 78 #[iv i0, iv ee, rv t, .unset, .unset, iv c1, iv 0] [(.int c1), (.ref t)])) rfl (hb hby d33_78)
    refine own_G.st (T' := T1) 81 [(.ref dga), (.int c1), (.ref t)] st1 ?_
    refine own_G.sk 82 [(.int i0), (.ref dga), (.int c1), (.ref t)] (fun _ kq => XS.iloadN X1.here hx rfl (hb hby d33_81) rfl kq) ?_
    refine own_G.sk 83 [(.int (-i0)), (.ref dga), (.int c1), (.ref t)] (fun _ kq => XS.ineg X1.here hx rfl (hb hby d33_82) rfl kq) ?_
    obtain ⟨rl, hrl⟩ : ∃ z, z = (-i0) := ⟨_, rfl⟩
    refine own_G.cast (g' := (mkF m 83 #[iv i0, iv ee, rv t, .unset, .unset, iv c1, iv 0] [(.int rl), (.ref dga), (.int c1), (.ref t)])) (by rw [hrl]) ?_
    have hrlI : rl.toInt = pp.toInt := by rw [hrl]; exact own_negp hiI0 hp0 hp1
    obtain ⟨cl2, Ar2, hin2, hat2⟩ := id (own_Tb.at TB1 O0.2 (own_in100 hrlI hp0 hy0))
    refine own_G.sk 84 [(.int ((48 : Int32) + (rl % (10 : Int32)))), (.int c1), (.ref t)] (fun _ kq => X1.baloadBytes hx (j := rl) (v := (.int ((48 : Int32) + (rl % (10 : Int32))))) (by rw [e1]; exact Ar2.1) (State.isArrayOf_alike hZ.alike Ar2.2.1) Ar2.2.2 hin2 hat2 (g := (mkF m 83 #[iv i0, iv ee, rv t, .unset, .unset, iv c1, iv 0] [(.int rl), (.ref dga), (.int c1), (.ref t)])) rfl rfl (hb hby d33_83) _ kq) ?_
    obtain ⟨cl3, Ar3, q13, Sz3, Nz3, Hh3, Gg3⟩ := id Ah
    have hin3 : ¬ (c1 < 0 ∨ cl3.slots.size ≤ (c1).toNatClampNeg) := inb_of Sz3 (own_bk hcI1 hcp (by decide) (own_nI hdl (by decide)))
    obtain ⟨T3, h3, X3, e3, W3, st3⟩ := stB X1 hx hZ e1 Ar3 (j := c1) hin3 (g := (mkF m 84 #[iv i0, iv ee, rv t, .unset, .unset, iv c1, iv 0] [(.int ((48 : Int32) + (rl % (10 : Int32)))), (.int c1), (.ref t)])) rfl rfl (hb hby d33_84)
    have F4 : Arh Z h3 t kb .byte (16 : Int32) [(c1, (.int (nar .byte ((48 : Int32) + (rl % (10 : Int32))))))] (own_B xs) (.int 0) := Arh.push Ar3 q13 Sz3 Nz3 Hh3 Gg3 (fits_nar_byte _) W3 hin3
    have N3 := Fr.snoc X3 N0 gt
    have O6 := O0.wr W3 gt
    have K7 := K0.wr W3 (Or.inl (List.mem_of_getElem? (i := 0) rfl))
    refine own_G.st (T' := T3) 85 [] st3 ?_
    refine own_G.sk 86 [(.int i0)] (fun _ kq => XS.iloadN X3.here hx rfl (hb hby d33_85) rfl kq) ?_
    refine own_G.sk 88 [(.int (-9 : Int32)), (.int i0)] (fun _ kq => XS.bipush X3.here hx rfl (hb hby d33_86) kq) ?_
    rcases Classical.em (i0 < (-9 : Int32)) with hc88 | hc88
    · have h9 : 10 ≤ pp.toInt := own_n9t hiI0 hc88
      have hl9 : 2 ≤ (own_dig pp).length := (own_dlen pp).2.1 (Int.not_lt.mpr h9)
      refine own_G.sk 91 [] (fun _ kq => XS.icmpNo X3.here hx rfl (hb hby d33_88) rfl (tlt hc88).2.1 kq) ?_
      refine own_G.sk 92 [(.ref t)] (fun _ kq => XS.aloadN X3.here hx rfl (hb hby d33_91) rfl rfl kq) ?_
      refine own_G.si 95 [(.ref t)] (fun _ kq => XS.iinc X3.here hx rfl (hb hby d33_92) rfl (l' := #[iv i0, iv ee, rv t, .unset, .unset, .val (.int (c1 + (-1 : Int32))), iv 0]) rfl kq) ?_
      obtain ⟨c2, hc2⟩ : ∃ z, z = (c1 + (-1 : Int32)) := ⟨_, rfl⟩
      refine own_G.cast (g' := (mkF m 95 #[iv i0, iv ee, rv t, .unset, .unset, iv c2, iv 0] [(.ref t)])) (by rw [hc2]) ?_
      have hcI2 : c2.toInt = (xs.length : Int) + ((own_dig pp).length : Int) - 2 := own_decn hcI1 hc2 hcp (by decide) (own_nI hl9 (by decide)) (by decide)
      refine own_G.sk 97 [(.int c2), (.ref t)] (fun _ kq => XS.iload X3.here hx rfl (hb hby d33_95) rfl kq) ?_
      obtain ⟨T8, X8, e8, st8⟩ := getS2 X3 hx hZ hown (host := "") (Or.inl (W_ 249 rfl)) Via.refl e3 (Sta.ext O6.2 S_D2) (g := (mkF m 97 #[iv i0, iv ee, rv t, .unset, .unset, iv c2, iv 0] [(.int c2), (.ref t)])) rfl (hb hby d33_97)
      refine own_G.st (T' := T8) 100 [(.ref dgb), (.int c2), (.ref t)] st8 ?_
      refine own_G.sk 101 [(.int i0), (.ref dgb), (.int c2), (.ref t)] (fun _ kq => XS.iloadN X8.here hx rfl (hb hby d33_100) rfl kq) ?_
      refine own_G.sk 102 [(.int (-i0)), (.ref dgb), (.int c2), (.ref t)] (fun _ kq => XS.ineg X8.here hx rfl (hb hby d33_101) rfl kq) ?_
      obtain ⟨rm, hrm⟩ : ∃ z, z = (-i0) := ⟨_, rfl⟩
      refine own_G.cast (g' := (mkF m 102 #[iv i0, iv ee, rv t, .unset, .unset, iv c2, iv 0] [(.int rm), (.ref dgb), (.int c2), (.ref t)])) (by rw [hrm]) ?_
      have hrmI : rm.toInt = pp.toInt := by rw [hrm]; exact own_negp hiI0 hp0 hp1
      obtain ⟨cl9, Ar9, hin9, hat9⟩ := id (own_Tb.at TB2 O6.2 (own_in100 hrmI hp0 hy0))
      refine own_G.sk 103 [(.int ((48 : Int32) + (rm / (10 : Int32)))), (.int c2), (.ref t)] (fun _ kq => X8.baloadBytes hx (j := rm) (v := (.int ((48 : Int32) + (rm / (10 : Int32))))) (by rw [e8]; exact Ar9.1) (State.isArrayOf_alike hZ.alike Ar9.2.1) Ar9.2.2 hin9 hat9 (g := (mkF m 102 #[iv i0, iv ee, rv t, .unset, .unset, iv c2, iv 0] [(.int rm), (.ref dgb), (.int c2), (.ref t)])) rfl rfl (hb hby d33_102) _ kq) ?_
      obtain ⟨cl10, Ar10, q110, Sz10, Nz10, Hh10, Gg10⟩ := id F4
      have hin10 : ¬ (c2 < 0 ∨ cl10.slots.size ≤ (c2).toNatClampNeg) := inb_of Sz10 (own_bk hcI2 hcp (by decide) (own_nI hl9 (by decide)))
      obtain ⟨T10, h10, X10, e10, W10, st10⟩ := stB X8 hx hZ e8 Ar10 (j := c2) hin10 (g := (mkF m 103 #[iv i0, iv ee, rv t, .unset, .unset, iv c2, iv 0] [(.int ((48 : Int32) + (rm / (10 : Int32)))), (.int c2), (.ref t)])) rfl rfl (hb hby d33_103)
      have F11 : Arh Z h10 t kb .byte (16 : Int32) [(c2, (.int (nar .byte ((48 : Int32) + (rm / (10 : Int32)))))), (c1, (.int (nar .byte ((48 : Int32) + (rl % (10 : Int32))))))] (own_B xs) (.int 0) := Arh.push Ar10 q110 Sz10 Nz10 Hh10 Gg10 (fits_nar_byte _) W10 hin10
      have N10 := Fr.snoc X10 N3 gt
      have O13 := O6.wr W10 gt
      have K14 := K7.wr W10 (Or.inl (List.mem_of_getElem? (i := 0) rfl))
      refine own_G.st (T' := T10) 104 [] st10 ?_
      refine own_G.sk 106 [(.int 0)] (fun _ kq => XS.iload X10.here hx rfl (hb hby d33_104) rfl kq) ?_
      have hc106 : (0 : Int32) = (0 : Int32) := (by decide)
      refine own_G.sk 118 [] (fun _ kq => XS.ifYes X10.here hx rfl (pc0 := 106) (pc' := 118) rfl (hb hby d33_106) rfl ((if0 _ _).trans (teq hc106).1) (by decide) (by decide) kq) ?_
      refine own_G.sk 120 [(.int c2)] (fun _ kq => XS.iload X10.here hx rfl (hb hby d33_118) rfl kq) ?_
      have hN : (own_dig pp).length = 2 := by rw [own_dig2 (Int.not_lt.mpr h9) hy0]; rfl
      have hFn : Arv Z h10 t kb .byte (16 : Int32) (own_B (xs ++ own_dig pp)) (.int 0) := by
        rw [own_dig2 (Int.not_lt.mpr h9) hy0]
        exact own_gc F11 (own_hokC (own_pl (j := 0) hcI2 (by rw [hN]; decide)) (congrArg Value.int ((own_ten hrmI hp0 hy0).trans (congrArg own_dg rfl))) (own_hokC (own_pl (j := 1) hcI1 (by rw [hN]; decide)) (congrArg Value.int ((own_one hrlI hp0 hy0).trans (congrArg own_dg rfl))) own_hokN))
      exact own_ret X10 e10 (v := some (.int c2)) (fun h => by rw [Bd.returns] at h; cases h) Bd.notSynchronized ⟨c2, rfl, N10, K14, hFn⟩ (by decide) (by decide) (fun fs hr => retI X10 hx Bd.returns (hb hby d33_120) hr)
    · have h9 : pp.toInt < 10 := own_n9f hiI0 hc88
      refine own_G.sk 104 [] (fun _ kq => XS.icmpYes X3.here hx rfl (pc0 := 88) (pc' := 104) rfl (hb hby d33_88) rfl (flt hc88).2.1 (by decide) (by decide) kq) ?_
      refine own_G.sk 106 [(.int 0)] (fun _ kq => XS.iload X3.here hx rfl (hb hby d33_104) rfl kq) ?_
      have hc106 : (0 : Int32) = (0 : Int32) := (by decide)
      refine own_G.sk 118 [] (fun _ kq => XS.ifYes X3.here hx rfl (pc0 := 106) (pc' := 118) rfl (hb hby d33_106) rfl ((if0 _ _).trans (teq hc106).1) (by decide) (by decide) kq) ?_
      refine own_G.sk 120 [(.int c1)] (fun _ kq => XS.iload X3.here hx rfl (hb hby d33_118) rfl kq) ?_
      have hN : (own_dig pp).length = 1 := by rw [own_dig1 h9]; rfl
      have hFn : Arv Z h3 t kb .byte (16 : Int32) (own_B (xs ++ own_dig pp)) (.int 0) := by
        rw [own_dig1 h9]
        exact own_gc F4 (own_hokC (own_pl (j := 0) hcI1 (by rw [hN]; decide)) (congrArg Value.int ((own_one hrlI hp0 hy0).trans (congrArg own_dg (own_q5 hp0 h9)))) own_hokN)
      exact own_ret X3 e3 (v := some (.int c1)) (fun h => by rw [Bd.returns] at h; cases h) Bd.notSynchronized ⟨c1, rfl, N3, K7, hFn⟩ (by decide) (by decide) (fun fs hr => retI X3 hx Bd.returns (hb hby d33_120) hr)
  · have hy0 : ¬ pp.toInt < 100 := fun q => hg0 ((own_cmp hiI0 (by decide)).mpr q)
    have hl0 : 3 ≤ (own_dig pp).length := (own_dlen pp).2.2.1 hy0
    refine own_G.sk 28 [] (fun _ kq => XS.icmpNo X0.here hx rfl (hb hby d33_25) rfl (flt hg0).2.2.1 kq) ?_
    refine own_G.sk 29 [(.int i0)] (fun _ kq => XS.iloadN X0.here hx rfl (hb hby d33_28) rfl kq) ?_
    refine own_G.sk 31 [(.int 100), (.int i0)] (fun _ kq => XS.bipush X0.here hx rfl (hb hby d33_29) kq) ?_
    refine own_G.sk 32 [(.int (i0 / (100 : Int32)))] (fun _ kq => XS.idiv X0.here hx rfl (hb hby d33_31) rfl (by decide) kq) ?_
    refine own_G.si 33 [] (fun _ kq => XS.istoreN X0.here hx rfl (hb hby d33_32) rfl (l' := #[iv i0, iv ee, rv t, .val (.int (i0 / (100 : Int32))), .unset, iv ee, iv 0]) rfl kq) ?_
    refine own_G.sk 34 [(.int (i0 / (100 : Int32)))] (fun _ kq => XS.iloadN X0.here hx rfl (hb hby d33_33) rfl kq) ?_
    refine own_G.sk 36 [(.int 100), (.int (i0 / (100 : Int32)))] (fun _ kq => XS.bipush X0.here hx rfl (hb hby d33_34) kq) ?_
    refine own_G.sk 37 [(.int ((i0 / (100 : Int32)) * (100 : Int32)))] (fun _ kq => XS.imul X0.here hx rfl (hb hby d33_36) rfl kq) ?_
    refine own_G.sk 38 [(.int i0), (.int ((i0 / (100 : Int32)) * (100 : Int32)))] (fun _ kq => XS.iloadN X0.here hx rfl (hb hby d33_37) rfl kq) ?_
    refine own_G.sk 39 [(.int (((i0 / (100 : Int32)) * (100 : Int32)) - i0))] (fun _ kq => XS.isub X0.here hx rfl (hb hby d33_38) rfl kq) ?_
    refine own_G.si 41 [] (fun _ kq => XS.istore X0.here hx rfl (hb hby d33_39) rfl (l' := #[iv i0, iv ee, rv t, .val (.int (i0 / (100 : Int32))), .val (.int (((i0 / (100 : Int32)) * (100 : Int32)) - i0)), iv ee, iv 0]) rfl kq) ?_
    obtain ⟨i1, hi1⟩ : ∃ z, z = (i0 / (100 : Int32)) := ⟨_, rfl⟩
    refine own_G.cast (g' := (mkF m 41 #[iv i0, iv ee, rv t, iv i1, .val (.int ((i1 * (100 : Int32)) - i0)), iv ee, iv 0] [])) (by rw [hi1]) ?_
    obtain ⟨r0, hr0⟩ : ∃ z, z = ((i1 * (100 : Int32)) - i0) := ⟨_, rfl⟩
    refine own_G.cast (g' := (mkF m 41 #[iv i0, iv ee, rv t, iv i1, iv r0, iv ee, iv 0] [])) (by rw [hr0]) ?_
    obtain ⟨hiI1, hrI0⟩ := own_rd hiI0 hp0 hp1 hi1 hr0
    refine own_G.sk 42 [(.int i1)] (fun _ kq => XS.iloadN X0.here hx rfl (hb hby d33_41) rfl kq) ?_
    refine own_G.si 43 [] (fun _ kq => XS.istoreN X0.here hx rfl (hb hby d33_42) rfl (l' := #[iv i1, iv ee, rv t, iv i1, iv r0, iv ee, iv 0]) rfl kq) ?_
    refine own_G.sk 44 [(.ref t)] (fun _ kq => XS.aloadN X0.here hx rfl (hb hby d33_43) rfl rfl kq) ?_
    refine own_G.si 47 [(.ref t)] (fun _ kq => XS.iinc X0.here hx rfl (hb hby d33_44) rfl (l' := #[iv i1, iv ee, rv t, iv i1, iv r0, .val (.int (ee + (-1 : Int32))), iv 0]) rfl kq) ?_
    obtain ⟨c1, hc1⟩ : ∃ z, z = (ee + (-1 : Int32)) := ⟨_, rfl⟩
    refine own_G.cast (g' := (mkF m 47 #[iv i1, iv ee, rv t, iv i1, iv r0, iv c1, iv 0] [(.ref t)])) (by rw [hc1]) ?_
    have hcI1 : c1.toInt = (xs.length : Int) + ((own_dig pp).length : Int) - 1 := own_decn (own_he0 he) hc1 hcp (by decide) (own_nI hl0 (by decide)) (by decide)
    refine own_G.sk 49 [(.int c1), (.ref t)] (fun _ kq => XS.iload X0.here hx rfl (hb hby d33_47) rfl kq) ?_
    obtain ⟨T15, X15, e15, st15⟩ := getS2 X0 hx hZ hown (host := "") (Or.inl (W_ 187 rfl)) Via.refl e0 (Sta.ext O0.2 S_D1) (g := (mkF m 49 #[iv i1, iv ee, rv t, iv i1, iv r0, iv c1, iv 0] [(.int c1), (.ref t)])) rfl (hb hby d33_49)
    refine own_G.st (T' := T15) 52 [(.ref dga), (.int c1), (.ref t)] st15 ?_
    refine own_G.sk 54 [(.int r0), (.ref dga), (.int c1), (.ref t)] (fun _ kq => XS.iload X15.here hx rfl (hb hby d33_52) rfl kq) ?_
    obtain ⟨cl16, Ar16, hin16, hat16⟩ := id (own_Tb.at TB1 O0.2 (own_in100 hrI0 (own_m100 _).1 (own_m100 _).2))
    refine own_G.sk 55 [(.int ((48 : Int32) + (r0 % (10 : Int32)))), (.int c1), (.ref t)] (fun _ kq => X15.baloadBytes hx (j := r0) (v := (.int ((48 : Int32) + (r0 % (10 : Int32))))) (by rw [e15]; exact Ar16.1) (State.isArrayOf_alike hZ.alike Ar16.2.1) Ar16.2.2 hin16 hat16 (g := (mkF m 54 #[iv i1, iv ee, rv t, iv i1, iv r0, iv c1, iv 0] [(.int r0), (.ref dga), (.int c1), (.ref t)])) rfl rfl (hb hby d33_54) _ kq) ?_
    obtain ⟨cl17, Ar17, q117, Sz17, Nz17, Hh17, Gg17⟩ := id Ah
    have hin17 : ¬ (c1 < 0 ∨ cl17.slots.size ≤ (c1).toNatClampNeg) := inb_of Sz17 (own_bk hcI1 hcp (by decide) (own_nI hl0 (by decide)))
    obtain ⟨T17, h17, X17, e17, W17, st17⟩ := stB X15 hx hZ e15 Ar17 (j := c1) hin17 (g := (mkF m 55 #[iv i1, iv ee, rv t, iv i1, iv r0, iv c1, iv 0] [(.int ((48 : Int32) + (r0 % (10 : Int32)))), (.int c1), (.ref t)])) rfl rfl (hb hby d33_55)
    have F18 : Arh Z h17 t kb .byte (16 : Int32) [(c1, (.int (nar .byte ((48 : Int32) + (r0 % (10 : Int32))))))] (own_B xs) (.int 0) := Arh.push Ar17 q117 Sz17 Nz17 Hh17 Gg17 (fits_nar_byte _) W17 hin17
    have N17 := Fr.snoc X17 N0 gt
    have O20 := O0.wr W17 gt
    have K21 := K0.wr W17 (Or.inl (List.mem_of_getElem? (i := 0) rfl))
    refine own_G.st (T' := T17) 56 [] st17 ?_
    refine own_G.sk 57 [(.ref t)] (fun _ kq => XS.aloadN X17.here hx rfl (hb hby d33_56) rfl rfl kq) ?_
    refine own_G.si 60 [(.ref t)] (fun _ kq => XS.iinc X17.here hx rfl (hb hby d33_57) rfl (l' := #[iv i1, iv ee, rv t, iv i1, iv r0, .val (.int (c1 + (-1 : Int32))), iv 0]) rfl kq) ?_
    obtain ⟨c2, hc2⟩ : ∃ z, z = (c1 + (-1 : Int32)) := ⟨_, rfl⟩
    refine own_G.cast (g' := (mkF m 60 #[iv i1, iv ee, rv t, iv i1, iv r0, iv c2, iv 0] [(.ref t)])) (by rw [hc2]) ?_
    have hcI2 : c2.toInt = (xs.length : Int) + ((own_dig pp).length : Int) - 2 := own_decn hcI1 hc2 hcp (by decide) (own_nI hl0 (by decide)) (by decide)
    refine own_G.sk 62 [(.int c2), (.ref t)] (fun _ kq => XS.iload X17.here hx rfl (hb hby d33_60) rfl kq) ?_
    obtain ⟨T22, X22, e22, st22⟩ := getS2 X17 hx hZ hown (host := "") (Or.inl (W_ 249 rfl)) Via.refl e17 (Sta.ext O20.2 S_D2) (g := (mkF m 62 #[iv i1, iv ee, rv t, iv i1, iv r0, iv c2, iv 0] [(.int c2), (.ref t)])) rfl (hb hby d33_62)
    refine own_G.st (T' := T22) 65 [(.ref dgb), (.int c2), (.ref t)] st22 ?_
    refine own_G.sk 67 [(.int r0), (.ref dgb), (.int c2), (.ref t)] (fun _ kq => XS.iload X22.here hx rfl (hb hby d33_65) rfl kq) ?_
    obtain ⟨cl23, Ar23, hin23, hat23⟩ := id (own_Tb.at TB2 O20.2 (own_in100 hrI0 (own_m100 _).1 (own_m100 _).2))
    refine own_G.sk 68 [(.int ((48 : Int32) + (r0 / (10 : Int32)))), (.int c2), (.ref t)] (fun _ kq => X22.baloadBytes hx (j := r0) (v := (.int ((48 : Int32) + (r0 / (10 : Int32))))) (by rw [e22]; exact Ar23.1) (State.isArrayOf_alike hZ.alike Ar23.2.1) Ar23.2.2 hin23 hat23 (g := (mkF m 67 #[iv i1, iv ee, rv t, iv i1, iv r0, iv c2, iv 0] [(.int r0), (.ref dgb), (.int c2), (.ref t)])) rfl rfl (hb hby d33_67) _ kq) ?_
    obtain ⟨cl24, Ar24, q124, Sz24, Nz24, Hh24, Gg24⟩ := id F18
    have hin24 : ¬ (c2 < 0 ∨ cl24.slots.size ≤ (c2).toNatClampNeg) := inb_of Sz24 (own_bk hcI2 hcp (by decide) (own_nI hl0 (by decide)))
    obtain ⟨T24, h24, X24, e24, W24, st24⟩ := stB X22 hx hZ e22 Ar24 (j := c2) hin24 (g := (mkF m 68 #[iv i1, iv ee, rv t, iv i1, iv r0, iv c2, iv 0] [(.int ((48 : Int32) + (r0 / (10 : Int32)))), (.int c2), (.ref t)])) rfl rfl (hb hby d33_68)
    have F25 : Arh Z h24 t kb .byte (16 : Int32) [(c2, (.int (nar .byte ((48 : Int32) + (r0 / (10 : Int32)))))), (c1, (.int (nar .byte ((48 : Int32) + (r0 % (10 : Int32))))))] (own_B xs) (.int 0) := Arh.push Ar24 q124 Sz24 Nz24 Hh24 Gg24 (fits_nar_byte _) W24 hin24
    have N24 := Fr.snoc X24 N17 gt
    have O27 := O20.wr W24 gt
    have K28 := K21.wr W24 (Or.inl (List.mem_of_getElem? (i := 0) rfl))
    refine own_G.st (T' := T24) 69 [] st24 ?_
    refine own_G.sk 22 [] (fun _ kq => XS.goto X24.here hx rfl (pc0 := 69) (pc' := 22) rfl (hb hby d33_69) (by decide) (by decide) kq) ?_
    refine own_G.sk 23 [(.int i1)] (fun _ kq => XS.iloadN X24.here hx rfl (hb hby d33_22) rfl kq) ?_
    refine own_G.sk 25 [(.int (-100 : Int32)), (.int i1)] (fun _ kq => XS.bipush X24.here hx rfl (hb hby d33_23) kq) ?_
    rcases Classical.em ((-100 : Int32) < i1) with hg1 | hg1
    · have hy1 : (pp.toInt / 100) < 100 := (own_cmp hiI1 (by decide)).mp hg1
      refine own_G.sk 72 [] (fun _ kq => XS.icmpYes X24.here hx rfl (pc0 := 25) (pc' := 72) rfl (hb hby d33_25) rfl (tlt hg1).2.2.1 (by decide) (by decide) kq) ?_
      refine own_G.sk 73 [(.ref t)] (fun _ kq => XS.aloadN X24.here hx rfl (hb hby d33_72) rfl rfl kq) ?_
      refine own_G.si 76 [(.ref t)] (fun _ kq => XS.iinc X24.here hx rfl (hb hby d33_73) rfl (l' := #[iv i1, iv ee, rv t, iv i1, iv r0, .val (.int (c2 + (-1 : Int32))), iv 0]) rfl kq) ?_
      obtain ⟨c3, hc3⟩ : ∃ z, z = (c2 + (-1 : Int32)) := ⟨_, rfl⟩
      refine own_G.cast (g' := (mkF m 76 #[iv i1, iv ee, rv t, iv i1, iv r0, iv c3, iv 0] [(.ref t)])) (by rw [hc3]) ?_
      have hcI3 : c3.toInt = (xs.length : Int) + ((own_dig pp).length : Int) - 3 := own_decn hcI2 hc3 hcp (by decide) (own_nI hl0 (by decide)) (by decide)
      refine own_G.sk 78 [(.int c3), (.ref t)] (fun _ kq => XS.iload X24.here hx rfl (hb hby d33_76) rfl kq) ?_
      obtain ⟨T29, X29, e29, st29⟩ := getS2 X24 hx hZ hown (host := "") (Or.inl (W_ 187 rfl)) Via.refl e24 (Sta.ext O27.2 S_D1) (g := (mkF m 78 #[iv i1, iv ee, rv t, iv i1, iv r0, iv c3, iv 0] [(.int c3), (.ref t)])) rfl (hb hby d33_78)
      refine own_G.st (T' := T29) 81 [(.ref dga), (.int c3), (.ref t)] st29 ?_
      refine own_G.sk 82 [(.int i1), (.ref dga), (.int c3), (.ref t)] (fun _ kq => XS.iloadN X29.here hx rfl (hb hby d33_81) rfl kq) ?_
      refine own_G.sk 83 [(.int (-i1)), (.ref dga), (.int c3), (.ref t)] (fun _ kq => XS.ineg X29.here hx rfl (hb hby d33_82) rfl kq) ?_
      obtain ⟨rl, hrl⟩ : ∃ z, z = (-i1) := ⟨_, rfl⟩
      refine own_G.cast (g' := (mkF m 83 #[iv i1, iv ee, rv t, iv i1, iv r0, iv c3, iv 0] [(.int rl), (.ref dga), (.int c3), (.ref t)])) (by rw [hrl]) ?_
      have hrlI : rl.toInt = (pp.toInt / 100) := by rw [hrl]; exact own_negp hiI1 (own_nb1 hp0) (own_nb2 hp0 hp1)
      obtain ⟨cl30, Ar30, hin30, hat30⟩ := id (own_Tb.at TB1 O27.2 (own_in100 hrlI (own_nb1 hp0) hy1))
      refine own_G.sk 84 [(.int ((48 : Int32) + (rl % (10 : Int32)))), (.int c3), (.ref t)] (fun _ kq => X29.baloadBytes hx (j := rl) (v := (.int ((48 : Int32) + (rl % (10 : Int32))))) (by rw [e29]; exact Ar30.1) (State.isArrayOf_alike hZ.alike Ar30.2.1) Ar30.2.2 hin30 hat30 (g := (mkF m 83 #[iv i1, iv ee, rv t, iv i1, iv r0, iv c3, iv 0] [(.int rl), (.ref dga), (.int c3), (.ref t)])) rfl rfl (hb hby d33_83) _ kq) ?_
      obtain ⟨cl31, Ar31, q131, Sz31, Nz31, Hh31, Gg31⟩ := id F25
      have hin31 : ¬ (c3 < 0 ∨ cl31.slots.size ≤ (c3).toNatClampNeg) := inb_of Sz31 (own_bk hcI3 hcp (by decide) (own_nI hl0 (by decide)))
      obtain ⟨T31, h31, X31, e31, W31, st31⟩ := stB X29 hx hZ e29 Ar31 (j := c3) hin31 (g := (mkF m 84 #[iv i1, iv ee, rv t, iv i1, iv r0, iv c3, iv 0] [(.int ((48 : Int32) + (rl % (10 : Int32)))), (.int c3), (.ref t)])) rfl rfl (hb hby d33_84)
      have F32 : Arh Z h31 t kb .byte (16 : Int32) [(c3, (.int (nar .byte ((48 : Int32) + (rl % (10 : Int32)))))), (c2, (.int (nar .byte ((48 : Int32) + (r0 / (10 : Int32)))))), (c1, (.int (nar .byte ((48 : Int32) + (r0 % (10 : Int32))))))] (own_B xs) (.int 0) := Arh.push Ar31 q131 Sz31 Nz31 Hh31 Gg31 (fits_nar_byte _) W31 hin31
      have N31 := Fr.snoc X31 N24 gt
      have O34 := O27.wr W31 gt
      have K35 := K28.wr W31 (Or.inl (List.mem_of_getElem? (i := 0) rfl))
      refine own_G.st (T' := T31) 85 [] st31 ?_
      refine own_G.sk 86 [(.int i1)] (fun _ kq => XS.iloadN X31.here hx rfl (hb hby d33_85) rfl kq) ?_
      refine own_G.sk 88 [(.int (-9 : Int32)), (.int i1)] (fun _ kq => XS.bipush X31.here hx rfl (hb hby d33_86) kq) ?_
      rcases Classical.em (i1 < (-9 : Int32)) with hc88 | hc88
      · have h9 : 10 ≤ (pp.toInt / 100) := own_n9t hiI1 hc88
        have hl9 : 4 ≤ (own_dig pp).length := (own_dlen pp).2.2.2.1 (own_l4 h9)
        refine own_G.sk 91 [] (fun _ kq => XS.icmpNo X31.here hx rfl (hb hby d33_88) rfl (tlt hc88).2.1 kq) ?_
        refine own_G.sk 92 [(.ref t)] (fun _ kq => XS.aloadN X31.here hx rfl (hb hby d33_91) rfl rfl kq) ?_
        refine own_G.si 95 [(.ref t)] (fun _ kq => XS.iinc X31.here hx rfl (hb hby d33_92) rfl (l' := #[iv i1, iv ee, rv t, iv i1, iv r0, .val (.int (c3 + (-1 : Int32))), iv 0]) rfl kq) ?_
        obtain ⟨c4, hc4⟩ : ∃ z, z = (c3 + (-1 : Int32)) := ⟨_, rfl⟩
        refine own_G.cast (g' := (mkF m 95 #[iv i1, iv ee, rv t, iv i1, iv r0, iv c4, iv 0] [(.ref t)])) (by rw [hc4]) ?_
        have hcI4 : c4.toInt = (xs.length : Int) + ((own_dig pp).length : Int) - 4 := own_decn hcI3 hc4 hcp (by decide) (own_nI hl9 (by decide)) (by decide)
        refine own_G.sk 97 [(.int c4), (.ref t)] (fun _ kq => XS.iload X31.here hx rfl (hb hby d33_95) rfl kq) ?_
        obtain ⟨T36, X36, e36, st36⟩ := getS2 X31 hx hZ hown (host := "") (Or.inl (W_ 249 rfl)) Via.refl e31 (Sta.ext O34.2 S_D2) (g := (mkF m 97 #[iv i1, iv ee, rv t, iv i1, iv r0, iv c4, iv 0] [(.int c4), (.ref t)])) rfl (hb hby d33_97)
        refine own_G.st (T' := T36) 100 [(.ref dgb), (.int c4), (.ref t)] st36 ?_
        refine own_G.sk 101 [(.int i1), (.ref dgb), (.int c4), (.ref t)] (fun _ kq => XS.iloadN X36.here hx rfl (hb hby d33_100) rfl kq) ?_
        refine own_G.sk 102 [(.int (-i1)), (.ref dgb), (.int c4), (.ref t)] (fun _ kq => XS.ineg X36.here hx rfl (hb hby d33_101) rfl kq) ?_
        obtain ⟨rm, hrm⟩ : ∃ z, z = (-i1) := ⟨_, rfl⟩
        refine own_G.cast (g' := (mkF m 102 #[iv i1, iv ee, rv t, iv i1, iv r0, iv c4, iv 0] [(.int rm), (.ref dgb), (.int c4), (.ref t)])) (by rw [hrm]) ?_
        have hrmI : rm.toInt = (pp.toInt / 100) := by rw [hrm]; exact own_negp hiI1 (own_nb1 hp0) (own_nb2 hp0 hp1)
        obtain ⟨cl37, Ar37, hin37, hat37⟩ := id (own_Tb.at TB2 O34.2 (own_in100 hrmI (own_nb1 hp0) hy1))
        refine own_G.sk 103 [(.int ((48 : Int32) + (rm / (10 : Int32)))), (.int c4), (.ref t)] (fun _ kq => X36.baloadBytes hx (j := rm) (v := (.int ((48 : Int32) + (rm / (10 : Int32))))) (by rw [e36]; exact Ar37.1) (State.isArrayOf_alike hZ.alike Ar37.2.1) Ar37.2.2 hin37 hat37 (g := (mkF m 102 #[iv i1, iv ee, rv t, iv i1, iv r0, iv c4, iv 0] [(.int rm), (.ref dgb), (.int c4), (.ref t)])) rfl rfl (hb hby d33_102) _ kq) ?_
        obtain ⟨cl38, Ar38, q138, Sz38, Nz38, Hh38, Gg38⟩ := id F32
        have hin38 : ¬ (c4 < 0 ∨ cl38.slots.size ≤ (c4).toNatClampNeg) := inb_of Sz38 (own_bk hcI4 hcp (by decide) (own_nI hl9 (by decide)))
        obtain ⟨T38, h38, X38, e38, W38, st38⟩ := stB X36 hx hZ e36 Ar38 (j := c4) hin38 (g := (mkF m 103 #[iv i1, iv ee, rv t, iv i1, iv r0, iv c4, iv 0] [(.int ((48 : Int32) + (rm / (10 : Int32)))), (.int c4), (.ref t)])) rfl rfl (hb hby d33_103)
        have F39 : Arh Z h38 t kb .byte (16 : Int32) [(c4, (.int (nar .byte ((48 : Int32) + (rm / (10 : Int32)))))), (c3, (.int (nar .byte ((48 : Int32) + (rl % (10 : Int32)))))), (c2, (.int (nar .byte ((48 : Int32) + (r0 / (10 : Int32)))))), (c1, (.int (nar .byte ((48 : Int32) + (r0 % (10 : Int32))))))] (own_B xs) (.int 0) := Arh.push Ar38 q138 Sz38 Nz38 Hh38 Gg38 (fits_nar_byte _) W38 hin38
        have N38 := Fr.snoc X38 N31 gt
        have O41 := O34.wr W38 gt
        have K42 := K35.wr W38 (Or.inl (List.mem_of_getElem? (i := 0) rfl))
        refine own_G.st (T' := T38) 104 [] st38 ?_
        refine own_G.sk 106 [(.int 0)] (fun _ kq => XS.iload X38.here hx rfl (hb hby d33_104) rfl kq) ?_
        have hc106 : (0 : Int32) = (0 : Int32) := (by decide)
        refine own_G.sk 118 [] (fun _ kq => XS.ifYes X38.here hx rfl (pc0 := 106) (pc' := 118) rfl (hb hby d33_106) rfl ((if0 _ _).trans (teq hc106).1) (by decide) (by decide) kq) ?_
        refine own_G.sk 120 [(.int c4)] (fun _ kq => XS.iload X38.here hx rfl (hb hby d33_118) rfl kq) ?_
        have hN : (own_dig pp).length = 4 := by rw [own_dig4 (own_l4 h9) (own_u4 hy1)]; rfl
        have hFn : Arv Z h38 t kb .byte (16 : Int32) (own_B (xs ++ own_dig pp)) (.int 0) := by
          rw [own_dig4 (own_l4 h9) (own_u4 hy1)]
          exact own_gc F39 (own_hokC (own_pl (j := 0) hcI4 (by rw [hN]; decide)) (congrArg Value.int ((own_ten hrmI (own_nb1 hp0) hy1).trans (congrArg own_dg (own_q6 _)))) (own_hokC (own_pl (j := 1) hcI3 (by rw [hN]; decide)) (congrArg Value.int ((own_one hrlI (own_nb1 hp0) hy1).trans (congrArg own_dg rfl))) (own_hokC (own_pl (j := 2) hcI2 (by rw [hN]; decide)) (congrArg Value.int ((own_ten hrI0 (own_m100 _).1 (own_m100 _).2).trans (congrArg own_dg (own_q2 _)))) (own_hokC (own_pl (j := 3) hcI1 (by rw [hN]; decide)) (congrArg Value.int ((own_one hrI0 (own_m100 _).1 (own_m100 _).2).trans (congrArg own_dg (own_q1 _)))) own_hokN))))
        exact own_ret X38 e38 (v := some (.int c4)) (fun h => by rw [Bd.returns] at h; cases h) Bd.notSynchronized ⟨c4, rfl, N38, K42, hFn⟩ (by decide) (by decide) (fun fs hr => retI X38 hx Bd.returns (hb hby d33_120) hr)
      · have h9 : (pp.toInt / 100) < 10 := own_n9f hiI1 hc88
        refine own_G.sk 104 [] (fun _ kq => XS.icmpYes X31.here hx rfl (pc0 := 88) (pc' := 104) rfl (hb hby d33_88) rfl (flt hc88).2.1 (by decide) (by decide) kq) ?_
        refine own_G.sk 106 [(.int 0)] (fun _ kq => XS.iload X31.here hx rfl (hb hby d33_104) rfl kq) ?_
        have hc106 : (0 : Int32) = (0 : Int32) := (by decide)
        refine own_G.sk 118 [] (fun _ kq => XS.ifYes X31.here hx rfl (pc0 := 106) (pc' := 118) rfl (hb hby d33_106) rfl ((if0 _ _).trans (teq hc106).1) (by decide) (by decide) kq) ?_
        refine own_G.sk 120 [(.int c3)] (fun _ kq => XS.iload X31.here hx rfl (hb hby d33_118) rfl kq) ?_
        have hN : (own_dig pp).length = 3 := by rw [own_dig3 hy0 (own_u3 h9)]; rfl
        have hFn : Arv Z h31 t kb .byte (16 : Int32) (own_B (xs ++ own_dig pp)) (.int 0) := by
          rw [own_dig3 hy0 (own_u3 h9)]
          exact own_gc F32 (own_hokC (own_pl (j := 0) hcI3 (by rw [hN]; decide)) (congrArg Value.int ((own_one hrlI (own_nb1 hp0) hy1).trans (congrArg own_dg (own_q8 hp0 h9)))) (own_hokC (own_pl (j := 1) hcI2 (by rw [hN]; decide)) (congrArg Value.int ((own_ten hrI0 (own_m100 _).1 (own_m100 _).2).trans (congrArg own_dg (own_q2 _)))) (own_hokC (own_pl (j := 2) hcI1 (by rw [hN]; decide)) (congrArg Value.int ((own_one hrI0 (own_m100 _).1 (own_m100 _).2).trans (congrArg own_dg (own_q1 _)))) own_hokN)))
        exact own_ret X31 e31 (v := some (.int c3)) (fun h => by rw [Bd.returns] at h; cases h) Bd.notSynchronized ⟨c3, rfl, N31, K35, hFn⟩ (by decide) (by decide) (fun fs hr => retI X31 hx Bd.returns (hb hby d33_120) hr)
    · have hy1 : ¬ (pp.toInt / 100) < 100 := fun q => hg1 ((own_cmp hiI1 (by decide)).mpr q)
      have hl1 : 5 ≤ (own_dig pp).length := Nat.le_of_eq ((own_dlen pp).2.2.2.2.1 (own_l5 hy1)).symm
      refine own_G.sk 28 [] (fun _ kq => XS.icmpNo X24.here hx rfl (hb hby d33_25) rfl (flt hg1).2.2.1 kq) ?_
      refine own_G.sk 29 [(.int i1)] (fun _ kq => XS.iloadN X24.here hx rfl (hb hby d33_28) rfl kq) ?_
      refine own_G.sk 31 [(.int 100), (.int i1)] (fun _ kq => XS.bipush X24.here hx rfl (hb hby d33_29) kq) ?_
      refine own_G.sk 32 [(.int (i1 / (100 : Int32)))] (fun _ kq => XS.idiv X24.here hx rfl (hb hby d33_31) rfl (by decide) kq) ?_
      refine own_G.si 33 [] (fun _ kq => XS.istoreN X24.here hx rfl (hb hby d33_32) rfl (l' := #[iv i1, iv ee, rv t, .val (.int (i1 / (100 : Int32))), iv r0, iv c2, iv 0]) rfl kq) ?_
      refine own_G.sk 34 [(.int (i1 / (100 : Int32)))] (fun _ kq => XS.iloadN X24.here hx rfl (hb hby d33_33) rfl kq) ?_
      refine own_G.sk 36 [(.int 100), (.int (i1 / (100 : Int32)))] (fun _ kq => XS.bipush X24.here hx rfl (hb hby d33_34) kq) ?_
      refine own_G.sk 37 [(.int ((i1 / (100 : Int32)) * (100 : Int32)))] (fun _ kq => XS.imul X24.here hx rfl (hb hby d33_36) rfl kq) ?_
      refine own_G.sk 38 [(.int i1), (.int ((i1 / (100 : Int32)) * (100 : Int32)))] (fun _ kq => XS.iloadN X24.here hx rfl (hb hby d33_37) rfl kq) ?_
      refine own_G.sk 39 [(.int (((i1 / (100 : Int32)) * (100 : Int32)) - i1))] (fun _ kq => XS.isub X24.here hx rfl (hb hby d33_38) rfl kq) ?_
      refine own_G.si 41 [] (fun _ kq => XS.istore X24.here hx rfl (hb hby d33_39) rfl (l' := #[iv i1, iv ee, rv t, .val (.int (i1 / (100 : Int32))), .val (.int (((i1 / (100 : Int32)) * (100 : Int32)) - i1)), iv c2, iv 0]) rfl kq) ?_
      obtain ⟨i2, hi2⟩ : ∃ z, z = (i1 / (100 : Int32)) := ⟨_, rfl⟩
      refine own_G.cast (g' := (mkF m 41 #[iv i1, iv ee, rv t, iv i2, .val (.int ((i2 * (100 : Int32)) - i1)), iv c2, iv 0] [])) (by rw [hi2]) ?_
      obtain ⟨r1, hr1⟩ : ∃ z, z = ((i2 * (100 : Int32)) - i1) := ⟨_, rfl⟩
      refine own_G.cast (g' := (mkF m 41 #[iv i1, iv ee, rv t, iv i2, iv r1, iv c2, iv 0] [])) (by rw [hr1]) ?_
      obtain ⟨hiI2, hrI1⟩ := own_rd hiI1 (own_nb1 hp0) (own_nb2 hp0 hp1) hi2 hr1
      refine own_G.sk 42 [(.int i2)] (fun _ kq => XS.iloadN X24.here hx rfl (hb hby d33_41) rfl kq) ?_
      refine own_G.si 43 [] (fun _ kq => XS.istoreN X24.here hx rfl (hb hby d33_42) rfl (l' := #[iv i2, iv ee, rv t, iv i2, iv r1, iv c2, iv 0]) rfl kq) ?_
      refine own_G.sk 44 [(.ref t)] (fun _ kq => XS.aloadN X24.here hx rfl (hb hby d33_43) rfl rfl kq) ?_
      refine own_G.si 47 [(.ref t)] (fun _ kq => XS.iinc X24.here hx rfl (hb hby d33_44) rfl (l' := #[iv i2, iv ee, rv t, iv i2, iv r1, .val (.int (c2 + (-1 : Int32))), iv 0]) rfl kq) ?_
      obtain ⟨c3, hc3⟩ : ∃ z, z = (c2 + (-1 : Int32)) := ⟨_, rfl⟩
      refine own_G.cast (g' := (mkF m 47 #[iv i2, iv ee, rv t, iv i2, iv r1, iv c3, iv 0] [(.ref t)])) (by rw [hc3]) ?_
      have hcI3 : c3.toInt = (xs.length : Int) + ((own_dig pp).length : Int) - 3 := own_decn hcI2 hc3 hcp (by decide) (own_nI hl1 (by decide)) (by decide)
      refine own_G.sk 49 [(.int c3), (.ref t)] (fun _ kq => XS.iload X24.here hx rfl (hb hby d33_47) rfl kq) ?_
      obtain ⟨T43, X43, e43, st43⟩ := getS2 X24 hx hZ hown (host := "") (Or.inl (W_ 187 rfl)) Via.refl e24 (Sta.ext O27.2 S_D1) (g := (mkF m 49 #[iv i2, iv ee, rv t, iv i2, iv r1, iv c3, iv 0] [(.int c3), (.ref t)])) rfl (hb hby d33_49)
      refine own_G.st (T' := T43) 52 [(.ref dga), (.int c3), (.ref t)] st43 ?_
      refine own_G.sk 54 [(.int r1), (.ref dga), (.int c3), (.ref t)] (fun _ kq => XS.iload X43.here hx rfl (hb hby d33_52) rfl kq) ?_
      obtain ⟨cl44, Ar44, hin44, hat44⟩ := id (own_Tb.at TB1 O27.2 (own_in100 hrI1 (own_m100 _).1 (own_m100 _).2))
      refine own_G.sk 55 [(.int ((48 : Int32) + (r1 % (10 : Int32)))), (.int c3), (.ref t)] (fun _ kq => X43.baloadBytes hx (j := r1) (v := (.int ((48 : Int32) + (r1 % (10 : Int32))))) (by rw [e43]; exact Ar44.1) (State.isArrayOf_alike hZ.alike Ar44.2.1) Ar44.2.2 hin44 hat44 (g := (mkF m 54 #[iv i2, iv ee, rv t, iv i2, iv r1, iv c3, iv 0] [(.int r1), (.ref dga), (.int c3), (.ref t)])) rfl rfl (hb hby d33_54) _ kq) ?_
      obtain ⟨cl45, Ar45, q145, Sz45, Nz45, Hh45, Gg45⟩ := id F25
      have hin45 : ¬ (c3 < 0 ∨ cl45.slots.size ≤ (c3).toNatClampNeg) := inb_of Sz45 (own_bk hcI3 hcp (by decide) (own_nI hl1 (by decide)))
      obtain ⟨T45, h45, X45, e45, W45, st45⟩ := stB X43 hx hZ e43 Ar45 (j := c3) hin45 (g := (mkF m 55 #[iv i2, iv ee, rv t, iv i2, iv r1, iv c3, iv 0] [(.int ((48 : Int32) + (r1 % (10 : Int32)))), (.int c3), (.ref t)])) rfl rfl (hb hby d33_55)
      have F46 : Arh Z h45 t kb .byte (16 : Int32) [(c3, (.int (nar .byte ((48 : Int32) + (r1 % (10 : Int32)))))), (c2, (.int (nar .byte ((48 : Int32) + (r0 / (10 : Int32)))))), (c1, (.int (nar .byte ((48 : Int32) + (r0 % (10 : Int32))))))] (own_B xs) (.int 0) := Arh.push Ar45 q145 Sz45 Nz45 Hh45 Gg45 (fits_nar_byte _) W45 hin45
      have N45 := Fr.snoc X45 N24 gt
      have O48 := O27.wr W45 gt
      have K49 := K28.wr W45 (Or.inl (List.mem_of_getElem? (i := 0) rfl))
      refine own_G.st (T' := T45) 56 [] st45 ?_
      refine own_G.sk 57 [(.ref t)] (fun _ kq => XS.aloadN X45.here hx rfl (hb hby d33_56) rfl rfl kq) ?_
      refine own_G.si 60 [(.ref t)] (fun _ kq => XS.iinc X45.here hx rfl (hb hby d33_57) rfl (l' := #[iv i2, iv ee, rv t, iv i2, iv r1, .val (.int (c3 + (-1 : Int32))), iv 0]) rfl kq) ?_
      obtain ⟨c4, hc4⟩ : ∃ z, z = (c3 + (-1 : Int32)) := ⟨_, rfl⟩
      refine own_G.cast (g' := (mkF m 60 #[iv i2, iv ee, rv t, iv i2, iv r1, iv c4, iv 0] [(.ref t)])) (by rw [hc4]) ?_
      have hcI4 : c4.toInt = (xs.length : Int) + ((own_dig pp).length : Int) - 4 := own_decn hcI3 hc4 hcp (by decide) (own_nI hl1 (by decide)) (by decide)
      refine own_G.sk 62 [(.int c4), (.ref t)] (fun _ kq => XS.iload X45.here hx rfl (hb hby d33_60) rfl kq) ?_
      obtain ⟨T50, X50, e50, st50⟩ := getS2 X45 hx hZ hown (host := "") (Or.inl (W_ 249 rfl)) Via.refl e45 (Sta.ext O48.2 S_D2) (g := (mkF m 62 #[iv i2, iv ee, rv t, iv i2, iv r1, iv c4, iv 0] [(.int c4), (.ref t)])) rfl (hb hby d33_62)
      refine own_G.st (T' := T50) 65 [(.ref dgb), (.int c4), (.ref t)] st50 ?_
      refine own_G.sk 67 [(.int r1), (.ref dgb), (.int c4), (.ref t)] (fun _ kq => XS.iload X50.here hx rfl (hb hby d33_65) rfl kq) ?_
      obtain ⟨cl51, Ar51, hin51, hat51⟩ := id (own_Tb.at TB2 O48.2 (own_in100 hrI1 (own_m100 _).1 (own_m100 _).2))
      refine own_G.sk 68 [(.int ((48 : Int32) + (r1 / (10 : Int32)))), (.int c4), (.ref t)] (fun _ kq => X50.baloadBytes hx (j := r1) (v := (.int ((48 : Int32) + (r1 / (10 : Int32))))) (by rw [e50]; exact Ar51.1) (State.isArrayOf_alike hZ.alike Ar51.2.1) Ar51.2.2 hin51 hat51 (g := (mkF m 67 #[iv i2, iv ee, rv t, iv i2, iv r1, iv c4, iv 0] [(.int r1), (.ref dgb), (.int c4), (.ref t)])) rfl rfl (hb hby d33_67) _ kq) ?_
      obtain ⟨cl52, Ar52, q152, Sz52, Nz52, Hh52, Gg52⟩ := id F46
      have hin52 : ¬ (c4 < 0 ∨ cl52.slots.size ≤ (c4).toNatClampNeg) := inb_of Sz52 (own_bk hcI4 hcp (by decide) (own_nI hl1 (by decide)))
      obtain ⟨T52, h52, X52, e52, W52, st52⟩ := stB X50 hx hZ e50 Ar52 (j := c4) hin52 (g := (mkF m 68 #[iv i2, iv ee, rv t, iv i2, iv r1, iv c4, iv 0] [(.int ((48 : Int32) + (r1 / (10 : Int32)))), (.int c4), (.ref t)])) rfl rfl (hb hby d33_68)
      have F53 : Arh Z h52 t kb .byte (16 : Int32) [(c4, (.int (nar .byte ((48 : Int32) + (r1 / (10 : Int32)))))), (c3, (.int (nar .byte ((48 : Int32) + (r1 % (10 : Int32)))))), (c2, (.int (nar .byte ((48 : Int32) + (r0 / (10 : Int32)))))), (c1, (.int (nar .byte ((48 : Int32) + (r0 % (10 : Int32))))))] (own_B xs) (.int 0) := Arh.push Ar52 q152 Sz52 Nz52 Hh52 Gg52 (fits_nar_byte _) W52 hin52
      have N52 := Fr.snoc X52 N45 gt
      have O55 := O48.wr W52 gt
      have K56 := K49.wr W52 (Or.inl (List.mem_of_getElem? (i := 0) rfl))
      refine own_G.st (T' := T52) 69 [] st52 ?_
      refine own_G.sk 22 [] (fun _ kq => XS.goto X52.here hx rfl (pc0 := 69) (pc' := 22) rfl (hb hby d33_69) (by decide) (by decide) kq) ?_
      refine own_G.sk 23 [(.int i2)] (fun _ kq => XS.iloadN X52.here hx rfl (hb hby d33_22) rfl kq) ?_
      refine own_G.sk 25 [(.int (-100 : Int32)), (.int i2)] (fun _ kq => XS.bipush X52.here hx rfl (hb hby d33_23) kq) ?_
      have hg2 : (-100 : Int32) < i2 := ((own_cmp hiI2 (by decide)).mpr (own_nb3 hp1))
      refine own_G.sk 72 [] (fun _ kq => XS.icmpYes X52.here hx rfl (pc0 := 25) (pc' := 72) rfl (hb hby d33_25) rfl (tlt hg2).2.2.1 (by decide) (by decide) kq) ?_
      refine own_G.sk 73 [(.ref t)] (fun _ kq => XS.aloadN X52.here hx rfl (hb hby d33_72) rfl rfl kq) ?_
      refine own_G.si 76 [(.ref t)] (fun _ kq => XS.iinc X52.here hx rfl (hb hby d33_73) rfl (l' := #[iv i2, iv ee, rv t, iv i2, iv r1, .val (.int (c4 + (-1 : Int32))), iv 0]) rfl kq) ?_
      obtain ⟨c5, hc5⟩ : ∃ z, z = (c4 + (-1 : Int32)) := ⟨_, rfl⟩
      refine own_G.cast (g' := (mkF m 76 #[iv i2, iv ee, rv t, iv i2, iv r1, iv c5, iv 0] [(.ref t)])) (by rw [hc5]) ?_
      have hcI5 : c5.toInt = (xs.length : Int) + ((own_dig pp).length : Int) - 5 := own_decn hcI4 hc5 hcp (by decide) (own_nI hl1 (by decide)) (by decide)
      refine own_G.sk 78 [(.int c5), (.ref t)] (fun _ kq => XS.iload X52.here hx rfl (hb hby d33_76) rfl kq) ?_
      obtain ⟨T57, X57, e57, st57⟩ := getS2 X52 hx hZ hown (host := "") (Or.inl (W_ 187 rfl)) Via.refl e52 (Sta.ext O55.2 S_D1) (g := (mkF m 78 #[iv i2, iv ee, rv t, iv i2, iv r1, iv c5, iv 0] [(.int c5), (.ref t)])) rfl (hb hby d33_78)
      refine own_G.st (T' := T57) 81 [(.ref dga), (.int c5), (.ref t)] st57 ?_
      refine own_G.sk 82 [(.int i2), (.ref dga), (.int c5), (.ref t)] (fun _ kq => XS.iloadN X57.here hx rfl (hb hby d33_81) rfl kq) ?_
      refine own_G.sk 83 [(.int (-i2)), (.ref dga), (.int c5), (.ref t)] (fun _ kq => XS.ineg X57.here hx rfl (hb hby d33_82) rfl kq) ?_
      obtain ⟨rl, hrl⟩ : ∃ z, z = (-i2) := ⟨_, rfl⟩
      refine own_G.cast (g' := (mkF m 83 #[iv i2, iv ee, rv t, iv i2, iv r1, iv c5, iv 0] [(.int rl), (.ref dga), (.int c5), (.ref t)])) (by rw [hrl]) ?_
      have hrlI : rl.toInt = (pp.toInt / 100 / 100) := by rw [hrl]; exact own_negp hiI2 (own_nb5 hp0) (own_nb6 hp1)
      obtain ⟨cl58, Ar58, hin58, hat58⟩ := id (own_Tb.at TB1 O55.2 (own_in100 hrlI (own_nb5 hp0) (own_nb3 hp1)))
      refine own_G.sk 84 [(.int ((48 : Int32) + (rl % (10 : Int32)))), (.int c5), (.ref t)] (fun _ kq => X57.baloadBytes hx (j := rl) (v := (.int ((48 : Int32) + (rl % (10 : Int32))))) (by rw [e57]; exact Ar58.1) (State.isArrayOf_alike hZ.alike Ar58.2.1) Ar58.2.2 hin58 hat58 (g := (mkF m 83 #[iv i2, iv ee, rv t, iv i2, iv r1, iv c5, iv 0] [(.int rl), (.ref dga), (.int c5), (.ref t)])) rfl rfl (hb hby d33_83) _ kq) ?_
      obtain ⟨cl59, Ar59, q159, Sz59, Nz59, Hh59, Gg59⟩ := id F53
      have hin59 : ¬ (c5 < 0 ∨ cl59.slots.size ≤ (c5).toNatClampNeg) := inb_of Sz59 (own_bk hcI5 hcp (by decide) (own_nI hl1 (by decide)))
      obtain ⟨T59, h59, X59, e59, W59, st59⟩ := stB X57 hx hZ e57 Ar59 (j := c5) hin59 (g := (mkF m 84 #[iv i2, iv ee, rv t, iv i2, iv r1, iv c5, iv 0] [(.int ((48 : Int32) + (rl % (10 : Int32)))), (.int c5), (.ref t)])) rfl rfl (hb hby d33_84)
      have F60 : Arh Z h59 t kb .byte (16 : Int32) [(c5, (.int (nar .byte ((48 : Int32) + (rl % (10 : Int32)))))), (c4, (.int (nar .byte ((48 : Int32) + (r1 / (10 : Int32)))))), (c3, (.int (nar .byte ((48 : Int32) + (r1 % (10 : Int32)))))), (c2, (.int (nar .byte ((48 : Int32) + (r0 / (10 : Int32)))))), (c1, (.int (nar .byte ((48 : Int32) + (r0 % (10 : Int32))))))] (own_B xs) (.int 0) := Arh.push Ar59 q159 Sz59 Nz59 Hh59 Gg59 (fits_nar_byte _) W59 hin59
      have N59 := Fr.snoc X59 N52 gt
      have O62 := O55.wr W59 gt
      have K63 := K56.wr W59 (Or.inl (List.mem_of_getElem? (i := 0) rfl))
      refine own_G.st (T' := T59) 85 [] st59 ?_
      refine own_G.sk 86 [(.int i2)] (fun _ kq => XS.iloadN X59.here hx rfl (hb hby d33_85) rfl kq) ?_
      refine own_G.sk 88 [(.int (-9 : Int32)), (.int i2)] (fun _ kq => XS.bipush X59.here hx rfl (hb hby d33_86) kq) ?_
      rcases Classical.em (i2 < (-9 : Int32)) with hc88 | hc88
      · have h9 : 10 ≤ (pp.toInt / 100 / 100) := own_n9t hiI2 hc88
        exact absurd h9 (own_nb4 hp1)
      · have h9 : (pp.toInt / 100 / 100) < 10 := own_n9f hiI2 hc88
        refine own_G.sk 104 [] (fun _ kq => XS.icmpYes X59.here hx rfl (pc0 := 88) (pc' := 104) rfl (hb hby d33_88) rfl (flt hc88).2.1 (by decide) (by decide) kq) ?_
        refine own_G.sk 106 [(.int 0)] (fun _ kq => XS.iload X59.here hx rfl (hb hby d33_104) rfl kq) ?_
        have hc106 : (0 : Int32) = (0 : Int32) := (by decide)
        refine own_G.sk 118 [] (fun _ kq => XS.ifYes X59.here hx rfl (pc0 := 106) (pc' := 118) rfl (hb hby d33_106) rfl ((if0 _ _).trans (teq hc106).1) (by decide) (by decide) kq) ?_
        refine own_G.sk 120 [(.int c5)] (fun _ kq => XS.iload X59.here hx rfl (hb hby d33_118) rfl kq) ?_
        have hN : (own_dig pp).length = 5 := by rw [own_dig5 (own_l5 hy1)]; rfl
        have hFn : Arv Z h59 t kb .byte (16 : Int32) (own_B (xs ++ own_dig pp)) (.int 0) := by
          rw [own_dig5 (own_l5 hy1)]
          exact own_gc F60 (own_hokC (own_pl (j := 0) hcI5 (by rw [hN]; decide)) (congrArg Value.int ((own_one hrlI (own_nb5 hp0) (own_nb3 hp1)).trans (congrArg own_dg (own_q7 hp0 h9)))) (own_hokC (own_pl (j := 1) hcI4 (by rw [hN]; decide)) (congrArg Value.int ((own_ten hrI1 (own_m100 _).1 (own_m100 _).2).trans (congrArg own_dg (own_q4 _)))) (own_hokC (own_pl (j := 2) hcI3 (by rw [hN]; decide)) (congrArg Value.int ((own_one hrI1 (own_m100 _).1 (own_m100 _).2).trans (congrArg own_dg (own_q3 _)))) (own_hokC (own_pl (j := 3) hcI2 (by rw [hN]; decide)) (congrArg Value.int ((own_ten hrI0 (own_m100 _).1 (own_m100 _).2).trans (congrArg own_dg (own_q2 _)))) (own_hokC (own_pl (j := 4) hcI1 (by rw [hN]; decide)) (congrArg Value.int ((own_one hrI0 (own_m100 _).1 (own_m100 _).2).trans (congrArg own_dg (own_q1 _)))) own_hokN)))))
        exact own_ret X59 e59 (v := some (.int c5)) (fun h => by rw [Bd.returns] at h; cases h) Bd.notSynchronized ⟨c5, rfl, N59, K63, hFn⟩ (by decide) (by decide) (fun fs hr => retI X59 hx Bd.returns (hb hby d33_120) hr)
theorem d25_0 : decode jdk_68_method_9_code 0 = .ok (.aload_n 0, 1) := by decide +kernel
theorem d25_1 : decode jdk_68_method_9_code 1 = .ok (.getfield 15, 3) := by decide +kernel
theorem d25_4 : decode jdk_68_method_9_code 4 = .ok (.arraylength, 1) := by decide +kernel
theorem d25_5 : decode jdk_68_method_9_code 5 = .ok (.aload_n 0, 1) := by decide +kernel
theorem d25_6 : decode jdk_68_method_9_code 6 = .ok (.getfield 22, 3) := by decide +kernel
theorem d25_9 : decode jdk_68_method_9_code 9 = .ok (.ishr, 1) := by decide +kernel
theorem d25_10 : decode jdk_68_method_9_code 10 = .ok (.istore_n 2, 1) := by decide +kernel
theorem d25_11 : decode jdk_68_method_9_code 11 = .ok (.iload_n 1, 1) := by decide +kernel
theorem d25_12 : decode jdk_68_method_9_code 12 = .ok (.iload_n 2, 1) := by decide +kernel
theorem d25_13 : decode jdk_68_method_9_code 13 = .ok (.isub, 1) := by decide +kernel
theorem d25_14 : decode jdk_68_method_9_code 14 = .ok (.ifCond .le 24, 3) := by decide +kernel
theorem d25_38 : decode jdk_68_method_9_code 38 = .ok (.return_, 1) := by decide +kernel
theorem ef_ensure (m : MethodId) (a : Addr) (mn : Int32) : entryFrame m #[(.ref a), (.int mn)] 3 = mkF m 0 #[rv a, iv mn, .unset] [] := by
  first | (simp [entryFrame, mkF, argsToLocals, Value.category]; done) | rfl
def Q_ensure (Z : State) (a : Addr) (mn : Int32) (t : Addr) (h0 : Heap) (n0 : Nat) (v : Option Value) (h : Heap) (L : List Loc) : Prop := v = none ∧ Fr n0 L ∧ h = h0
set_option maxRecDepth 65536 in
set_option maxHeartbeats 40000000 in
theorem rm_ensure (l : Launch) (Z : State) (a0 : Array Value) (hw : ∀ d ∈ tables_1, d.before a0 Z = true) (ws : List Jvm.Cond) (a : Addr) (mn : Int32) (t : Addr) (h0 : Heap) (n0 : Nat) (O0 : Old Z n0 h0) (Gv : Fld Z h0 a "java/lang/AbstractStringBuilder" "value" "[B" (.ref t)) (Gc : Fld Z h0 a "java/lang/AbstractStringBuilder" "coder" "B" (.int 0)) (LN : own_Len Z h0 t (16 : Int32)) (hm : ¬ (0 : Int32) < (mn - (16 : Int32))) :
    MetFree l own_y20 (head1 (Jvm.Cond.code own_y20 jdk_68_method_9_code 3 none :: ws) ({ frames := 0, cells := 0, slots := 0, locals := 0 } : Room)) (fun aq_ Uq_ => aq_ = #[(.ref a), (.int mn)] ∧ Z.Warmed39 Uq_.vm ∧ Uq_.heap = h0) (fun _ _ _ _ _ => True) (fun _ Uq_ oq_ Ur_ => ∃ vq_ Lq_, oq_ = .returned vq_ ∧ Q_ensure Z a mn t h0 n0 vq_ Ur_.heap Lq_ ∧ FrameEnd Uq_ oq_ Ur_ Lq_ ({ frames := 0, cells := 0, slots := 0, locals := 0 } : Room).cells ({ frames := 0, cells := 0, slots := 0, locals := 0 } : Room).slots) := by
  refine MetFree.of_bodySF (plainFor_of_name pn_java_2flang_2fAbstractStringBuilder) hisR ?_
  intro p e s m args below meth c s₁ Bd hml0 hP hK
  obtain ⟨rfl, hZ, hh⟩ := hP
  have W_ : ∀ {d : Jvm.Cond} (i : Nat), tables_1[i]? = some d → d.before a0 Z = true := fun i h => hw _ (List.mem_of_getElem? h)
  have hx := Bd.exec
  have hby := Bd.bytes
  have hml : c.maxLocals = 3 := hml0
  have hown : s.vm.findClass "java/lang/AbstractStringBuilder" = some m.cls := findClass_of_methodNamed Bd.named
  have hnm := (name_of_methodNamed Bd.named Bd.method).1
  have X0 : Stand p l e ({ frames := 0, cells := 0, slots := 0, locals := 0 } : Room) s m #[(.ref a), (.int mn)] below meth c s₁ [] 0 0 := Stand.of_body Bd
  have e0 : s₁.heap = h0 := by rw [← hh, Bd.state]; rfl
  have N0 := Fr.nil n0
  have K0 := Keep.refl h0 []
  refine own_G.start (Q := Q_ensure Z a mn t h0 n0) (ef_ensure m a mn) ?_
  refine own_G.sk 1 [(.ref a)] (fun _ kq => XS.aloadN X0.here hx rfl (hb hby d25_0) rfl rfl kq) ?_
  obtain ⟨T1, X1, e1, st1⟩ := getF X0 hx hZ hown (host := "") (Or.inl (W_ 120 rfl)) Via.refl e0 Gv (g := (mkF m 1 #[rv a, iv mn, .unset] [(.ref a)])) rfl rfl (hb hby d25_1)
  refine own_G.st (T' := T1) 4 [(.ref t)] st1 ?_
  obtain ⟨cl2, ty2, Ar2, Sz2, Nz2⟩ := id LN
  refine own_G.step (g' := (mkF m 5 #[rv a, iv mn, .unset] [(.int 16)])) (fun tq_ kq_ => X1.arraylength hx (by rw [e1]; exact Ar2.1) (State.isArrayOf_alike hZ.alike Ar2.2.1) (g := (mkF m 4 #[rv a, iv mn, .unset] [(.ref t)])) rfl rfl (hb hby d25_4) _ (by rw [len_of Sz2 Nz2]; exact kq_)) ?_
  refine own_G.sk 6 [(.ref a), (.int 16)] (fun _ kq => XS.aloadN X1.here hx rfl (hb hby d25_5) rfl rfl kq) ?_
  obtain ⟨T3, X3, e3, st3⟩ := getF X1 hx hZ hown (host := "") (Or.inl (W_ 122 rfl)) Via.refl e1 Gc (g := (mkF m 6 #[rv a, iv mn, .unset] [(.ref a), (.int 16)])) rfl rfl (hb hby d25_6)
  refine own_G.st (T' := T3) 9 [(.int 0), (.int 16)] st3 ?_
  refine own_G.sk 10 [(.int ((16 : Int32) >>> ((0 : Int32) &&& 31)))] (fun _ kq => XS.ishr X3.here hx rfl (hb hby d25_9) rfl kq) ?_
  have hl4 : ((16 : Int32) >>> ((0 : Int32) &&& 31)) = (16 : Int32) := by decide
  refine own_G.cast (g' := (mkF m 10 #[rv a, iv mn, .unset] [(.int 16)])) (by rw [hl4]) ?_
  refine own_G.si 11 [] (fun _ kq => XS.istoreN X3.here hx rfl (hb hby d25_10) rfl (l' := #[rv a, iv mn, iv 16]) rfl kq) ?_
  refine own_G.sk 12 [(.int mn)] (fun _ kq => XS.iloadN X3.here hx rfl (hb hby d25_11) rfl kq) ?_
  refine own_G.sk 13 [(.int 16), (.int mn)] (fun _ kq => XS.iloadN X3.here hx rfl (hb hby d25_12) rfl kq) ?_
  refine own_G.sk 14 [(.int (mn - (16 : Int32)))] (fun _ kq => XS.isub X3.here hx rfl (hb hby d25_13) rfl kq) ?_
  have hc14 : ¬ ((0 : Int32) < (mn - (16 : Int32))) := hm
  refine own_G.sk 38 [] (fun _ kq => XS.ifYes X3.here hx rfl (pc0 := 14) (pc' := 38) rfl (hb hby d25_14) rfl ((if0 _ _).trans (flt hc14).2.2.2) (by decide) (by decide) kq) ?_
  exact own_ret X3 e3 (v := none) (fun _ => rfl) Bd.notSynchronized ⟨rfl, N0, rfl⟩ (by decide) (by decide) (fun fs hr => X3.returnOut hx Bd.returns (hb hby d25_38) hr)
theorem d27_0 : decode jdk_68_method_71_code 0 = .ok (.getstatic 18, 3) := by decide +kernel
theorem d27_3 : decode jdk_68_method_71_code 3 = .ok (.ifCond .eq 18, 3) := by decide +kernel
theorem d27_6 : decode jdk_68_method_71_code 6 = .ok (.aload_n 0, 1) := by decide +kernel
theorem d27_7 : decode jdk_68_method_71_code 7 = .ok (.getfield 22, 3) := by decide +kernel
theorem d27_10 : decode jdk_68_method_71_code 10 = .ok (.aload_n 1, 1) := by decide +kernel
theorem d27_11 : decode jdk_68_method_71_code 11 = .ok (.invokevirtual 40, 3) := by decide +kernel
theorem d27_14 : decode jdk_68_method_71_code 14 = .ok (.if_icmp .eq 7, 3) := by decide +kernel
theorem d27_21 : decode jdk_68_method_71_code 21 = .ok (.return_, 1) := by decide +kernel
theorem ef_inflate (m : MethodId) (a : Addr) (sr : Addr) : entryFrame m #[(.ref a), (.ref sr)] 2 = mkF m 0 #[rv a, rv sr] [] := by
  first | (simp [entryFrame, mkF, argsToLocals, Value.category]; done) | rfl
def Q_inflate (Z : State) (a : Addr) (sr : Addr) (csz : Int32) (h0 : Heap) (n0 : Nat) (v : Option Value) (h : Heap) (L : List Loc) : Prop := v = none ∧ Fr n0 L ∧ h = h0
set_option maxRecDepth 65536 in
set_option maxHeartbeats 40000000 in
theorem rm_inflate (l : Launch) (Z : State) (a0 : Array Value) (hw : ∀ d ∈ tables_1, d.before a0 Z = true) (ws : List Jvm.Cond) (a : Addr) (sr : Addr) (csz : Int32) (h0 : Heap) (n0 : Nat) (O0 : Old Z n0 h0) (S_CS : Sta Z Z.heap "java/lang/String" "COMPACT_STRINGS" "Z" (.int csz)) (hcs : ¬ csz = (0 : Int32)) (Gc : Fld Z h0 a "java/lang/AbstractStringBuilder" "coder" "B" (.int 0)) (Es : Exa Z h0 sr "java/lang/String") (Sc : Fld Z h0 sr "java/lang/String" "coder" "B" (.int 0)) :
    MetFree l own_y21 (head1 (Jvm.Cond.code own_y21 jdk_68_method_71_code 2 none :: ws) ({ frames := 1, cells := 0, slots := 0, locals := 13 } : Room)) (fun aq_ Uq_ => aq_ = #[(.ref a), (.ref sr)] ∧ Z.Warmed39 Uq_.vm ∧ Uq_.heap = h0) (fun _ _ _ _ _ => True) (fun _ Uq_ oq_ Ur_ => ∃ vq_ Lq_, oq_ = .returned vq_ ∧ Q_inflate Z a sr csz h0 n0 vq_ Ur_.heap Lq_ ∧ FrameEnd Uq_ oq_ Ur_ Lq_ ({ frames := 1, cells := 0, slots := 0, locals := 13 } : Room).cells ({ frames := 1, cells := 0, slots := 0, locals := 13 } : Room).slots) := by
  refine MetFree.of_bodySF (plainFor_of_name pn_java_2flang_2fAbstractStringBuilder) hisR ?_
  intro p e s m args below meth c s₁ Bd hml0 hP hK
  obtain ⟨rfl, hZ, hh⟩ := hP
  have W_ : ∀ {d : Jvm.Cond} (i : Nat), tables_1[i]? = some d → d.before a0 Z = true := fun i h => hw _ (List.mem_of_getElem? h)
  have hx := Bd.exec
  have hby := Bd.bytes
  have hml : c.maxLocals = 2 := hml0
  have hown : s.vm.findClass "java/lang/AbstractStringBuilder" = some m.cls := findClass_of_methodNamed Bd.named
  have hnm := (name_of_methodNamed Bd.named Bd.method).1
  have X0 : Stand p l e ({ frames := 1, cells := 0, slots := 0, locals := 13 } : Room) s m #[(.ref a), (.ref sr)] below meth c s₁ [] 0 0 := Stand.of_body Bd
  have e0 : s₁.heap = h0 := by rw [← hh, Bd.state]; rfl
  have N0 := Fr.nil n0
  have K0 := Keep.refl h0 []
  refine own_G.start (Q := Q_inflate Z a sr csz h0 n0) (ef_inflate m a sr) ?_
  obtain ⟨T1, X1, e1, st1⟩ := getS2 X0 hx hZ hown (host := "") (Or.inl (W_ 119 rfl)) Via.refl e0 (Sta.ext O0.2 S_CS) (g := (mkF m 0 #[rv a, rv sr] [])) rfl (hb hby d27_0)
  refine own_G.st (T' := T1) 3 [(.int csz)] st1 ?_
  have hc3 : ¬ (csz = (0 : Int32)) := hcs
  refine own_G.sk 6 [] (fun _ kq => XS.ifNo X1.here hx rfl (hb hby d27_3) rfl ((if0 _ _).trans (feq hc3).1) kq) ?_
  refine own_G.sk 7 [(.ref a)] (fun _ kq => XS.aloadN X1.here hx rfl (hb hby d27_6) rfl rfl kq) ?_
  obtain ⟨T2, X2, e2, st2⟩ := getF X1 hx hZ hown (host := "") (Or.inl (W_ 122 rfl)) Via.refl e1 Gc (g := (mkF m 7 #[rv a, rv sr] [(.ref a)])) rfl rfl (hb hby d27_7)
  refine own_G.st (T' := T2) 10 [(.int 0)] st2 ?_
  refine own_G.sk 11 [(.ref sr), (.int 0)] (fun _ kq => XS.aloadN X2.here hx rfl (hb hby d27_10) rfl rfl kq) ?_
  obtain ⟨cq3, kq3, q3a, q3b, q3c⟩ := isOf hZ e2 Es
  obtain ⟨_, _, ⟨T3, L3, k3, n3⟩, -, X3, ⟨Lc3, hQ3, l3, y3, z3⟩, st3⟩ := X2.virtualBack hx (y := own_y0) (z := own_y0) hown (mvT hZ (W_ 156 rfl)) (mvT hZ (W_ 90 rfl)) (notFace_of_selects (args := #[]) (mvT hZ (W_ 92 rfl))) (mvT hZ (W_ 92 rfl)) (mvT hZ (W_ 91 rfl)) (by decide) (backOf (W := 1) (rm_coder l Z a0 hw [] sr csz h0 n0 O0 S_CS hcs Sc) hZ (W_ 93 rfl) (W_ 8 rfl) (by decide) (by decide)) q3a q3c (g := (mkF m 11 #[rv a, rv sr] [(.ref sr), (.int 0)])) rfl (by rw [hml]; rfl) (Steps.refl _) (argsL := []) (rest := [(.int 0)]) (lenOf pd__28_29B rfl) rfl (by show 2 * 0 + _ ≤ _; exact Nat.le_of_eq rfl) (hb hby d27_11) (fun _ _ => ⟨rfl, e2, (by decide : 0 + 0 ≤ _), (by decide : 0 + 0 ≤ _)⟩)
  dsimp only [Pt.U, Pt.locs, Pt.cells, Pt.slots] at X3 l3 y3 z3 st3 hQ3
  subst l3 y3 z3
  obtain ⟨rfl, Nq3, P4⟩ := hQ3
  have N3 := Fr.app N0 Nq3
  refine own_G.st (T' := T3) 14 [(.int 0), (.int 0)] (fun _ kq => st3.trans kq) ?_
  have hc14 : (0 : Int32) = (0 : Int32) := rfl
  refine own_G.sk 21 [] (fun _ kq => XS.icmpYes X3.here hx rfl (pc0 := 14) (pc' := 21) rfl (hb hby d27_14) rfl (teq hc14).1 (by decide) (by decide) kq) ?_
  exact own_ret X3 P4 (v := none) (fun _ => rfl) Bd.notSynchronized ⟨rfl, N3, rfl⟩ (by decide) (by decide) (fun fs hr => X3.returnOut hx Bd.returns (hb hby d27_21) hr)
theorem d28_0 : decode jdk_42_method_147_code 0 = .ok (.aload_n 0, 1) := by decide +kernel
theorem d28_1 : decode jdk_42_method_147_code 1 = .ok (.invokevirtual 335, 3) := by decide +kernel
theorem d28_4 : decode jdk_42_method_147_code 4 = .ok (.iload_n 3, 1) := by decide +kernel
theorem d28_5 : decode jdk_42_method_147_code 5 = .ok (.if_icmp .ne 23, 3) := by decide +kernel
theorem d28_8 : decode jdk_42_method_147_code 8 = .ok (.aload_n 0, 1) := by decide +kernel
theorem d28_9 : decode jdk_42_method_147_code 9 = .ok (.getfield 9, 3) := by decide +kernel
theorem d28_12 : decode jdk_42_method_147_code 12 = .ok (.iconst 0, 1) := by decide +kernel
theorem d28_13 : decode jdk_42_method_147_code 13 = .ok (.aload_n 1, 1) := by decide +kernel
theorem d28_14 : decode jdk_42_method_147_code 14 = .ok (.iload_n 2, 1) := by decide +kernel
theorem d28_15 : decode jdk_42_method_147_code 15 = .ok (.iload_n 3, 1) := by decide +kernel
theorem d28_16 : decode jdk_42_method_147_code 16 = .ok (.ishl, 1) := by decide +kernel
theorem d28_17 : decode jdk_42_method_147_code 17 = .ok (.aload_n 0, 1) := by decide +kernel
theorem d28_18 : decode jdk_42_method_147_code 18 = .ok (.getfield 9, 3) := by decide +kernel
theorem d28_21 : decode jdk_42_method_147_code 21 = .ok (.arraylength, 1) := by decide +kernel
theorem d28_22 : decode jdk_42_method_147_code 22 = .ok (.invokestatic 212, 3) := by decide +kernel
theorem d28_25 : decode jdk_42_method_147_code 25 = .ok (.goto 18, 3) := by decide +kernel
theorem d28_43 : decode jdk_42_method_147_code 43 = .ok (.return_, 1) := by decide +kernel
theorem ef_getb (m : MethodId) (sr : Addr) (t : Addr) (nn : Int32) : entryFrame m #[(.ref sr), (.ref t), (.int nn), (.int 0)] 4 = mkF m 0 #[rv sr, rv t, iv nn, iv 0] [] := by
  first | (simp [entryFrame, mkF, argsToLocals, Value.category]; done) | rfl
def Q_getb (Z : State) (sr : Addr) (t : Addr) (nn : Int32) (csz : Int32) (u : Addr) (ku : ClassId) (mm : Int32) (ys : List Int32) (kb : ClassId) (xs : List Int32) (h0 : Heap) (n0 : Nat) (v : Option Value) (h : Heap) (L : List Loc) : Prop := v = none ∧ Fr n0 L ∧ Keep h0 h [t] ∧ Arv Z h t kb .byte (16 : Int32) (own_B (xs ++ ys)) (.int 0)
set_option maxRecDepth 65536 in
set_option maxHeartbeats 40000000 in
theorem rm_getb (l : Launch) (Z : State) (a0 : Array Value) (hw : ∀ d ∈ tables_1, d.before a0 Z = true) (ws : List Jvm.Cond) (sr : Addr) (t : Addr) (nn : Int32) (csz : Int32) (u : Addr) (ku : ClassId) (mm : Int32) (ys : List Int32) (kb : ClassId) (xs : List Int32) (h0 : Heap) (n0 : Nat) (O0 : Old Z n0 h0) (S_CS : Sta Z Z.heap "java/lang/String" "COMPACT_STRINGS" "Z" (.int csz)) (hcs : ¬ csz = (0 : Int32)) (Es : Exa Z h0 sr "java/lang/String") (Sv : Fld Z h0 sr "java/lang/String" "value" "[B" (.ref u)) (Sc : Fld Z h0 sr "java/lang/String" "coder" "B" (.int 0)) (Au : Arv Z h0 u ku .byte mm (own_B ys) (.int 0)) (At : Arv Z h0 t kb .byte (16 : Int32) (own_B xs) (.int 0)) (gt : n0 ≤ t) (utn : u ≠ t) (srt : sr ≠ t) (hn : nn.toInt = (xs.length : Int)) (hm : mm.toInt = (ys.length : Int)) (hcp : xs.length + ys.length ≤ 16) :
    MetFree l own_y22 (head1 (Jvm.Cond.code own_y22 jdk_42_method_147_code 4 none :: ws) ({ frames := 1, cells := 0, slots := 0, locals := 18 } : Room)) (fun aq_ Uq_ => aq_ = #[(.ref sr), (.ref t), (.int nn), (.int 0)] ∧ Z.Warmed39 Uq_.vm ∧ Uq_.heap = h0) (fun _ _ _ _ _ => True) (fun _ Uq_ oq_ Ur_ => ∃ vq_ Lq_, oq_ = .returned vq_ ∧ Q_getb Z sr t nn csz u ku mm ys kb xs h0 n0 vq_ Ur_.heap Lq_ ∧ FrameEnd Uq_ oq_ Ur_ Lq_ ({ frames := 1, cells := 0, slots := 0, locals := 18 } : Room).cells ({ frames := 1, cells := 0, slots := 0, locals := 18 } : Room).slots) := by
  refine MetFree.of_bodySF (plainFor_of_name pn_java_2flang_2fString) hisR ?_
  intro p e s m args below meth c s₁ Bd hml0 hP hK
  obtain ⟨rfl, hZ, hh⟩ := hP
  have W_ : ∀ {d : Jvm.Cond} (i : Nat), tables_1[i]? = some d → d.before a0 Z = true := fun i h => hw _ (List.mem_of_getElem? h)
  have hx := Bd.exec
  have hby := Bd.bytes
  have hml : c.maxLocals = 4 := hml0
  have hown : s.vm.findClass "java/lang/String" = some m.cls := findClass_of_methodNamed Bd.named
  have hnm := (name_of_methodNamed Bd.named Bd.method).1
  have X0 : Stand p l e ({ frames := 1, cells := 0, slots := 0, locals := 18 } : Room) s m #[(.ref sr), (.ref t), (.int nn), (.int 0)] below meth c s₁ [] 0 0 := Stand.of_body Bd
  have e0 : s₁.heap = h0 := by rw [← hh, Bd.state]; rfl
  have N0 := Fr.nil n0
  have K0 := Keep.refl h0 [t]
  refine own_G.start (Q := Q_getb Z sr t nn csz u ku mm ys kb xs h0 n0) (ef_getb m sr t nn) ?_
  refine own_G.sk 1 [(.ref sr)] (fun _ kq => XS.aloadN X0.here hx rfl (hb hby d28_0) rfl rfl kq) ?_
  obtain ⟨cq1, kq1, q1a, q1b, q1c⟩ := isOf hZ e0 Es
  obtain ⟨_, _, ⟨T1, L1, k1, n1⟩, -, X1, ⟨Lc1, hQ1, l1, y1, z1⟩, st1⟩ := X0.virtualBack hx (y := own_y0) (z := own_y0) hown (mvT hZ (W_ 89 rfl)) (mvT hZ (W_ 90 rfl)) (notFace_of_selects (args := #[]) (mvT hZ (W_ 92 rfl))) (mvT hZ (W_ 92 rfl)) (mvT hZ (W_ 91 rfl)) (by decide) (backOf (W := 0) (rm_coder l Z a0 hw [] sr csz h0 n0 O0 S_CS hcs Sc) hZ (W_ 93 rfl) (W_ 8 rfl) (by decide) (by decide)) q1a q1c (g := (mkF m 1 #[rv sr, rv t, iv nn, iv 0] [(.ref sr)])) rfl (by rw [hml]; rfl) (Steps.refl _) (argsL := []) (rest := []) (lenOf pd__28_29B rfl) rfl (by show 2 * 0 + _ ≤ _; exact Nat.le_of_eq rfl) (hb hby d28_1) (fun _ _ => ⟨rfl, e0, (by decide : 0 + 0 ≤ _), (by decide : 0 + 0 ≤ _)⟩)
  dsimp only [Pt.U, Pt.locs, Pt.cells, Pt.slots] at X1 l1 y1 z1 st1 hQ1
  subst l1 y1 z1
  obtain ⟨rfl, Nq1, P2⟩ := hQ1
  have N1 := Fr.app N0 Nq1
  refine own_G.st (T' := T1) 4 [(.int 0)] (fun _ kq => st1.trans kq) ?_
  refine own_G.sk 5 [(.int 0), (.int 0)] (fun _ kq => XS.iloadN X1.here hx rfl (hb hby d28_4) rfl kq) ?_
  have hc5 : (0 : Int32) = (0 : Int32) := (by decide)
  refine own_G.sk 8 [] (fun _ kq => XS.icmpNo X1.here hx rfl (hb hby d28_5) rfl (teq hc5).2 kq) ?_
  refine own_G.sk 9 [(.ref sr)] (fun _ kq => XS.aloadN X1.here hx rfl (hb hby d28_8) rfl rfl kq) ?_
  obtain ⟨T3, X3, e3, st3⟩ := getF X1 hx hZ hown (host := "") (Or.inl (W_ 33 rfl)) Via.refl P2 Sv (g := (mkF m 9 #[rv sr, rv t, iv nn, iv 0] [(.ref sr)])) rfl rfl (hb hby d28_9)
  refine own_G.st (T' := T3) 12 [(.ref u)] st3 ?_
  refine own_G.sk 13 [(.int 0), (.ref u)] (fun _ kq => XS.iconst X3.here hx rfl (hb hby d28_12) kq) ?_
  refine own_G.sk 14 [(.ref t), (.int 0), (.ref u)] (fun _ kq => XS.aloadN X3.here hx rfl (hb hby d28_13) rfl rfl kq) ?_
  refine own_G.sk 15 [(.int nn), (.ref t), (.int 0), (.ref u)] (fun _ kq => XS.iloadN X3.here hx rfl (hb hby d28_14) rfl kq) ?_
  refine own_G.sk 16 [(.int 0), (.int nn), (.ref t), (.int 0), (.ref u)] (fun _ kq => XS.iloadN X3.here hx rfl (hb hby d28_15) rfl kq) ?_
  refine own_G.sk 17 [(.int (nn <<< ((0 : Int32) &&& 31))), (.ref t), (.int 0), (.ref u)] (fun _ kq => XS.ishl X3.here hx rfl (hb hby d28_16) rfl kq) ?_
  have hl4 : (nn <<< ((0 : Int32) &&& 31)) = nn := own_shl0 nn
  refine own_G.cast (g' := (mkF m 17 #[rv sr, rv t, iv nn, iv 0] [(.int nn), (.ref t), (.int 0), (.ref u)])) (by rw [hl4]) ?_
  refine own_G.sk 18 [(.ref sr), (.int nn), (.ref t), (.int 0), (.ref u)] (fun _ kq => XS.aloadN X3.here hx rfl (hb hby d28_17) rfl rfl kq) ?_
  obtain ⟨T5, X5, e5, st5⟩ := getF X3 hx hZ hown (host := "") (Or.inl (W_ 33 rfl)) Via.refl e3 Sv (g := (mkF m 18 #[rv sr, rv t, iv nn, iv 0] [(.ref sr), (.int nn), (.ref t), (.int 0), (.ref u)])) rfl rfl (hb hby d28_18)
  refine own_G.st (T' := T5) 21 [(.ref u), (.int nn), (.ref t), (.int 0), (.ref u)] st5 ?_
  obtain ⟨cl6, Ar6, -, Sz6, Nz6, -, -⟩ := id Au
  refine own_G.step (g' := (mkF m 22 #[rv sr, rv t, iv nn, iv 0] [(.int mm), (.int nn), (.ref t), (.int 0), (.ref u)])) (fun tq_ kq_ => X5.arraylength hx (by rw [e5]; exact Ar6.1) (State.isArrayOf_alike hZ.alike Ar6.2.1) (g := (mkF m 21 #[rv sr, rv t, iv nn, iv 0] [(.ref u), (.int nn), (.ref t), (.int 0), (.ref u)])) rfl rfl (hb hby d28_21) _ (by rw [len_of Sz6 Nz6]; exact kq_)) ?_
  obtain ⟨T7, h7, L7, X7, e7, N7, K7, A7, st7⟩ := cpA X5 hx hZ hown (W_ 162 rfl) (W_ 165 rfl) (W_ 163 rfl) (W_ 164 rfl) e5 Au (At.pad (pad_rep _ _ mm.toNatClampNeg)) (Or.inl ⟨rfl, rfl⟩) (by decide) (own_nn hn) (own_nn hm) (own_h4 mm _ (Nat.le_refl _)) (own_h5 hn hm hcp) rfl (own_hl hn) N1 gt (g := (mkF m 22 #[rv sr, rv t, iv nn, iv 0] [(.int mm), (.int nn), (.ref t), (.int 0), (.ref u)])) rfl (by rw [hml]; rfl) rfl (hb hby d28_22) (by decide) (W := 0) (by show 2 * 0 + _ ≤ _; exact Nat.le_of_eq rfl) (by decide)
  have F8 := Es.keep K7
  have F9 := Sv.keep K7 (ninS srt nin0)
  have F10 := Sc.keep K7 (ninS srt nin0)
  have F11 := Au.keep K7 (ninS utn nin0)
  have O12 := O0.keep K7 (allS gt all0)
  have K13 := K0.trans K7 (allS (Or.inl (List.mem_of_getElem? (i := 0) rfl)) all0)
  have F14 : Arv Z h7 t kb .byte (16 : Int32) (own_B (xs ++ ys)) (.int 0) := own_cpA (s := (0 : Int32).toNatClampNeg) (d := nn.toNatClampNeg) (m := mm.toNatClampNeg) (by decide) (own_nat hn) (own_nat hm) A7
  refine own_G.st (T' := T7) 25 [] st7 ?_
  refine own_G.sk 43 [] (fun _ kq => XS.goto X7.here hx rfl (pc0 := 25) (pc' := 43) rfl (hb hby d28_25) (by decide) (by decide) kq) ?_
  exact own_ret X7 e7 (v := none) (fun _ => rfl) Bd.notSynchronized ⟨rfl, N7, K13, F14⟩ (by decide) (by decide) (fun fs hr => X7.returnOut hx Bd.returns (hb hby d28_43) hr)
theorem pd__28Ljava_2flang_2fString_3b_29V : parseMethodDescriptor "(Ljava/lang/String;)V" = some ⟨[(.object "java/lang/String")], none⟩ := by decide +kernel
theorem pd__28_5bBIB_29V : parseMethodDescriptor "([BIB)V" = some ⟨[(.array .byte), .int, .byte], none⟩ := by decide +kernel
theorem d26_0 : decode jdk_68_method_73_code 0 = .ok (.aload_n 0, 1) := by decide +kernel
theorem d26_1 : decode jdk_68_method_73_code 1 = .ok (.aload_n 2, 1) := by decide +kernel
theorem d26_2 : decode jdk_68_method_73_code 2 = .ok (.invokevirtual 397, 3) := by decide +kernel
theorem d26_5 : decode jdk_68_method_73_code 5 = .ok (.aload_n 2, 1) := by decide +kernel
theorem d26_6 : decode jdk_68_method_73_code 6 = .ok (.aload_n 0, 1) := by decide +kernel
theorem d26_7 : decode jdk_68_method_73_code 7 = .ok (.getfield 15, 3) := by decide +kernel
theorem d26_10 : decode jdk_68_method_73_code 10 = .ok (.iload_n 1, 1) := by decide +kernel
theorem d26_11 : decode jdk_68_method_73_code 11 = .ok (.aload_n 0, 1) := by decide +kernel
theorem d26_12 : decode jdk_68_method_73_code 12 = .ok (.getfield 22, 3) := by decide +kernel
theorem d26_15 : decode jdk_68_method_73_code 15 = .ok (.invokevirtual 399, 3) := by decide +kernel
theorem d26_18 : decode jdk_68_method_73_code 18 = .ok (.return_, 1) := by decide +kernel
theorem ef_putstr (m : MethodId) (a : Addr) (nn : Int32) (sr : Addr) : entryFrame m #[(.ref a), (.int nn), (.ref sr)] 3 = mkF m 0 #[rv a, iv nn, rv sr] [] := by
  first | (simp [entryFrame, mkF, argsToLocals, Value.category]; done) | rfl
def Q_putstr (Z : State) (a : Addr) (nn : Int32) (sr : Addr) (csz : Int32) (t : Addr) (kb : ClassId) (xs : List Int32) (u : Addr) (ku : ClassId) (mm : Int32) (ys : List Int32) (h0 : Heap) (n0 : Nat) (v : Option Value) (h : Heap) (L : List Loc) : Prop := v = none ∧ Fr n0 L ∧ Keep h0 h [t] ∧ Arv Z h t kb .byte (16 : Int32) (own_B (xs ++ ys)) (.int 0)
set_option maxRecDepth 65536 in
set_option maxHeartbeats 40000000 in
theorem rm_putstr (l : Launch) (Z : State) (a0 : Array Value) (hw : ∀ d ∈ tables_1, d.before a0 Z = true) (ws : List Jvm.Cond) (a : Addr) (nn : Int32) (sr : Addr) (csz : Int32) (t : Addr) (kb : ClassId) (xs : List Int32) (u : Addr) (ku : ClassId) (mm : Int32) (ys : List Int32) (h0 : Heap) (n0 : Nat) (O0 : Old Z n0 h0) (S_CS : Sta Z Z.heap "java/lang/String" "COMPACT_STRINGS" "Z" (.int csz)) (hcs : ¬ csz = (0 : Int32)) (Ea : Exa Z h0 a "java/lang/StringBuilder") (Gv : Fld Z h0 a "java/lang/AbstractStringBuilder" "value" "[B" (.ref t)) (Gc : Fld Z h0 a "java/lang/AbstractStringBuilder" "coder" "B" (.int 0)) (At : Arv Z h0 t kb .byte (16 : Int32) (own_B xs) (.int 0)) (Es : Exa Z h0 sr "java/lang/String") (Sv : Fld Z h0 sr "java/lang/String" "value" "[B" (.ref u)) (Sc : Fld Z h0 sr "java/lang/String" "coder" "B" (.int 0)) (Au : Arv Z h0 u ku .byte mm (own_B ys) (.int 0)) (gt : n0 ≤ t) (utn : u ≠ t) (srt : sr ≠ t) (at_ : a ≠ t) (hn : nn.toInt = (xs.length : Int)) (hm : mm.toInt = (ys.length : Int)) (hcp : xs.length + ys.length ≤ 16) :
    MetFree l own_y23 (head1 (Jvm.Cond.code own_y23 jdk_68_method_73_code 3 none :: ws) ({ frames := 2, cells := 0, slots := 0, locals := 33 } : Room)) (fun aq_ Uq_ => aq_ = #[(.ref a), (.int nn), (.ref sr)] ∧ Z.Warmed39 Uq_.vm ∧ Uq_.heap = h0) (fun _ _ _ _ _ => True) (fun _ Uq_ oq_ Ur_ => ∃ vq_ Lq_, oq_ = .returned vq_ ∧ Q_putstr Z a nn sr csz t kb xs u ku mm ys h0 n0 vq_ Ur_.heap Lq_ ∧ FrameEnd Uq_ oq_ Ur_ Lq_ ({ frames := 2, cells := 0, slots := 0, locals := 33 } : Room).cells ({ frames := 2, cells := 0, slots := 0, locals := 33 } : Room).slots) := by
  refine MetFree.of_bodySF (plainFor_of_name pn_java_2flang_2fAbstractStringBuilder) hisR ?_
  intro p e s m args below meth c s₁ Bd hml0 hP hK
  obtain ⟨rfl, hZ, hh⟩ := hP
  have W_ : ∀ {d : Jvm.Cond} (i : Nat), tables_1[i]? = some d → d.before a0 Z = true := fun i h => hw _ (List.mem_of_getElem? h)
  have hx := Bd.exec
  have hby := Bd.bytes
  have hml : c.maxLocals = 3 := hml0
  have hown : s.vm.findClass "java/lang/AbstractStringBuilder" = some m.cls := findClass_of_methodNamed Bd.named
  have hnm := (name_of_methodNamed Bd.named Bd.method).1
  have X0 : Stand p l e ({ frames := 2, cells := 0, slots := 0, locals := 33 } : Room) s m #[(.ref a), (.int nn), (.ref sr)] below meth c s₁ [] 0 0 := Stand.of_body Bd
  have e0 : s₁.heap = h0 := by rw [← hh, Bd.state]; rfl
  have N0 := Fr.nil n0
  have K0 := Keep.refl h0 [t]
  refine own_G.start (Q := Q_putstr Z a nn sr csz t kb xs u ku mm ys h0 n0) (ef_putstr m a nn sr) ?_
  refine own_G.sk 1 [(.ref a)] (fun _ kq => XS.aloadN X0.here hx rfl (hb hby d26_0) rfl rfl kq) ?_
  refine own_G.sk 2 [(.ref sr), (.ref a)] (fun _ kq => XS.aloadN X0.here hx rfl (hb hby d26_1) rfl rfl kq) ?_
  obtain ⟨cq1, q1a, q1b⟩ := Exa.cell Ea
  obtain ⟨_, _, ⟨T1, L1, k1, n1⟩, -, X1, ⟨Lc1, hQ1, l1, y1, z1⟩, st1⟩ := X0.privateBack hx (y := own_y21) hown (mvT hZ (W_ 151 rfl)) (mvT hZ (W_ 152 rfl)) (own_selp (mvT hZ (W_ 144 rfl)) rfl (Cond.privateMethod_at (mvP hZ (W_ 153 rfl) (args := #[]))) (mvT hZ (W_ 152 rfl)) (by decide)) (Cond.privateMethod_at (mvP hZ (W_ 153 rfl) (args := #[]))) (mvT hZ (W_ 155 rfl)) (by decide) (backOf (W := 0) (rm_inflate l Z a0 hw [] a sr csz h0 n0 O0 S_CS hcs Gc Es Sc) hZ (W_ 155 rfl) (W_ 116 rfl) (by decide) (by decide)) (g := (mkF m 2 #[rv a, iv nn, rv sr] [(.ref sr), (.ref a)])) rfl (by rw [hml]; rfl) (Steps.refl _) (a := a) (by rw [e0]; exact q1a) q1b (argsL := [(.ref sr)]) (rest := []) (lenOf pd__28Ljava_2flang_2fString_3b_29V rfl) rfl (by show 2 * 0 + _ ≤ _; exact Nat.le_of_eq rfl) (hb hby d26_2) (fun _ _ => ⟨rfl, e0, (by decide : 0 + 0 ≤ _), (by decide : 0 + 0 ≤ _)⟩)
  dsimp only [Pt.U, Pt.locs, Pt.cells, Pt.slots] at X1 l1 y1 z1 st1 hQ1
  subst l1 y1 z1
  obtain ⟨rfl, Nq1, P2⟩ := hQ1
  have N1 := Fr.app N0 Nq1
  refine own_G.st (T' := T1) 5 [] (fun _ kq => st1.trans kq) ?_
  refine own_G.sk 6 [(.ref sr)] (fun _ kq => XS.aloadN X1.here hx rfl (hb hby d26_5) rfl rfl kq) ?_
  refine own_G.sk 7 [(.ref a), (.ref sr)] (fun _ kq => XS.aloadN X1.here hx rfl (hb hby d26_6) rfl rfl kq) ?_
  obtain ⟨T3, X3, e3, st3⟩ := getF X1 hx hZ hown (host := "") (Or.inl (W_ 120 rfl)) Via.refl P2 Gv (g := (mkF m 7 #[rv a, iv nn, rv sr] [(.ref a), (.ref sr)])) rfl rfl (hb hby d26_7)
  refine own_G.st (T' := T3) 10 [(.ref t), (.ref sr)] st3 ?_
  refine own_G.sk 11 [(.int nn), (.ref t), (.ref sr)] (fun _ kq => XS.iloadN X3.here hx rfl (hb hby d26_10) rfl kq) ?_
  refine own_G.sk 12 [(.ref a), (.int nn), (.ref t), (.ref sr)] (fun _ kq => XS.aloadN X3.here hx rfl (hb hby d26_11) rfl rfl kq) ?_
  obtain ⟨T4, X4, e4, st4⟩ := getF X3 hx hZ hown (host := "") (Or.inl (W_ 122 rfl)) Via.refl e3 Gc (g := (mkF m 12 #[rv a, iv nn, rv sr] [(.ref a), (.int nn), (.ref t), (.ref sr)])) rfl rfl (hb hby d26_12)
  refine own_G.st (T' := T4) 15 [(.int 0), (.int nn), (.ref t), (.ref sr)] st4 ?_
  obtain ⟨cq5, kq5, q5a, q5b, q5c⟩ := isOf hZ e4 Es
  obtain ⟨_, _, ⟨T5, L5, k5, n5⟩, -, X5, ⟨Lc5, hQ5, l5, y5, z5⟩, st5⟩ := X4.virtualBack hx (y := own_y22) (z := own_y22) hown (mvT hZ (W_ 157 rfl)) (mvT hZ (W_ 158 rfl)) (notFace_of_selects (args := #[]) (mvT hZ (W_ 160 rfl))) (mvT hZ (W_ 160 rfl)) (mvT hZ (W_ 159 rfl)) (by decide) (backOf (W := 0) (rm_getb l Z a0 hw [] sr t nn csz u ku mm ys kb xs h0 n0 O0 S_CS hcs Es Sv Sc Au At gt utn srt hn hm hcp) hZ (W_ 161 rfl) (W_ 8 rfl) (by decide) (by decide)) q5a q5c (g := (mkF m 15 #[rv a, iv nn, rv sr] [(.int 0), (.int nn), (.ref t), (.ref sr)])) rfl (by rw [hml]; rfl) (Steps.refl _) (argsL := [(.ref t), (.int nn), (.int 0)]) (rest := []) (lenOf pd__28_5bBIB_29V rfl) rfl (by show 2 * 0 + _ ≤ _; exact Nat.le_of_eq rfl) (hb hby d26_15) (fun _ _ => ⟨rfl, e4, (by decide : 0 + 0 ≤ _), (by decide : 0 + 0 ≤ _)⟩)
  dsimp only [Pt.U, Pt.locs, Pt.cells, Pt.slots] at X5 l5 y5 z5 st5 hQ5
  subst l5 y5 z5
  obtain ⟨rfl, Nq5, P6, P7⟩ := hQ5
  have N5 := Fr.app N1 Nq5
  have F8 := Ea.keep P6
  have F9 := Gv.keep P6 (ninS at_ nin0)
  have F10 := Gc.keep P6 (ninS at_ nin0)
  have F11 := Es.keep P6
  have F12 := Sv.keep P6 (ninS srt nin0)
  have F13 := Sc.keep P6 (ninS srt nin0)
  have F14 := Au.keep P6 (ninS utn nin0)
  have O15 := O0.keep P6 (allS gt all0)
  have K16 := K0.trans P6 (allS (Or.inl (List.mem_of_getElem? (i := 0) rfl)) all0)
  refine own_G.st (T' := T5) 18 [] (fun _ kq => st5.trans kq) ?_
  exact own_ret X5 rfl (v := none) (fun _ => rfl) Bd.notSynchronized ⟨rfl, N5, K16, P7⟩ (by decide) (by decide) (fun fs hr => X5.returnOut hx Bd.returns (hb hby d26_18) hr)
theorem pd__28ILjava_2flang_2fString_3b_29V : parseMethodDescriptor "(ILjava/lang/String;)V" = some ⟨[.int, (.object "java/lang/String")], none⟩ := by decide +kernel
theorem d23_0 : decode jdk_68_method_22_code 0 = .ok (.aload_n 1, 1) := by decide +kernel
theorem d23_1 : decode jdk_68_method_22_code 1 = .ok (.ifnonnull 8, 3) := by decide +kernel
theorem d23_9 : decode jdk_68_method_22_code 9 = .ok (.aload_n 1, 1) := by decide +kernel
theorem d23_10 : decode jdk_68_method_22_code 10 = .ok (.invokevirtual 32, 3) := by decide +kernel
theorem d23_13 : decode jdk_68_method_22_code 13 = .ok (.istore_n 2, 1) := by decide +kernel
theorem d23_14 : decode jdk_68_method_22_code 14 = .ok (.aload_n 0, 1) := by decide +kernel
theorem d23_15 : decode jdk_68_method_22_code 15 = .ok (.aload_n 0, 1) := by decide +kernel
theorem d23_16 : decode jdk_68_method_22_code 16 = .ok (.getfield 79, 3) := by decide +kernel
theorem d23_19 : decode jdk_68_method_22_code 19 = .ok (.iload_n 2, 1) := by decide +kernel
theorem d23_20 : decode jdk_68_method_22_code 20 = .ok (.iadd, 1) := by decide +kernel
theorem d23_21 : decode jdk_68_method_22_code 21 = .ok (.invokevirtual 100, 3) := by decide +kernel
theorem d23_24 : decode jdk_68_method_22_code 24 = .ok (.aload_n 0, 1) := by decide +kernel
theorem d23_25 : decode jdk_68_method_22_code 25 = .ok (.aload_n 0, 1) := by decide +kernel
theorem d23_26 : decode jdk_68_method_22_code 26 = .ok (.getfield 79, 3) := by decide +kernel
theorem d23_29 : decode jdk_68_method_22_code 29 = .ok (.aload_n 1, 1) := by decide +kernel
theorem d23_30 : decode jdk_68_method_22_code 30 = .ok (.invokevirtual 208, 3) := by decide +kernel
theorem d23_33 : decode jdk_68_method_22_code 33 = .ok (.aload_n 0, 1) := by decide +kernel
theorem d23_34 : decode jdk_68_method_22_code 34 = .ok (.dup, 1) := by decide +kernel
theorem d23_35 : decode jdk_68_method_22_code 35 = .ok (.getfield 79, 3) := by decide +kernel
theorem d23_38 : decode jdk_68_method_22_code 38 = .ok (.iload_n 2, 1) := by decide +kernel
theorem d23_39 : decode jdk_68_method_22_code 39 = .ok (.iadd, 1) := by decide +kernel
theorem d23_40 : decode jdk_68_method_22_code 40 = .ok (.putfield 79, 3) := by decide +kernel
theorem d23_43 : decode jdk_68_method_22_code 43 = .ok (.aload_n 0, 1) := by decide +kernel
theorem d23_44 : decode jdk_68_method_22_code 44 = .ok (.areturn, 1) := by decide +kernel
theorem ef_asbapS (m : MethodId) (a : Addr) (sr : Addr) : entryFrame m #[(.ref a), (.ref sr)] 3 = mkF m 0 #[rv a, rv sr, .unset] [] := by
  first | (simp [entryFrame, mkF, argsToLocals, Value.category]; done) | rfl
def Q_asbapS (Z : State) (a : Addr) (sr : Addr) (csz : Int32) (nn : Int32) (t : Addr) (kb : ClassId) (xs : List Int32) (u : Addr) (ku : ClassId) (mm : Int32) (ys : List Int32) (h0 : Heap) (n0 : Nat) (v : Option Value) (h : Heap) (L : List Loc) : Prop := v = some (.ref a) ∧ Fr n0 L ∧ Keep h0 h [a, t] ∧ Exa Z h a "java/lang/StringBuilder" ∧ Fld Z h a "java/lang/AbstractStringBuilder" "value" "[B" (.ref t) ∧ Fld Z h a "java/lang/AbstractStringBuilder" "coder" "B" (.int 0) ∧ Fld Z h a "java/lang/AbstractStringBuilder" "count" "I" (.int (nn + mm)) ∧ Arv Z h t kb .byte (16 : Int32) (own_B (xs ++ ys)) (.int 0)
set_option maxRecDepth 65536 in
set_option maxHeartbeats 40000000 in
theorem rm_asbapS (l : Launch) (Z : State) (a0 : Array Value) (hw : ∀ d ∈ tables_1, d.before a0 Z = true) (ws : List Jvm.Cond) (a : Addr) (sr : Addr) (csz : Int32) (nn : Int32) (t : Addr) (kb : ClassId) (xs : List Int32) (u : Addr) (ku : ClassId) (mm : Int32) (ys : List Int32) (h0 : Heap) (n0 : Nat) (O0 : Old Z n0 h0) (S_CS : Sta Z Z.heap "java/lang/String" "COMPACT_STRINGS" "Z" (.int csz)) (hcs : ¬ csz = (0 : Int32)) (Ea : Exa Z h0 a "java/lang/StringBuilder") (Gv : Fld Z h0 a "java/lang/AbstractStringBuilder" "value" "[B" (.ref t)) (Gc : Fld Z h0 a "java/lang/AbstractStringBuilder" "coder" "B" (.int 0)) (Gn : Fld Z h0 a "java/lang/AbstractStringBuilder" "count" "I" (.int nn)) (At : Arv Z h0 t kb .byte (16 : Int32) (own_B xs) (.int 0)) (Es : Exa Z h0 sr "java/lang/String") (Sv : Fld Z h0 sr "java/lang/String" "value" "[B" (.ref u)) (Sc : Fld Z h0 sr "java/lang/String" "coder" "B" (.int 0)) (Au : Arv Z h0 u ku .byte mm (own_B ys) (.int 0)) (ga : n0 ≤ a) (gt : n0 ≤ t) (utn : u ≠ t) (srt : sr ≠ t) (at_ : a ≠ t) (asr : a ≠ sr) (anu : a ≠ u) (hn : nn.toInt = (xs.length : Int)) (hm : mm.toInt = (ys.length : Int)) (hcp : xs.length + ys.length ≤ 16) :
    MetFree l own_y24 (head1 (Jvm.Cond.code own_y24 jdk_68_method_22_code 3 (some (.object "java/lang/AbstractStringBuilder")) :: ws) ({ frames := 3, cells := 0, slots := 0, locals := 47 } : Room)) (fun aq_ Uq_ => aq_ = #[(.ref a), (.ref sr)] ∧ Z.Warmed39 Uq_.vm ∧ Uq_.heap = h0) (fun _ _ _ _ _ => True) (fun _ Uq_ oq_ Ur_ => ∃ vq_ Lq_, oq_ = .returned vq_ ∧ Q_asbapS Z a sr csz nn t kb xs u ku mm ys h0 n0 vq_ Ur_.heap Lq_ ∧ FrameEnd Uq_ oq_ Ur_ Lq_ ({ frames := 3, cells := 0, slots := 0, locals := 47 } : Room).cells ({ frames := 3, cells := 0, slots := 0, locals := 47 } : Room).slots) := by
  refine MetFree.of_bodySF (plainFor_of_name pn_java_2flang_2fAbstractStringBuilder) hisR ?_
  intro p e s m args below meth c s₁ Bd hml0 hP hK
  obtain ⟨rfl, hZ, hh⟩ := hP
  have W_ : ∀ {d : Jvm.Cond} (i : Nat), tables_1[i]? = some d → d.before a0 Z = true := fun i h => hw _ (List.mem_of_getElem? h)
  have hx := Bd.exec
  have hby := Bd.bytes
  have hml : c.maxLocals = 3 := hml0
  have hown : s.vm.findClass "java/lang/AbstractStringBuilder" = some m.cls := findClass_of_methodNamed Bd.named
  have hnm := (name_of_methodNamed Bd.named Bd.method).1
  have X0 : Stand p l e ({ frames := 3, cells := 0, slots := 0, locals := 47 } : Room) s m #[(.ref a), (.ref sr)] below meth c s₁ [] 0 0 := Stand.of_body Bd
  have e0 : s₁.heap = h0 := by rw [← hh, Bd.state]; rfl
  have N0 := Fr.nil n0
  have K0 := Keep.refl h0 [a, t]
  refine own_G.start (Q := Q_asbapS Z a sr csz nn t kb xs u ku mm ys h0 n0) (ef_asbapS m a sr) ?_
  refine own_G.sk 1 [(.ref sr)] (fun _ kq => XS.aloadN X0.here hx rfl (hb hby d23_0) rfl rfl kq) ?_
  refine own_G.sk 9 [] (fun _ kq => XS.ifnonnullYes X0.here hx rfl (pc0 := 1) (pc' := 9) rfl (hb hby d23_1) rfl (by decide) (by decide) kq) ?_
  refine own_G.sk 10 [(.ref sr)] (fun _ kq => XS.aloadN X0.here hx rfl (hb hby d23_9) rfl rfl kq) ?_
  obtain ⟨cq1, kq1, q1a, q1b, q1c⟩ := isOf hZ e0 Es
  obtain ⟨_, _, ⟨T1, L1, k1, n1⟩, -, X1, ⟨Lc1, hQ1, l1, y1, z1⟩, st1⟩ := X0.virtualBack hx (y := own_y2) (z := own_y2) hown (mvT hZ (W_ 134 rfl)) (mvT hZ (W_ 135 rfl)) (notFace_of_selects (args := #[]) (mvT hZ (W_ 137 rfl))) (mvT hZ (W_ 137 rfl)) (mvT hZ (W_ 136 rfl)) (by decide) (backOf (W := 0) (rm_strlen l Z a0 hw [] sr csz u mm h0 n0 O0 S_CS hcs Sc Sv (own_Len.arv Au) Es) hZ (W_ 138 rfl) (W_ 8 rfl) (by decide) (by decide)) q1a q1c (g := (mkF m 10 #[rv a, rv sr, .unset] [(.ref sr)])) rfl (by rw [hml]; rfl) (Steps.refl _) (argsL := []) (rest := []) (lenOf pd__28_29I rfl) rfl (by show 2 * 0 + _ ≤ _; exact Nat.le_of_eq rfl) (hb hby d23_10) (fun _ _ => ⟨rfl, e0, (by decide : 0 + 0 ≤ _), (by decide : 0 + 0 ≤ _)⟩)
  dsimp only [Pt.U, Pt.locs, Pt.cells, Pt.slots] at X1 l1 y1 z1 st1 hQ1
  subst l1 y1 z1
  obtain ⟨rfl, Nq1, P2⟩ := hQ1
  have N1 := Fr.app N0 Nq1
  refine own_G.st (T' := T1) 13 [(.int mm)] (fun _ kq => st1.trans kq) ?_
  refine own_G.si 14 [] (fun _ kq => XS.istoreN X1.here hx rfl (hb hby d23_13) rfl (l' := #[rv a, rv sr, iv mm]) rfl kq) ?_
  refine own_G.sk 15 [(.ref a)] (fun _ kq => XS.aloadN X1.here hx rfl (hb hby d23_14) rfl rfl kq) ?_
  refine own_G.sk 16 [(.ref a), (.ref a)] (fun _ kq => XS.aloadN X1.here hx rfl (hb hby d23_15) rfl rfl kq) ?_
  obtain ⟨T3, X3, e3, st3⟩ := getF X1 hx hZ hown (host := "") (Or.inl (W_ 139 rfl)) Via.refl P2 Gn (g := (mkF m 16 #[rv a, rv sr, iv mm] [(.ref a), (.ref a)])) rfl rfl (hb hby d23_16)
  refine own_G.st (T' := T3) 19 [(.int nn), (.ref a)] st3 ?_
  refine own_G.sk 20 [(.int mm), (.int nn), (.ref a)] (fun _ kq => XS.iloadN X3.here hx rfl (hb hby d23_19) rfl kq) ?_
  refine own_G.sk 21 [(.int (nn + mm)), (.ref a)] (fun _ kq => XS.iadd X3.here hx rfl (hb hby d23_20) rfl kq) ?_
  obtain ⟨cq4, q4a, q4b⟩ := Exa.cell Ea
  obtain ⟨_, _, ⟨T4, L4, k4, n4⟩, -, X4, ⟨Lc4, hQ4, l4, y4, z4⟩, st4⟩ := X3.privateBack hx (y := own_y20) hown (mvT hZ (W_ 141 rfl)) (mvT hZ (W_ 142 rfl)) (own_selp (mvT hZ (W_ 144 rfl)) rfl (Cond.privateMethod_at (mvP hZ (W_ 143 rfl) (args := #[]))) (mvT hZ (W_ 142 rfl)) (by decide)) (Cond.privateMethod_at (mvP hZ (W_ 143 rfl) (args := #[]))) (mvT hZ (W_ 145 rfl)) (by decide) (backOf (W := 0) (rm_ensure l Z a0 hw [] a (nn + mm) t h0 n0 O0 Gv Gc (own_Len.arv At) (own_cap16 hn hm hcp)) hZ (W_ 145 rfl) (W_ 116 rfl) (by decide) (by decide)) (g := (mkF m 21 #[rv a, rv sr, iv mm] [(.int (nn + mm)), (.ref a)])) rfl (by rw [hml]; rfl) (Steps.refl _) (a := a) (by rw [e3]; exact q4a) q4b (argsL := [(.int (nn + mm))]) (rest := []) (lenOf pd__28I_29V rfl) rfl (by show 2 * 0 + _ ≤ _; exact Nat.le_of_eq rfl) (hb hby d23_21) (fun _ _ => ⟨rfl, e3, (by decide : 0 + 0 ≤ _), (by decide : 0 + 0 ≤ _)⟩)
  dsimp only [Pt.U, Pt.locs, Pt.cells, Pt.slots] at X4 l4 y4 z4 st4 hQ4
  subst l4 y4 z4
  obtain ⟨rfl, Nq4, P5⟩ := hQ4
  have N4 := Fr.app N1 Nq4
  refine own_G.st (T' := T4) 24 [] (fun _ kq => st4.trans kq) ?_
  refine own_G.sk 25 [(.ref a)] (fun _ kq => XS.aloadN X4.here hx rfl (hb hby d23_24) rfl rfl kq) ?_
  refine own_G.sk 26 [(.ref a), (.ref a)] (fun _ kq => XS.aloadN X4.here hx rfl (hb hby d23_25) rfl rfl kq) ?_
  obtain ⟨T6, X6, e6, st6⟩ := getF X4 hx hZ hown (host := "") (Or.inl (W_ 139 rfl)) Via.refl P5 Gn (g := (mkF m 26 #[rv a, rv sr, iv mm] [(.ref a), (.ref a)])) rfl rfl (hb hby d23_26)
  refine own_G.st (T' := T6) 29 [(.int nn), (.ref a)] st6 ?_
  refine own_G.sk 30 [(.ref sr), (.int nn), (.ref a)] (fun _ kq => XS.aloadN X6.here hx rfl (hb hby d23_29) rfl rfl kq) ?_
  obtain ⟨cq7, q7a, q7b⟩ := Exa.cell Ea
  obtain ⟨_, _, ⟨T7, L7, k7, n7⟩, -, X7, ⟨Lc7, hQ7, l7, y7, z7⟩, st7⟩ := X6.privateBack hx (y := own_y23) hown (mvT hZ (W_ 146 rfl)) (mvT hZ (W_ 147 rfl)) (own_selp (mvT hZ (W_ 144 rfl)) rfl (Cond.privateMethod_at (mvP hZ (W_ 148 rfl) (args := #[]))) (mvT hZ (W_ 147 rfl)) (by decide)) (Cond.privateMethod_at (mvP hZ (W_ 148 rfl) (args := #[]))) (mvT hZ (W_ 150 rfl)) (by decide) (backOf (W := 0) (rm_putstr l Z a0 hw [] a nn sr csz t kb xs u ku mm ys h0 n0 O0 S_CS hcs Ea Gv Gc At Es Sv Sc Au gt utn srt at_ hn hm hcp) hZ (W_ 150 rfl) (W_ 116 rfl) (by decide) (by decide)) (g := (mkF m 30 #[rv a, rv sr, iv mm] [(.ref sr), (.int nn), (.ref a)])) rfl (by rw [hml]; rfl) (Steps.refl _) (a := a) (by rw [e6]; exact q7a) q7b (argsL := [(.int nn), (.ref sr)]) (rest := []) (lenOf pd__28ILjava_2flang_2fString_3b_29V rfl) rfl (by show 2 * 0 + _ ≤ _; exact Nat.le_of_eq rfl) (hb hby d23_30) (fun _ _ => ⟨rfl, e6, (by decide : 0 + 0 ≤ _), (by decide : 0 + 0 ≤ _)⟩)
  dsimp only [Pt.U, Pt.locs, Pt.cells, Pt.slots] at X7 l7 y7 z7 st7 hQ7
  subst l7 y7 z7
  obtain ⟨rfl, Nq7, P8, P9⟩ := hQ7
  have N7 := Fr.app N4 Nq7
  have F10 := Ea.keep P8
  have F11 := Gv.keep P8 (ninS at_ nin0)
  have F12 := Gc.keep P8 (ninS at_ nin0)
  have F13 := Gn.keep P8 (ninS at_ nin0)
  have F14 := Es.keep P8
  have F15 := Sv.keep P8 (ninS srt nin0)
  have F16 := Sc.keep P8 (ninS srt nin0)
  have F17 := Au.keep P8 (ninS utn nin0)
  have O18 := O0.keep P8 (allS gt all0)
  have K19 := K0.trans P8 (allS (Or.inl (List.mem_of_getElem? (i := 1) rfl)) all0)
  refine own_G.st (T' := T7) 33 [] (fun _ kq => st7.trans kq) ?_
  refine own_G.sk 34 [(.ref a)] (fun _ kq => XS.aloadN X7.here hx rfl (hb hby d23_33) rfl rfl kq) ?_
  refine own_G.sk 35 [(.ref a), (.ref a)] (fun _ kq => XS.dup X7.here hx rfl (hb hby d23_34) rfl rfl kq) ?_
  obtain ⟨T20, X20, e20, st20⟩ := getF X7 hx hZ hown (host := "") (Or.inl (W_ 139 rfl)) Via.refl rfl F13 (g := (mkF m 35 #[rv a, rv sr, iv mm] [(.ref a), (.ref a)])) rfl rfl (hb hby d23_35)
  refine own_G.st (T' := T20) 38 [(.int nn), (.ref a)] st20 ?_
  refine own_G.sk 39 [(.int mm), (.int nn), (.ref a)] (fun _ kq => XS.iloadN X20.here hx rfl (hb hby d23_38) rfl kq) ?_
  refine own_G.sk 40 [(.int (nn + mm)), (.ref a)] (fun _ kq => XS.iadd X20.here hx rfl (hb hby d23_39) rfl kq) ?_
  obtain ⟨T21, h21, X21, e21, W21, st21⟩ := putF X20 hx hZ hown (host := "") (Or.inl (W_ 139 rfl)) Via.refl e20 F13 F10 (Or.inl (W_ 140 rfl)) (W_ 107 rfl) (ty := .int) (by decide) rfl rfl (g := (mkF m 40 #[rv a, rv sr, iv mm] [(.int (nn + mm)), (.ref a)])) rfl rfl (hb hby d23_40)
  have N21 := Fr.snoc X21 N7 ga
  have F22 := F10.wr W21
  have F23 := F11.other W21 (Or.inr (slot_ne (Or.inl (W_ 121 rfl)) (Or.inl (W_ 140 rfl)) (by decide) (t := (.array .byte)) (t' := .int) (by decide) (by decide)))
  have F24 := F12.other W21 (Or.inr (slot_ne (Or.inl (W_ 123 rfl)) (Or.inl (W_ 140 rfl)) (by decide) (t := .byte) (t' := .int) (by decide) (by decide)))
  have F25 := F13.same W21
  have F26 := F14.wr W21
  have F27 := F15.other W21 (Or.inl (Ne.symm asr))
  have F28 := F16.other W21 (Or.inl (Ne.symm asr))
  have F29 := F17.other W21 (Ne.symm anu)
  have F30 := P9.other W21 (Ne.symm at_)
  have O31 := O18.wr W21 ga
  have K32 := K19.wr W21 (Or.inl (List.mem_of_getElem? (i := 0) rfl))
  refine own_G.st (T' := T21) 43 [] st21 ?_
  refine own_G.sk 44 [(.ref a)] (fun _ kq => XS.aloadN X21.here hx rfl (hb hby d23_43) rfl rfl kq) ?_
  exact own_ret X21 e21 (v := some (.ref a)) (fun h => by rw [Bd.returns] at h; cases h) Bd.notSynchronized ⟨rfl, N21, K32, F22, F23, F24, F25, F30⟩ (by decide) (by decide) (fun fs hr => own_retR X21 hx Bd.returns rfl rfl (hb hby d23_44) hr)
theorem pd__28Ljava_2flang_2fString_3b_29Ljava_2flang_2fAbstractStringBuilder_3b : parseMethodDescriptor "(Ljava/lang/String;)Ljava/lang/AbstractStringBuilder;" = some ⟨[(.object "java/lang/String")], some (.object "java/lang/AbstractStringBuilder")⟩ := by decide +kernel
theorem d22_0 : decode jdk_67_method_7_code 0 = .ok (.aload_n 0, 1) := by decide +kernel
theorem d22_1 : decode jdk_67_method_7_code 1 = .ok (.aload_n 1, 1) := by decide +kernel
theorem d22_2 : decode jdk_67_method_7_code 2 = .ok (.invokespecial 29, 3) := by decide +kernel
theorem d22_5 : decode jdk_67_method_7_code 5 = .ok (.pop, 1) := by decide +kernel
theorem d22_6 : decode jdk_67_method_7_code 6 = .ok (.aload_n 0, 1) := by decide +kernel
theorem d22_7 : decode jdk_67_method_7_code 7 = .ok (.areturn, 1) := by decide +kernel
theorem ef_sbapS (m : MethodId) (a : Addr) (sr : Addr) : entryFrame m #[(.ref a), (.ref sr)] 2 = mkF m 0 #[rv a, rv sr] [] := by
  first | (simp [entryFrame, mkF, argsToLocals, Value.category]; done) | rfl
def Q_sbapS (Z : State) (a : Addr) (sr : Addr) (csz : Int32) (nn : Int32) (t : Addr) (kb : ClassId) (xs : List Int32) (u : Addr) (ku : ClassId) (mm : Int32) (ys : List Int32) (h0 : Heap) (n0 : Nat) (v : Option Value) (h : Heap) (L : List Loc) : Prop := v = some (.ref a) ∧ Fr n0 L ∧ Keep h0 h [a, t] ∧ Exa Z h a "java/lang/StringBuilder" ∧ Fld Z h a "java/lang/AbstractStringBuilder" "value" "[B" (.ref t) ∧ Fld Z h a "java/lang/AbstractStringBuilder" "coder" "B" (.int 0) ∧ Fld Z h a "java/lang/AbstractStringBuilder" "count" "I" (.int (nn + mm)) ∧ Arv Z h t kb .byte (16 : Int32) (own_B (xs ++ ys)) (.int 0)
set_option maxRecDepth 65536 in
set_option maxHeartbeats 40000000 in
theorem rm_sbapS (l : Launch) (Z : State) (a0 : Array Value) (hw : ∀ d ∈ tables_1, d.before a0 Z = true) (ws : List Jvm.Cond) (a : Addr) (sr : Addr) (csz : Int32) (nn : Int32) (t : Addr) (kb : ClassId) (xs : List Int32) (u : Addr) (ku : ClassId) (mm : Int32) (ys : List Int32) (h0 : Heap) (n0 : Nat) (O0 : Old Z n0 h0) (S_CS : Sta Z Z.heap "java/lang/String" "COMPACT_STRINGS" "Z" (.int csz)) (hcs : ¬ csz = (0 : Int32)) (Ea : Exa Z h0 a "java/lang/StringBuilder") (Gv : Fld Z h0 a "java/lang/AbstractStringBuilder" "value" "[B" (.ref t)) (Gc : Fld Z h0 a "java/lang/AbstractStringBuilder" "coder" "B" (.int 0)) (Gn : Fld Z h0 a "java/lang/AbstractStringBuilder" "count" "I" (.int nn)) (At : Arv Z h0 t kb .byte (16 : Int32) (own_B xs) (.int 0)) (Es : Exa Z h0 sr "java/lang/String") (Sv : Fld Z h0 sr "java/lang/String" "value" "[B" (.ref u)) (Sc : Fld Z h0 sr "java/lang/String" "coder" "B" (.int 0)) (Au : Arv Z h0 u ku .byte mm (own_B ys) (.int 0)) (ga : n0 ≤ a) (gt : n0 ≤ t) (utn : u ≠ t) (srt : sr ≠ t) (at_ : a ≠ t) (asr : a ≠ sr) (anu : a ≠ u) (hn : nn.toInt = (xs.length : Int)) (hm : mm.toInt = (ys.length : Int)) (hcp : xs.length + ys.length ≤ 16) :
    MetFree l own_y25 (head1 (Jvm.Cond.code own_y25 jdk_67_method_7_code 2 (some (.object "java/lang/StringBuilder")) :: ws) ({ frames := 4, cells := 0, slots := 0, locals := 61 } : Room)) (fun aq_ Uq_ => aq_ = #[(.ref a), (.ref sr)] ∧ Z.Warmed39 Uq_.vm ∧ Uq_.heap = h0) (fun _ _ _ _ _ => True) (fun _ Uq_ oq_ Ur_ => ∃ vq_ Lq_, oq_ = .returned vq_ ∧ Q_sbapS Z a sr csz nn t kb xs u ku mm ys h0 n0 vq_ Ur_.heap Lq_ ∧ FrameEnd Uq_ oq_ Ur_ Lq_ ({ frames := 4, cells := 0, slots := 0, locals := 61 } : Room).cells ({ frames := 4, cells := 0, slots := 0, locals := 61 } : Room).slots) := by
  refine MetFree.of_bodySF (plainFor_of_name pn_java_2flang_2fStringBuilder) hisR ?_
  intro p e s m args below meth c s₁ Bd hml0 hP hK
  obtain ⟨rfl, hZ, hh⟩ := hP
  have W_ : ∀ {d : Jvm.Cond} (i : Nat), tables_1[i]? = some d → d.before a0 Z = true := fun i h => hw _ (List.mem_of_getElem? h)
  have hx := Bd.exec
  have hby := Bd.bytes
  have hml : c.maxLocals = 2 := hml0
  have hown : s.vm.findClass "java/lang/StringBuilder" = some m.cls := findClass_of_methodNamed Bd.named
  have hnm := (name_of_methodNamed Bd.named Bd.method).1
  have X0 : Stand p l e ({ frames := 4, cells := 0, slots := 0, locals := 61 } : Room) s m #[(.ref a), (.ref sr)] below meth c s₁ [] 0 0 := Stand.of_body Bd
  have e0 : s₁.heap = h0 := by rw [← hh, Bd.state]; rfl
  have N0 := Fr.nil n0
  have K0 := Keep.refl h0 [a, t]
  refine own_G.start (Q := Q_sbapS Z a sr csz nn t kb xs u ku mm ys h0 n0) (ef_sbapS m a sr) ?_
  refine own_G.sk 1 [(.ref a)] (fun _ kq => XS.aloadN X0.here hx rfl (hb hby d22_0) rfl rfl kq) ?_
  refine own_G.sk 2 [(.ref sr), (.ref a)] (fun _ kq => XS.aloadN X0.here hx rfl (hb hby d22_1) rfl rfl kq) ?_
  obtain ⟨_, _, ⟨T1, L1, k1, n1⟩, -, X1, ⟨Lc1, hQ1, l1, y1, z1⟩, st1⟩ := superBack X0 hx hZ (y := own_y24) hown (W_ 129 rfl) (own_same (W_ 132 rfl) (W_ 144 rfl) rfl (by decide)) (W_ 130 rfl) (W_ 131 rfl) (by decide) (backOf (W := 0) (rm_asbapS l Z a0 hw [] a sr csz nn t kb xs u ku mm ys h0 n0 O0 S_CS hcs Ea Gv Gc Gn At Es Sv Sc Au ga gt utn srt at_ asr anu hn hm hcp) hZ (W_ 133 rfl) (W_ 116 rfl) (by decide) (by decide)) e0 (Ins.self Ea) (g := (mkF m 2 #[rv a, rv sr] [(.ref sr), (.ref a)])) rfl (by rw [hml]; rfl) (W_ 133 rfl) (argsL := [(.ref sr)]) (rest := []) (lenOf pd__28Ljava_2flang_2fString_3b_29Ljava_2flang_2fAbstractStringBuilder_3b rfl) rfl (by show 2 * 0 + _ ≤ _; exact Nat.le_of_eq rfl) (hb hby d22_2) (fun _ _ => ⟨rfl, e0, (by decide : 0 + 0 ≤ _), (by decide : 0 + 0 ≤ _)⟩)
  dsimp only [Pt.U, Pt.locs, Pt.cells, Pt.slots] at X1 l1 y1 z1 st1 hQ1
  subst l1 y1 z1
  obtain ⟨rfl, Nq1, P2, P3, P4, P5, P6, P7⟩ := hQ1
  have N1 := Fr.app N0 Nq1
  have F8 := Ea.keep P2
  have F9 := Es.keep P2
  have F10 := Sv.keep P2 (ninS (Ne.symm asr) (ninS srt nin0))
  have F11 := Sc.keep P2 (ninS (Ne.symm asr) (ninS srt nin0))
  have F12 := Au.keep P2 (ninS (Ne.symm anu) (ninS utn nin0))
  have O13 := O0.keep P2 (allS ga (allS gt all0))
  have K14 := K0.trans P2 (allS (Or.inl (List.mem_of_getElem? (i := 0) rfl)) (allS (Or.inl (List.mem_of_getElem? (i := 1) rfl)) all0))
  refine own_G.st (T' := T1) 5 [(.ref a)] (fun _ kq => st1.trans kq) ?_
  refine own_G.sk 6 [] (fun _ kq => XS.pop X1.here hx rfl (hb hby d22_5) rfl rfl kq) ?_
  refine own_G.sk 7 [(.ref a)] (fun _ kq => XS.aloadN X1.here hx rfl (hb hby d22_6) rfl rfl kq) ?_
  exact own_ret X1 rfl (v := some (.ref a)) (fun h => by rw [Bd.returns] at h; cases h) Bd.notSynchronized ⟨rfl, N1, K14, P3, P4, P5, P6, P7⟩ (by decide) (by decide) (fun fs hr => own_retR X1 hx Bd.returns rfl rfl (hb hby d22_7) hr)
theorem pd__28I_29I : parseMethodDescriptor "(I)I" = some ⟨[.int], some .int⟩ := by decide +kernel
theorem pd__28II_5bB_29I : parseMethodDescriptor "(II[B)I" = some ⟨[.int, .int, (.array .byte)], some .int⟩ := by decide +kernel
theorem d30_0 : decode jdk_68_method_32_code 0 = .ok (.aload_n 0, 1) := by decide +kernel
theorem d30_1 : decode jdk_68_method_32_code 1 = .ok (.getfield 79, 3) := by decide +kernel
theorem d30_4 : decode jdk_68_method_32_code 4 = .ok (.istore_n 2, 1) := by decide +kernel
theorem d30_5 : decode jdk_68_method_32_code 5 = .ok (.iload_n 2, 1) := by decide +kernel
theorem d30_6 : decode jdk_68_method_32_code 6 = .ok (.iload_n 1, 1) := by decide +kernel
theorem d30_7 : decode jdk_68_method_32_code 7 = .ok (.invokestatic 245, 3) := by decide +kernel
theorem d30_10 : decode jdk_68_method_32_code 10 = .ok (.iadd, 1) := by decide +kernel
theorem d30_11 : decode jdk_68_method_32_code 11 = .ok (.istore_n 3, 1) := by decide +kernel
theorem d30_12 : decode jdk_68_method_32_code 12 = .ok (.aload_n 0, 1) := by decide +kernel
theorem d30_13 : decode jdk_68_method_32_code 13 = .ok (.iload_n 3, 1) := by decide +kernel
theorem d30_14 : decode jdk_68_method_32_code 14 = .ok (.invokevirtual 100, 3) := by decide +kernel
theorem d30_17 : decode jdk_68_method_32_code 17 = .ok (.aload_n 0, 1) := by decide +kernel
theorem d30_18 : decode jdk_68_method_32_code 18 = .ok (.invokevirtual 83, 3) := by decide +kernel
theorem d30_21 : decode jdk_68_method_32_code 21 = .ok (.ifCond .eq 16, 3) := by decide +kernel
theorem d30_24 : decode jdk_68_method_32_code 24 = .ok (.iload_n 1, 1) := by decide +kernel
theorem d30_25 : decode jdk_68_method_32_code 25 = .ok (.iload_n 3, 1) := by decide +kernel
theorem d30_26 : decode jdk_68_method_32_code 26 = .ok (.aload_n 0, 1) := by decide +kernel
theorem d30_27 : decode jdk_68_method_32_code 27 = .ok (.getfield 15, 3) := by decide +kernel
theorem d30_30 : decode jdk_68_method_32_code 30 = .ok (.invokestatic 248, 3) := by decide +kernel
theorem d30_33 : decode jdk_68_method_32_code 33 = .ok (.pop, 1) := by decide +kernel
theorem d30_34 : decode jdk_68_method_32_code 34 = .ok (.goto 14, 3) := by decide +kernel
theorem d30_48 : decode jdk_68_method_32_code 48 = .ok (.aload_n 0, 1) := by decide +kernel
theorem d30_49 : decode jdk_68_method_32_code 49 = .ok (.iload_n 3, 1) := by decide +kernel
theorem d30_50 : decode jdk_68_method_32_code 50 = .ok (.putfield 79, 3) := by decide +kernel
theorem d30_53 : decode jdk_68_method_32_code 53 = .ok (.aload_n 0, 1) := by decide +kernel
theorem d30_54 : decode jdk_68_method_32_code 54 = .ok (.areturn, 1) := by decide +kernel
theorem ef_asbapI (m : MethodId) (a : Addr) (pp : Int32) : entryFrame m #[(.ref a), (.int pp)] 4 = mkF m 0 #[rv a, iv pp, .unset, .unset] [] := by
  first | (simp [entryFrame, mkF, argsToLocals, Value.category]; done) | rfl
def Q_asbapI (Z : State) (a : Addr) (pp : Int32) (csz : Int32) (dga : Addr) (cga : Cell) (dgb : Addr) (cgb : Cell) (nn : Int32) (t : Addr) (kb : ClassId) (xs : List Int32) (h0 : Heap) (n0 : Nat) (v : Option Value) (h : Heap) (L : List Loc) : Prop := v = some (.ref a) ∧ Fr n0 L ∧ Keep h0 h [a, t] ∧ Exa Z h a "java/lang/StringBuilder" ∧ Fld Z h a "java/lang/AbstractStringBuilder" "value" "[B" (.ref t) ∧ Fld Z h a "java/lang/AbstractStringBuilder" "coder" "B" (.int 0) ∧ Fld Z h a "java/lang/AbstractStringBuilder" "count" "I" (.int (nn + (own_ss pp))) ∧ Arv Z h t kb .byte (16 : Int32) (own_B (xs ++ own_dig pp)) (.int 0)
set_option maxRecDepth 65536 in
set_option maxHeartbeats 40000000 in
theorem rm_asbapI (l : Launch) (Z : State) (a0 : Array Value) (hw : ∀ d ∈ tables_1, d.before a0 Z = true) (ws : List Jvm.Cond) (a : Addr) (pp : Int32) (csz : Int32) (dga : Addr) (cga : Cell) (dgb : Addr) (cgb : Cell) (nn : Int32) (t : Addr) (kb : ClassId) (xs : List Int32) (h0 : Heap) (n0 : Nat) (O0 : Old Z n0 h0) (S_CS : Sta Z Z.heap "java/lang/String" "COMPACT_STRINGS" "Z" (.int csz)) (hcs : ¬ csz = (0 : Int32)) (S_D1 : Sta Z Z.heap "java/lang/Integer" "DigitOnes" "[B" (.ref dga)) (TB1 : own_Tb Z dga cga (fun j => (48 : Int32) + (j % (10 : Int32)))) (S_D2 : Sta Z Z.heap "java/lang/Integer" "DigitTens" "[B" (.ref dgb)) (TB2 : own_Tb Z dgb cgb (fun j => (48 : Int32) + (j / (10 : Int32)))) (Ea : Exa Z h0 a "java/lang/StringBuilder") (Gv : Fld Z h0 a "java/lang/AbstractStringBuilder" "value" "[B" (.ref t)) (Gc : Fld Z h0 a "java/lang/AbstractStringBuilder" "coder" "B" (.int 0)) (Gn : Fld Z h0 a "java/lang/AbstractStringBuilder" "count" "I" (.int nn)) (At : Arv Z h0 t kb .byte (16 : Int32) (own_B xs) (.int 0)) (ga : n0 ≤ a) (gt : n0 ≤ t) (at_ : a ≠ t) (hp0 : 0 ≤ pp.toInt) (hp1 : pp.toInt ≤ 65535) (hn : nn.toInt = (xs.length : Int)) (hcp : xs.length + (own_dig pp).length ≤ 16) :
    MetFree l own_y26 (head1 (Jvm.Cond.code own_y26 jdk_68_method_32_code 4 (some (.object "java/lang/AbstractStringBuilder")) :: ws) ({ frames := 1, cells := 0, slots := 0, locals := 18 } : Room)) (fun aq_ Uq_ => aq_ = #[(.ref a), (.int pp)] ∧ Z.Warmed39 Uq_.vm ∧ Uq_.heap = h0) (fun _ _ _ _ _ => True) (fun _ Uq_ oq_ Ur_ => ∃ vq_ Lq_, oq_ = .returned vq_ ∧ Q_asbapI Z a pp csz dga cga dgb cgb nn t kb xs h0 n0 vq_ Ur_.heap Lq_ ∧ FrameEnd Uq_ oq_ Ur_ Lq_ ({ frames := 1, cells := 0, slots := 0, locals := 18 } : Room).cells ({ frames := 1, cells := 0, slots := 0, locals := 18 } : Room).slots) := by
  refine MetFree.of_bodySF (plainFor_of_name pn_java_2flang_2fAbstractStringBuilder) hisR ?_
  intro p e s m args below meth c s₁ Bd hml0 hP hK
  obtain ⟨rfl, hZ, hh⟩ := hP
  have W_ : ∀ {d : Jvm.Cond} (i : Nat), tables_1[i]? = some d → d.before a0 Z = true := fun i h => hw _ (List.mem_of_getElem? h)
  have hx := Bd.exec
  have hby := Bd.bytes
  have hml : c.maxLocals = 4 := hml0
  have hown : s.vm.findClass "java/lang/AbstractStringBuilder" = some m.cls := findClass_of_methodNamed Bd.named
  have hnm := (name_of_methodNamed Bd.named Bd.method).1
  have X0 : Stand p l e ({ frames := 1, cells := 0, slots := 0, locals := 18 } : Room) s m #[(.ref a), (.int pp)] below meth c s₁ [] 0 0 := Stand.of_body Bd
  have e0 : s₁.heap = h0 := by rw [← hh, Bd.state]; rfl
  have N0 := Fr.nil n0
  have K0 := Keep.refl h0 [a, t]
  refine own_G.start (Q := Q_asbapI Z a pp csz dga cga dgb cgb nn t kb xs h0 n0) (ef_asbapI m a pp) ?_
  refine own_G.sk 1 [(.ref a)] (fun _ kq => XS.aloadN X0.here hx rfl (hb hby d30_0) rfl rfl kq) ?_
  obtain ⟨T1, X1, e1, st1⟩ := getF X0 hx hZ hown (host := "") (Or.inl (W_ 139 rfl)) Via.refl e0 Gn (g := (mkF m 1 #[rv a, iv pp, .unset, .unset] [(.ref a)])) rfl rfl (hb hby d30_1)
  refine own_G.st (T' := T1) 4 [(.int nn)] st1 ?_
  refine own_G.si 5 [] (fun _ kq => XS.istoreN X1.here hx rfl (hb hby d30_4) rfl (l' := #[rv a, iv pp, iv nn, .unset]) rfl kq) ?_
  refine own_G.sk 6 [(.int nn)] (fun _ kq => XS.iloadN X1.here hx rfl (hb hby d30_5) rfl kq) ?_
  refine own_G.sk 7 [(.int pp), (.int nn)] (fun _ kq => XS.iloadN X1.here hx rfl (hb hby d30_6) rfl kq) ?_
  obtain ⟨_, _, ⟨T2, L2, k2, n2⟩, -, X2, ⟨Lc2, hQ2, l2, y2, z2⟩, st2⟩ := Jvm.LawKit.callS X1 hx (y := own_y18) hown (mvT hZ (W_ 175 rfl)) (mvT hZ (W_ 176 rfl)) (mvT hZ (W_ 177 rfl)) (mvT hZ (W_ 178 rfl)) (by decide) (backOf (W := 1) (rm_ssize l Z a0 hw [] pp h0 n0 O0 hp0 hp1) hZ (W_ 178 rfl) (W_ 177 rfl) (by decide) (by decide)) (g := (mkF m 7 #[rv a, iv pp, iv nn, .unset] [(.int pp), (.int nn)])) rfl (by rw [hml]; rfl) (argsL := [(.int pp)]) (rest := [(.int nn)]) (lenOf pd__28I_29I rfl) rfl (by show 2 * 0 + _ ≤ _; exact Nat.le_of_eq rfl) (hb hby d30_7) (fun _ _ => ⟨rfl, e1, (by decide : 0 + 0 ≤ _), (by decide : 0 + 0 ≤ _)⟩)
  dsimp only [Pt.U, Pt.locs, Pt.cells, Pt.slots] at X2 l2 y2 z2 st2 hQ2
  subst l2 y2 z2
  obtain ⟨rfl, Nq2, P3⟩ := hQ2
  have N2 := Fr.app N0 Nq2
  refine own_G.st (T' := T2) 10 [(.int (own_ss pp)), (.int nn)] (fun _ kq => st2 _ kq) ?_
  refine own_G.sk 11 [(.int (nn + (own_ss pp)))] (fun _ kq => XS.iadd X2.here hx rfl (hb hby d30_10) rfl kq) ?_
  refine own_G.si 12 [] (fun _ kq => XS.istoreN X2.here hx rfl (hb hby d30_11) rfl (l' := #[rv a, iv pp, iv nn, .val (.int (nn + (own_ss pp)))]) rfl kq) ?_
  refine own_G.sk 13 [(.ref a)] (fun _ kq => XS.aloadN X2.here hx rfl (hb hby d30_12) rfl rfl kq) ?_
  refine own_G.sk 14 [(.int (nn + (own_ss pp))), (.ref a)] (fun _ kq => XS.iloadN X2.here hx rfl (hb hby d30_13) rfl kq) ?_
  obtain ⟨cq4, q4a, q4b⟩ := Exa.cell Ea
  obtain ⟨_, _, ⟨T4, L4, k4, n4⟩, -, X4, ⟨Lc4, hQ4, l4, y4, z4⟩, st4⟩ := X2.privateBack hx (y := own_y20) hown (mvT hZ (W_ 141 rfl)) (mvT hZ (W_ 142 rfl)) (own_selp (mvT hZ (W_ 144 rfl)) rfl (Cond.privateMethod_at (mvP hZ (W_ 143 rfl) (args := #[]))) (mvT hZ (W_ 142 rfl)) (by decide)) (Cond.privateMethod_at (mvP hZ (W_ 143 rfl) (args := #[]))) (mvT hZ (W_ 145 rfl)) (by decide) (backOf (W := 0) (rm_ensure l Z a0 hw [] a (nn + (own_ss pp)) t h0 n0 O0 Gv Gc (own_Len.arv At) (own_cap16 hn (own_dlen pp).2.2.2.2.2.2 hcp)) hZ (W_ 145 rfl) (W_ 116 rfl) (by decide) (by decide)) (g := (mkF m 14 #[rv a, iv pp, iv nn, .val (.int (nn + (own_ss pp)))] [(.int (nn + (own_ss pp))), (.ref a)])) rfl (by rw [hml]; rfl) (Steps.refl _) (a := a) (by rw [P3]; exact q4a) q4b (argsL := [(.int (nn + (own_ss pp)))]) (rest := []) (lenOf pd__28I_29V rfl) rfl (by show 2 * 0 + _ ≤ _; exact Nat.le_of_eq rfl) (hb hby d30_14) (fun _ _ => ⟨rfl, P3, (by decide : 0 + 0 ≤ _), (by decide : 0 + 0 ≤ _)⟩)
  dsimp only [Pt.U, Pt.locs, Pt.cells, Pt.slots] at X4 l4 y4 z4 st4 hQ4
  subst l4 y4 z4
  obtain ⟨rfl, Nq4, P5⟩ := hQ4
  have N4 := Fr.app N2 Nq4
  refine own_G.st (T' := T4) 17 [] (fun _ kq => st4.trans kq) ?_
  refine own_G.sk 18 [(.ref a)] (fun _ kq => XS.aloadN X4.here hx rfl (hb hby d30_17) rfl rfl kq) ?_
  obtain ⟨cq6, kq6, q6a, q6b, q6c⟩ := isOf hZ P5 Ea
  obtain ⟨_, _, ⟨T6, L6, k6, n6⟩, -, X6, ⟨Lc6, hQ6, l6, y6, z6⟩, st6⟩ := X4.virtualBack hx (y := own_y15) (z := own_y15) hown (mvT hZ (W_ 179 rfl)) (mvT hZ (W_ 180 rfl)) (notFace_of_selects (args := #[]) (mvT hZ (W_ 182 rfl))) (mvT hZ (W_ 182 rfl)) (mvT hZ (W_ 181 rfl)) (by decide) (backOf (W := 0) (rm_asblat l Z a0 hw [] a csz h0 n0 O0 S_CS hcs Gc) hZ (W_ 183 rfl) (W_ 116 rfl) (by decide) (by decide)) q6a q6c (g := (mkF m 18 #[rv a, iv pp, iv nn, .val (.int (nn + (own_ss pp)))] [(.ref a)])) rfl (by rw [hml]; rfl) (Steps.refl _) (argsL := []) (rest := []) (lenOf pd__28_29Z rfl) rfl (by show 2 * 0 + _ ≤ _; exact Nat.le_of_eq rfl) (hb hby d30_18) (fun _ _ => ⟨rfl, P5, (by decide : 0 + 0 ≤ _), (by decide : 0 + 0 ≤ _)⟩)
  dsimp only [Pt.U, Pt.locs, Pt.cells, Pt.slots] at X6 l6 y6 z6 st6 hQ6
  subst l6 y6 z6
  obtain ⟨rfl, Nq6, P7⟩ := hQ6
  have N6 := Fr.app N4 Nq6
  refine own_G.st (T' := T6) 21 [(.int 1)] (fun _ kq => st6.trans kq) ?_
  have hc21 : ¬ ((1 : Int32) = (0 : Int32)) := (by decide)
  refine own_G.sk 24 [] (fun _ kq => XS.ifNo X6.here hx rfl (hb hby d30_21) rfl ((if0 _ _).trans (feq hc21).1) kq) ?_
  refine own_G.sk 25 [(.int pp)] (fun _ kq => XS.iloadN X6.here hx rfl (hb hby d30_24) rfl kq) ?_
  refine own_G.sk 26 [(.int (nn + (own_ss pp))), (.int pp)] (fun _ kq => XS.iloadN X6.here hx rfl (hb hby d30_25) rfl kq) ?_
  refine own_G.sk 27 [(.ref a), (.int (nn + (own_ss pp))), (.int pp)] (fun _ kq => XS.aloadN X6.here hx rfl (hb hby d30_26) rfl rfl kq) ?_
  obtain ⟨T8, X8, e8, st8⟩ := getF X6 hx hZ hown (host := "") (Or.inl (W_ 120 rfl)) Via.refl P7 Gv (g := (mkF m 27 #[rv a, iv pp, iv nn, .val (.int (nn + (own_ss pp)))] [(.ref a), (.int (nn + (own_ss pp))), (.int pp)])) rfl rfl (hb hby d30_27)
  refine own_G.st (T' := T8) 30 [(.ref t), (.int (nn + (own_ss pp))), (.int pp)] st8 ?_
  obtain ⟨_, _, ⟨T9, L9, k9, n9⟩, -, X9, ⟨Lc9, hQ9, l9, y9, z9⟩, st9⟩ := Jvm.LawKit.callS X8 hx (y := own_y19) hown (mvT hZ (W_ 184 rfl)) (mvT hZ (W_ 185 rfl)) (mvT hZ (W_ 177 rfl)) (mvT hZ (W_ 186 rfl)) (by decide) (backOf (W := 0) (rm_gchars l Z a0 hw [] pp (nn + (own_ss pp)) t dga cga dgb cgb kb xs h0 n0 O0 S_D1 TB1 S_D2 TB2 At gt hp0 hp1 (own_addI hn (own_dlen pp).2.2.2.2.2.2 (by omega) (by omega) (by omega) (by omega)) hcp) hZ (W_ 186 rfl) (W_ 177 rfl) (by decide) (by decide)) (g := (mkF m 30 #[rv a, iv pp, iv nn, .val (.int (nn + (own_ss pp)))] [(.ref t), (.int (nn + (own_ss pp))), (.int pp)])) rfl (by rw [hml]; rfl) (argsL := [(.int pp), (.int (nn + (own_ss pp))), (.ref t)]) (rest := []) (lenOf pd__28II_5bB_29I rfl) rfl (by show 2 * 0 + _ ≤ _; exact Nat.le_of_eq rfl) (hb hby d30_30) (fun _ _ => ⟨rfl, e8, (by decide : 0 + 0 ≤ _), (by decide : 0 + 0 ≤ _)⟩)
  dsimp only [Pt.U, Pt.locs, Pt.cells, Pt.slots] at X9 l9 y9 z9 st9 hQ9
  subst l9 y9 z9
  obtain ⟨i10, rfl, Nq9, P11, P12⟩ := hQ9
  have N9 := Fr.app N6 Nq9
  have F13 := Ea.keep P11
  have F14 := Gv.keep P11 (ninS at_ nin0)
  have F15 := Gc.keep P11 (ninS at_ nin0)
  have F16 := Gn.keep P11 (ninS at_ nin0)
  have O17 := O0.keep P11 (allS gt all0)
  have K18 := K0.trans P11 (allS (Or.inl (List.mem_of_getElem? (i := 1) rfl)) all0)
  refine own_G.st (T' := T9) 33 [(.int i10)] (fun _ kq => st9 _ kq) ?_
  refine own_G.sk 34 [] (fun _ kq => XS.pop X9.here hx rfl (hb hby d30_33) rfl rfl kq) ?_
  refine own_G.sk 48 [] (fun _ kq => XS.goto X9.here hx rfl (pc0 := 34) (pc' := 48) rfl (hb hby d30_34) (by decide) (by decide) kq) ?_
  refine own_G.sk 49 [(.ref a)] (fun _ kq => XS.aloadN X9.here hx rfl (hb hby d30_48) rfl rfl kq) ?_
  refine own_G.sk 50 [(.int (nn + (own_ss pp))), (.ref a)] (fun _ kq => XS.iloadN X9.here hx rfl (hb hby d30_49) rfl kq) ?_
  obtain ⟨T19, h19, X19, e19, W19, st19⟩ := putF X9 hx hZ hown (host := "") (Or.inl (W_ 139 rfl)) Via.refl rfl F16 F13 (Or.inl (W_ 140 rfl)) (W_ 107 rfl) (ty := .int) (by decide) rfl rfl (g := (mkF m 50 #[rv a, iv pp, iv nn, .val (.int (nn + (own_ss pp)))] [(.int (nn + (own_ss pp))), (.ref a)])) rfl rfl (hb hby d30_50)
  have N19 := Fr.snoc X19 N9 ga
  have F20 := F13.wr W19
  have F21 := F14.other W19 (Or.inr (slot_ne (Or.inl (W_ 121 rfl)) (Or.inl (W_ 140 rfl)) (by decide) (t := (.array .byte)) (t' := .int) (by decide) (by decide)))
  have F22 := F15.other W19 (Or.inr (slot_ne (Or.inl (W_ 123 rfl)) (Or.inl (W_ 140 rfl)) (by decide) (t := .byte) (t' := .int) (by decide) (by decide)))
  have F23 := F16.same W19
  have F24 := P12.other W19 (Ne.symm at_)
  have O25 := O17.wr W19 ga
  have K26 := K18.wr W19 (Or.inl (List.mem_of_getElem? (i := 0) rfl))
  refine own_G.st (T' := T19) 53 [] st19 ?_
  refine own_G.sk 54 [(.ref a)] (fun _ kq => XS.aloadN X19.here hx rfl (hb hby d30_53) rfl rfl kq) ?_
  exact own_ret X19 e19 (v := some (.ref a)) (fun h => by rw [Bd.returns] at h; cases h) Bd.notSynchronized ⟨rfl, N19, K26, F20, F21, F22, F23, F24⟩ (by decide) (by decide) (fun fs hr => own_retR X19 hx Bd.returns rfl rfl (hb hby d30_54) hr)
theorem pd__28I_29Ljava_2flang_2fAbstractStringBuilder_3b : parseMethodDescriptor "(I)Ljava/lang/AbstractStringBuilder;" = some ⟨[.int], some (.object "java/lang/AbstractStringBuilder")⟩ := by decide +kernel
theorem d29_0 : decode jdk_67_method_15_code 0 = .ok (.aload_n 0, 1) := by decide +kernel
theorem d29_1 : decode jdk_67_method_15_code 1 = .ok (.iload_n 1, 1) := by decide +kernel
theorem d29_2 : decode jdk_67_method_15_code 2 = .ok (.invokespecial 53, 3) := by decide +kernel
theorem d29_5 : decode jdk_67_method_15_code 5 = .ok (.pop, 1) := by decide +kernel
theorem d29_6 : decode jdk_67_method_15_code 6 = .ok (.aload_n 0, 1) := by decide +kernel
theorem d29_7 : decode jdk_67_method_15_code 7 = .ok (.areturn, 1) := by decide +kernel
theorem ef_sbapI (m : MethodId) (a : Addr) (pp : Int32) : entryFrame m #[(.ref a), (.int pp)] 2 = mkF m 0 #[rv a, iv pp] [] := by
  first | (simp [entryFrame, mkF, argsToLocals, Value.category]; done) | rfl
def Q_sbapI (Z : State) (a : Addr) (pp : Int32) (csz : Int32) (dga : Addr) (cga : Cell) (dgb : Addr) (cgb : Cell) (nn : Int32) (t : Addr) (kb : ClassId) (xs : List Int32) (h0 : Heap) (n0 : Nat) (v : Option Value) (h : Heap) (L : List Loc) : Prop := v = some (.ref a) ∧ Fr n0 L ∧ Keep h0 h [a, t] ∧ Exa Z h a "java/lang/StringBuilder" ∧ Fld Z h a "java/lang/AbstractStringBuilder" "value" "[B" (.ref t) ∧ Fld Z h a "java/lang/AbstractStringBuilder" "coder" "B" (.int 0) ∧ Fld Z h a "java/lang/AbstractStringBuilder" "count" "I" (.int (nn + (own_ss pp))) ∧ Arv Z h t kb .byte (16 : Int32) (own_B (xs ++ own_dig pp)) (.int 0)
set_option maxRecDepth 65536 in
set_option maxHeartbeats 40000000 in
theorem rm_sbapI (l : Launch) (Z : State) (a0 : Array Value) (hw : ∀ d ∈ tables_1, d.before a0 Z = true) (ws : List Jvm.Cond) (a : Addr) (pp : Int32) (csz : Int32) (dga : Addr) (cga : Cell) (dgb : Addr) (cgb : Cell) (nn : Int32) (t : Addr) (kb : ClassId) (xs : List Int32) (h0 : Heap) (n0 : Nat) (O0 : Old Z n0 h0) (S_CS : Sta Z Z.heap "java/lang/String" "COMPACT_STRINGS" "Z" (.int csz)) (hcs : ¬ csz = (0 : Int32)) (S_D1 : Sta Z Z.heap "java/lang/Integer" "DigitOnes" "[B" (.ref dga)) (TB1 : own_Tb Z dga cga (fun j => (48 : Int32) + (j % (10 : Int32)))) (S_D2 : Sta Z Z.heap "java/lang/Integer" "DigitTens" "[B" (.ref dgb)) (TB2 : own_Tb Z dgb cgb (fun j => (48 : Int32) + (j / (10 : Int32)))) (Ea : Exa Z h0 a "java/lang/StringBuilder") (Gv : Fld Z h0 a "java/lang/AbstractStringBuilder" "value" "[B" (.ref t)) (Gc : Fld Z h0 a "java/lang/AbstractStringBuilder" "coder" "B" (.int 0)) (Gn : Fld Z h0 a "java/lang/AbstractStringBuilder" "count" "I" (.int nn)) (At : Arv Z h0 t kb .byte (16 : Int32) (own_B xs) (.int 0)) (ga : n0 ≤ a) (gt : n0 ≤ t) (at_ : a ≠ t) (hp0 : 0 ≤ pp.toInt) (hp1 : pp.toInt ≤ 65535) (hn : nn.toInt = (xs.length : Int)) (hcp : xs.length + (own_dig pp).length ≤ 16) :
    MetFree l own_y27 (head1 (Jvm.Cond.code own_y27 jdk_67_method_15_code 2 (some (.object "java/lang/StringBuilder")) :: ws) ({ frames := 2, cells := 0, slots := 0, locals := 33 } : Room)) (fun aq_ Uq_ => aq_ = #[(.ref a), (.int pp)] ∧ Z.Warmed39 Uq_.vm ∧ Uq_.heap = h0) (fun _ _ _ _ _ => True) (fun _ Uq_ oq_ Ur_ => ∃ vq_ Lq_, oq_ = .returned vq_ ∧ Q_sbapI Z a pp csz dga cga dgb cgb nn t kb xs h0 n0 vq_ Ur_.heap Lq_ ∧ FrameEnd Uq_ oq_ Ur_ Lq_ ({ frames := 2, cells := 0, slots := 0, locals := 33 } : Room).cells ({ frames := 2, cells := 0, slots := 0, locals := 33 } : Room).slots) := by
  refine MetFree.of_bodySF (plainFor_of_name pn_java_2flang_2fStringBuilder) hisR ?_
  intro p e s m args below meth c s₁ Bd hml0 hP hK
  obtain ⟨rfl, hZ, hh⟩ := hP
  have W_ : ∀ {d : Jvm.Cond} (i : Nat), tables_1[i]? = some d → d.before a0 Z = true := fun i h => hw _ (List.mem_of_getElem? h)
  have hx := Bd.exec
  have hby := Bd.bytes
  have hml : c.maxLocals = 2 := hml0
  have hown : s.vm.findClass "java/lang/StringBuilder" = some m.cls := findClass_of_methodNamed Bd.named
  have hnm := (name_of_methodNamed Bd.named Bd.method).1
  have X0 : Stand p l e ({ frames := 2, cells := 0, slots := 0, locals := 33 } : Room) s m #[(.ref a), (.int pp)] below meth c s₁ [] 0 0 := Stand.of_body Bd
  have e0 : s₁.heap = h0 := by rw [← hh, Bd.state]; rfl
  have N0 := Fr.nil n0
  have K0 := Keep.refl h0 [a, t]
  refine own_G.start (Q := Q_sbapI Z a pp csz dga cga dgb cgb nn t kb xs h0 n0) (ef_sbapI m a pp) ?_
  refine own_G.sk 1 [(.ref a)] (fun _ kq => XS.aloadN X0.here hx rfl (hb hby d29_0) rfl rfl kq) ?_
  refine own_G.sk 2 [(.int pp), (.ref a)] (fun _ kq => XS.iloadN X0.here hx rfl (hb hby d29_1) rfl kq) ?_
  obtain ⟨_, _, ⟨T1, L1, k1, n1⟩, -, X1, ⟨Lc1, hQ1, l1, y1, z1⟩, st1⟩ := superBack X0 hx hZ (y := own_y26) hown (W_ 171 rfl) (own_same (W_ 173 rfl) (W_ 144 rfl) rfl (by decide)) (W_ 172 rfl) (W_ 131 rfl) (by decide) (backOf (W := 0) (rm_asbapI l Z a0 hw [] a pp csz dga cga dgb cgb nn t kb xs h0 n0 O0 S_CS hcs S_D1 TB1 S_D2 TB2 Ea Gv Gc Gn At ga gt at_ hp0 hp1 hn hcp) hZ (W_ 174 rfl) (W_ 116 rfl) (by decide) (by decide)) e0 (Ins.self Ea) (g := (mkF m 2 #[rv a, iv pp] [(.int pp), (.ref a)])) rfl (by rw [hml]; rfl) (W_ 174 rfl) (argsL := [(.int pp)]) (rest := []) (lenOf pd__28I_29Ljava_2flang_2fAbstractStringBuilder_3b rfl) rfl (by show 2 * 0 + _ ≤ _; exact Nat.le_of_eq rfl) (hb hby d29_2) (fun _ _ => ⟨rfl, e0, (by decide : 0 + 0 ≤ _), (by decide : 0 + 0 ≤ _)⟩)
  dsimp only [Pt.U, Pt.locs, Pt.cells, Pt.slots] at X1 l1 y1 z1 st1 hQ1
  subst l1 y1 z1
  obtain ⟨rfl, Nq1, P2, P3, P4, P5, P6, P7⟩ := hQ1
  have N1 := Fr.app N0 Nq1
  have F8 := Ea.keep P2
  have O9 := O0.keep P2 (allS ga (allS gt all0))
  have K10 := K0.trans P2 (allS (Or.inl (List.mem_of_getElem? (i := 0) rfl)) (allS (Or.inl (List.mem_of_getElem? (i := 1) rfl)) all0))
  refine own_G.st (T' := T1) 5 [(.ref a)] (fun _ kq => st1.trans kq) ?_
  refine own_G.sk 6 [] (fun _ kq => XS.pop X1.here hx rfl (hb hby d29_5) rfl rfl kq) ?_
  refine own_G.sk 7 [(.ref a)] (fun _ kq => XS.aloadN X1.here hx rfl (hb hby d29_6) rfl rfl kq) ?_
  exact own_ret X1 rfl (v := some (.ref a)) (fun h => by rw [Bd.returns] at h; cases h) Bd.notSynchronized ⟨rfl, N1, K10, P3, P4, P5, P6, P7⟩ (by decide) (by decide) (fun fs hr => own_retR X1 hx Bd.returns rfl rfl (hb hby d29_7) hr)
theorem pd__28II_29I : parseMethodDescriptor "(II)I" = some ⟨[.int, .int], some .int⟩ := by decide +kernel
theorem d41_0 : decode jdk_65_method_133_code 0 = .ok (.iload_n 1, 1) := by decide +kernel
theorem d41_1 : decode jdk_65_method_133_code 1 = .ok (.iload_n 2, 1) := by decide +kernel
theorem d41_2 : decode jdk_65_method_133_code 2 = .ok (.invokestatic 343, 3) := by decide +kernel
theorem d41_5 : decode jdk_65_method_133_code 5 = .ok (.iload_n 2, 1) := by decide +kernel
theorem d41_6 : decode jdk_65_method_133_code 6 = .ok (.iload_n 1, 1) := by decide +kernel
theorem d41_7 : decode jdk_65_method_133_code 7 = .ok (.isub, 1) := by decide +kernel
theorem d41_8 : decode jdk_65_method_133_code 8 = .ok (.istore_n 3, 1) := by decide +kernel
theorem d41_9 : decode jdk_65_method_133_code 9 = .ok (.iload_n 3, 1) := by decide +kernel
theorem d41_10 : decode jdk_65_method_133_code 10 = .ok (.newarray .byte, 2) := by decide +kernel
theorem d41_12 : decode jdk_65_method_133_code 12 = .ok (.astore 4, 2) := by decide +kernel
theorem d41_14 : decode jdk_65_method_133_code 14 = .ok (.aload_n 0, 1) := by decide +kernel
theorem d41_15 : decode jdk_65_method_133_code 15 = .ok (.iload_n 1, 1) := by decide +kernel
theorem d41_16 : decode jdk_65_method_133_code 16 = .ok (.aload 4, 2) := by decide +kernel
theorem d41_18 : decode jdk_65_method_133_code 18 = .ok (.iconst 0, 1) := by decide +kernel
theorem d41_19 : decode jdk_65_method_133_code 19 = .ok (.aload_n 0, 1) := by decide +kernel
theorem d41_20 : decode jdk_65_method_133_code 20 = .ok (.arraylength, 1) := by decide +kernel
theorem d41_21 : decode jdk_65_method_133_code 21 = .ok (.iload_n 1, 1) := by decide +kernel
theorem d41_22 : decode jdk_65_method_133_code 22 = .ok (.isub, 1) := by decide +kernel
theorem d41_23 : decode jdk_65_method_133_code 23 = .ok (.iload_n 3, 1) := by decide +kernel
theorem d41_24 : decode jdk_65_method_133_code 24 = .ok (.invokestatic 304, 3) := by decide +kernel
theorem d41_27 : decode jdk_65_method_133_code 27 = .ok (.invokestatic 150, 3) := by decide +kernel
theorem d41_30 : decode jdk_65_method_133_code 30 = .ok (.aload 4, 2) := by decide +kernel
theorem d41_32 : decode jdk_65_method_133_code 32 = .ok (.areturn, 1) := by decide +kernel
theorem ef_corb (m : MethodId) (t : Addr) (n : Int32) : entryFrame m #[(.ref t), (.int 0), (.int n)] 5 = mkF m 0 #[rv t, iv 0, iv n, .unset, .unset] [] := by
  first | (simp [entryFrame, mkF, argsToLocals, Value.category]; done) | rfl
def Q_corb (Z : State) (t : Addr) (n : Int32) (kb : ClassId) (xs : List Int32) (h0 : Heap) (n0 : Nat) (v : Option Value) (h : Heap) (L : List Loc) : Prop := ∃ (r : Addr), ∃ (kr : ClassId), v = some (.ref r) ∧ Fr n0 L ∧ Keep h0 h [] ∧ h0.size ≤ r ∧ Arv Z h r kr .byte n (own_B xs) (.int 0)
set_option maxRecDepth 65536 in
set_option maxHeartbeats 40000000 in
theorem rm_corb (l : Launch) (Z : State) (a0 : Array Value) (hw : ∀ d ∈ tables_1, d.before a0 Z = true) (ws : List Jvm.Cond) (t : Addr) (n : Int32) (kb : ClassId) (xs : List Int32) (h0 : Heap) (n0 : Nat) (O0 : Old Z n0 h0) (At : Arv Z h0 t kb .byte (16 : Int32) (own_B xs) (.int 0)) (hn : n.toInt = (xs.length : Int)) (hx16 : xs.length < 16) :
    MetFree l own_y28 (head1 (Jvm.Cond.code own_y28 jdk_65_method_133_code 5 (some (.array .byte)) :: ws) ({ frames := 1, cells := 1, slots := 16, locals := 18 } : Room)) (fun aq_ Uq_ => aq_ = #[(.ref t), (.int 0), (.int n)] ∧ Z.Warmed39 Uq_.vm ∧ Uq_.heap = h0) (fun _ _ _ _ _ => True) (fun _ Uq_ oq_ Ur_ => ∃ vq_ Lq_, oq_ = .returned vq_ ∧ Q_corb Z t n kb xs h0 n0 vq_ Ur_.heap Lq_ ∧ FrameEnd Uq_ oq_ Ur_ Lq_ ({ frames := 1, cells := 1, slots := 16, locals := 18 } : Room).cells ({ frames := 1, cells := 1, slots := 16, locals := 18 } : Room).slots) := by
  refine MetFree.of_bodySF (plainFor_of_name pn_java_2futil_2fArrays) hisR ?_
  intro p e s m args below meth c s₁ Bd hml0 hP hK
  obtain ⟨rfl, hZ, hh⟩ := hP
  have W_ : ∀ {d : Jvm.Cond} (i : Nat), tables_1[i]? = some d → d.before a0 Z = true := fun i h => hw _ (List.mem_of_getElem? h)
  have hx := Bd.exec
  have hby := Bd.bytes
  have hml : c.maxLocals = 5 := hml0
  have hown : s.vm.findClass "java/util/Arrays" = some m.cls := findClass_of_methodNamed Bd.named
  have hnm := (name_of_methodNamed Bd.named Bd.method).1
  have X0 : Stand p l e ({ frames := 1, cells := 1, slots := 16, locals := 18 } : Room) s m #[(.ref t), (.int 0), (.int n)] below meth c s₁ [] 0 0 := Stand.of_body Bd
  have e0 : s₁.heap = h0 := by rw [← hh, Bd.state]; rfl
  have N0 := Fr.nil n0
  have K0 := Keep.refl h0 []
  refine own_G.start (Q := Q_corb Z t n kb xs h0 n0) (ef_corb m t n) ?_
  refine own_G.sk 1 [(.int 0)] (fun _ kq => XS.iloadN X0.here hx rfl (hb hby d41_0) rfl kq) ?_
  refine own_G.sk 2 [(.int n), (.int 0)] (fun _ kq => XS.iloadN X0.here hx rfl (hb hby d41_1) rfl kq) ?_
  obtain ⟨_, _, ⟨T1, L1, k1, n1⟩, -, X1, ⟨Lc1, hQ1, l1, y1, z1⟩, st1⟩ := Jvm.LawKit.callS X0 hx (y := own_y17) hown (mvT hZ (W_ 221 rfl)) (mvT hZ (W_ 222 rfl)) (mvT hZ (W_ 216 rfl)) (mvT hZ (W_ 223 rfl)) (by decide) (backOf (W := 0) (rm_chklen l Z a0 hw [] (0 : Int32) n h0 n0 O0 (own_nn hn)) hZ (W_ 223 rfl) (W_ 216 rfl) (by decide) (by decide)) (g := (mkF m 2 #[rv t, iv 0, iv n, .unset, .unset] [(.int n), (.int 0)])) rfl (by rw [hml]; rfl) (argsL := [(.int 0), (.int n)]) (rest := []) (lenOf pd__28II_29V rfl) rfl (by show 2 * 0 + _ ≤ _; exact Nat.le_of_eq rfl) (hb hby d41_2) (fun _ _ => ⟨rfl, e0, (by decide : 0 + 0 ≤ _), (by decide : 0 + 0 ≤ _)⟩)
  dsimp only [Pt.U, Pt.locs, Pt.cells, Pt.slots] at X1 l1 y1 z1 st1 hQ1
  subst l1 y1 z1
  obtain ⟨rfl, Nq1, P2⟩ := hQ1
  have N1 := Fr.app N0 Nq1
  refine own_G.st (T' := T1) 5 [] (fun _ kq => st1 _ kq) ?_
  refine own_G.sk 6 [(.int n)] (fun _ kq => XS.iloadN X1.here hx rfl (hb hby d41_5) rfl kq) ?_
  refine own_G.sk 7 [(.int 0), (.int n)] (fun _ kq => XS.iloadN X1.here hx rfl (hb hby d41_6) rfl kq) ?_
  refine own_G.sk 8 [(.int (n - (0 : Int32)))] (fun _ kq => XS.isub X1.here hx rfl (hb hby d41_7) rfl kq) ?_
  refine own_G.si 9 [] (fun _ kq => XS.istoreN X1.here hx rfl (hb hby d41_8) rfl (l' := #[rv t, iv 0, iv n, .val (.int (n - (0 : Int32))), .unset]) rfl kq) ?_
  have hl3 : (n - (0 : Int32)) = n := own_sub0 n
  refine own_G.cast (g' := (mkF m 9 #[rv t, iv 0, iv n, iv n, .unset] [])) (by rw [hl3]) ?_
  refine own_G.sk 10 [(.int n)] (fun _ kq => XS.iloadN X1.here hx rfl (hb hby d41_9) rfl kq) ?_
  obtain ⟨T4, h4, k4, X4, e4, E4, A4, st4⟩ := newP X1 hx hZ (W_ 24 rfl) P2 (g := (mkF m 10 #[rv t, iv 0, iv n, iv n, .unset] [(.int n)])) rfl (hb hby d41_10) rfl (own_nn hn) (cap := 16) (by rw [own_nat hn]; omega) (by decide) (by decide) (by decide)
  obtain ⟨b4, g4⟩ : ∃ z, z = h0.size := ⟨_, rfl⟩
  rw [← g4] at A4 st4
  have ne5 : t ≠ b4 := Nat.ne_of_lt (Nat.lt_of_lt_of_le At.lt (Nat.le_of_eq g4.symm))
  have g6 : n0 ≤ b4 := Nat.le_trans O0.le (Nat.le_of_eq g4.symm)
  have z7 : h0.size ≤ b4 := Nat.le_trans K0.1 (Nat.le_of_eq g4.symm)
  have F8 := At.ext E4
  have O9 := O0.ext E4
  have K10 := K0.ext E4
  have F11 : Arv Z h4 b4 k4 .byte n [] (.int 0) := Arv.new A4 (own_nn hn)
  refine own_G.st (T' := T4) 12 [(.ref b4)] st4 ?_
  refine own_G.si 14 [] (fun _ kq => XS.astore X4.here hx rfl (hb hby d41_12) rfl rfl (l' := #[rv t, iv 0, iv n, iv n, rv b4]) rfl kq) ?_
  refine own_G.sk 15 [(.ref t)] (fun _ kq => XS.aloadN X4.here hx rfl (hb hby d41_14) rfl rfl kq) ?_
  refine own_G.sk 16 [(.int 0), (.ref t)] (fun _ kq => XS.iloadN X4.here hx rfl (hb hby d41_15) rfl kq) ?_
  refine own_G.sk 18 [(.ref b4), (.int 0), (.ref t)] (fun _ kq => XS.aload X4.here hx rfl (hb hby d41_16) rfl rfl kq) ?_
  refine own_G.sk 19 [(.int 0), (.ref b4), (.int 0), (.ref t)] (fun _ kq => XS.iconst X4.here hx rfl (hb hby d41_18) kq) ?_
  refine own_G.sk 20 [(.ref t), (.int 0), (.ref b4), (.int 0), (.ref t)] (fun _ kq => XS.aloadN X4.here hx rfl (hb hby d41_19) rfl rfl kq) ?_
  obtain ⟨cl12, Ar12, -, Sz12, Nz12, -, -⟩ := id F8
  refine own_G.step (g' := (mkF m 21 #[rv t, iv 0, iv n, iv n, rv b4] [(.int 16), (.int 0), (.ref b4), (.int 0), (.ref t)])) (fun tq_ kq_ => X4.arraylength hx (by rw [e4]; exact Ar12.1) (State.isArrayOf_alike hZ.alike Ar12.2.1) (g := (mkF m 20 #[rv t, iv 0, iv n, iv n, rv b4] [(.ref t), (.int 0), (.ref b4), (.int 0), (.ref t)])) rfl rfl (hb hby d41_20) _ (by rw [len_of Sz12 Nz12]; exact kq_)) ?_
  refine own_G.sk 22 [(.int 0), (.int 16), (.int 0), (.ref b4), (.int 0), (.ref t)] (fun _ kq => XS.iloadN X4.here hx rfl (hb hby d41_21) rfl kq) ?_
  refine own_G.sk 23 [(.int ((16 : Int32) - (0 : Int32))), (.int 0), (.ref b4), (.int 0), (.ref t)] (fun _ kq => XS.isub X4.here hx rfl (hb hby d41_22) rfl kq) ?_
  refine own_G.sk 24 [(.int n), (.int ((16 : Int32) - (0 : Int32))), (.int 0), (.ref b4), (.int 0), (.ref t)] (fun _ kq => XS.iloadN X4.here hx rfl (hb hby d41_23) rfl kq) ?_
  obtain ⟨_, _, ⟨T13, L13, k13, n13⟩, -, X13, ⟨Lc13, hQ13, l13, y13, z13⟩, st13⟩ := Jvm.LawKit.callS X4 hx (y := own_y16) hown (mvT hZ (W_ 224 rfl)) (mvT hZ (W_ 225 rfl)) (mvT hZ (W_ 226 rfl)) (mvT hZ (W_ 227 rfl)) (by decide) (backOf (W := 4) (rm_min l Z a0 hw [] ((16 : Int32) - (0 : Int32)) n h4 n0 O9 ) hZ (W_ 227 rfl) (W_ 226 rfl) (by decide) (by decide)) (g := (mkF m 24 #[rv t, iv 0, iv n, iv n, rv b4] [(.int n), (.int ((16 : Int32) - (0 : Int32))), (.int 0), (.ref b4), (.int 0), (.ref t)])) rfl (by rw [hml]; rfl) (argsL := [(.int ((16 : Int32) - (0 : Int32))), (.int n)]) (rest := [(.int 0), (.ref b4), (.int 0), (.ref t)]) (lenOf pd__28II_29I rfl) rfl (by show 2 * 0 + _ ≤ _; exact Nat.le_of_eq rfl) (hb hby d41_24) (fun _ _ => ⟨rfl, e4, (by decide : 1 + 0 ≤ _), (by decide : 16 + 0 ≤ _)⟩)
  dsimp only [Pt.U, Pt.locs, Pt.cells, Pt.slots] at X13 l13 y13 z13 st13 hQ13
  subst l13 y13 z13
  obtain ⟨rfl, Nq13, P14⟩ := hQ13
  have N13 := Fr.app N1 Nq13
  refine own_G.st (T' := T13) 27 [(.int (own_min ((16 : Int32) - (0 : Int32)) n)), (.int 0), (.ref b4), (.int 0), (.ref t)] (fun _ kq => st13 _ kq) ?_
  have hl15 : (own_min ((16 : Int32) - (0 : Int32)) n) = n := own_min16 hn hx16
  refine own_G.cast (g' := (mkF m 27 #[rv t, iv 0, iv n, iv n, rv b4] [(.int n), (.int 0), (.ref b4), (.int 0), (.ref t)])) (by rw [hl15]) ?_
  obtain ⟨T16, h16, L16, X16, e16, N16, K16, A16, st16⟩ := cpA X13 hx hZ hown (W_ 228 rfl) (W_ 165 rfl) (W_ 163 rfl) (W_ 164 rfl) P14 F8 (F11.pad (pad_rep _ _ n.toNatClampNeg)) (Or.inl ⟨rfl, rfl⟩) (by decide) (by decide) (own_nn hn) (own_h4 n _ (by rw [own_nat hn]; have e : (16 : Int32).toNatClampNeg = 16 := (by decide); omega)) (own_h4 n _ (Nat.le_refl _)) rfl (own_hl (n := (0 : Int32)) (xs := []) rfl) N13 g6 (g := (mkF m 27 #[rv t, iv 0, iv n, iv n, rv b4] [(.int n), (.int 0), (.ref b4), (.int 0), (.ref t)])) rfl (by rw [hml]; rfl) rfl (hb hby d41_27) (by decide) (W := 0) (by show 2 * 0 + _ ≤ _; exact Nat.le_of_eq rfl) (by decide)
  have F17 := F8.keep K16 (ninS ne5 nin0)
  have O18 := O9.keep K16 (allS g6 all0)
  have K19 := K10.trans K16 (allS (Or.inr z7) all0)
  have F20 : Arv Z h16 b4 k4 .byte n (own_B xs) (.int 0) := own_cpA (xs := []) (s := (0 : Int32).toNatClampNeg) (d := (0 : Int32).toNatClampNeg) (m := n.toNatClampNeg) (by decide) (by decide) (own_nat hn) A16
  refine own_G.st (T' := T16) 30 [] st16 ?_
  refine own_G.sk 32 [(.ref b4)] (fun _ kq => XS.aload X16.here hx rfl (hb hby d41_30) rfl rfl kq) ?_
  exact own_ret X16 e16 (v := some (.ref b4)) (fun h => by rw [Bd.returns] at h; cases h) Bd.notSynchronized ⟨b4, k4, rfl, N16, K19, z7, F20⟩ (by decide) (by decide) (fun fs hr => own_retR X16 hx Bd.returns rfl rfl (hb hby d41_32) hr)
theorem pd__28_5bBII_29_5bB : parseMethodDescriptor "([BII)[B" = some ⟨[(.array .byte), .int, .int], some (.array .byte)⟩ := by decide +kernel
theorem d40_0 : decode jdk_65_method_132_code 0 = .ok (.iload_n 1, 1) := by decide +kernel
theorem d40_1 : decode jdk_65_method_132_code 1 = .ok (.ifCond .ne 9, 3) := by decide +kernel
theorem d40_4 : decode jdk_65_method_132_code 4 = .ok (.iload_n 2, 1) := by decide +kernel
theorem d40_5 : decode jdk_65_method_132_code 5 = .ok (.aload_n 0, 1) := by decide +kernel
theorem d40_6 : decode jdk_65_method_132_code 6 = .ok (.arraylength, 1) := by decide +kernel
theorem d40_7 : decode jdk_65_method_132_code 7 = .ok (.if_icmp .eq 10, 3) := by decide +kernel
theorem d40_10 : decode jdk_65_method_132_code 10 = .ok (.aload_n 0, 1) := by decide +kernel
theorem d40_11 : decode jdk_65_method_132_code 11 = .ok (.iload_n 1, 1) := by decide +kernel
theorem d40_12 : decode jdk_65_method_132_code 12 = .ok (.iload_n 2, 1) := by decide +kernel
theorem d40_13 : decode jdk_65_method_132_code 13 = .ok (.invokestatic 339, 3) := by decide +kernel
theorem d40_16 : decode jdk_65_method_132_code 16 = .ok (.areturn, 1) := by decide +kernel
theorem ef_cor (m : MethodId) (t : Addr) (n : Int32) : entryFrame m #[(.ref t), (.int 0), (.int n)] 3 = mkF m 0 #[rv t, iv 0, iv n] [] := by
  first | (simp [entryFrame, mkF, argsToLocals, Value.category]; done) | rfl
def Q_cor (Z : State) (t : Addr) (n : Int32) (kb : ClassId) (xs : List Int32) (h0 : Heap) (n0 : Nat) (v : Option Value) (h : Heap) (L : List Loc) : Prop := ∃ (r : Addr), ∃ (kr : ClassId), v = some (.ref r) ∧ Fr n0 L ∧ Keep h0 h [] ∧ h0.size ≤ r ∧ Arv Z h r kr .byte n (own_B xs) (.int 0)
set_option maxRecDepth 65536 in
set_option maxHeartbeats 40000000 in
theorem rm_cor (l : Launch) (Z : State) (a0 : Array Value) (hw : ∀ d ∈ tables_1, d.before a0 Z = true) (ws : List Jvm.Cond) (t : Addr) (n : Int32) (kb : ClassId) (xs : List Int32) (h0 : Heap) (n0 : Nat) (O0 : Old Z n0 h0) (At : Arv Z h0 t kb .byte (16 : Int32) (own_B xs) (.int 0)) (hn : n.toInt = (xs.length : Int)) (hx16 : xs.length < 16) :
    MetFree l own_y29 (head1 (Jvm.Cond.code own_y29 jdk_65_method_132_code 3 (some (.array .byte)) :: ws) ({ frames := 2, cells := 1, slots := 16, locals := 34 } : Room)) (fun aq_ Uq_ => aq_ = #[(.ref t), (.int 0), (.int n)] ∧ Z.Warmed39 Uq_.vm ∧ Uq_.heap = h0) (fun _ _ _ _ _ => True) (fun _ Uq_ oq_ Ur_ => ∃ vq_ Lq_, oq_ = .returned vq_ ∧ Q_cor Z t n kb xs h0 n0 vq_ Ur_.heap Lq_ ∧ FrameEnd Uq_ oq_ Ur_ Lq_ ({ frames := 2, cells := 1, slots := 16, locals := 34 } : Room).cells ({ frames := 2, cells := 1, slots := 16, locals := 34 } : Room).slots) := by
  refine MetFree.of_bodySF (plainFor_of_name pn_java_2futil_2fArrays) hisR ?_
  intro p e s m args below meth c s₁ Bd hml0 hP hK
  obtain ⟨rfl, hZ, hh⟩ := hP
  have W_ : ∀ {d : Jvm.Cond} (i : Nat), tables_1[i]? = some d → d.before a0 Z = true := fun i h => hw _ (List.mem_of_getElem? h)
  have hx := Bd.exec
  have hby := Bd.bytes
  have hml : c.maxLocals = 3 := hml0
  have hown : s.vm.findClass "java/util/Arrays" = some m.cls := findClass_of_methodNamed Bd.named
  have hnm := (name_of_methodNamed Bd.named Bd.method).1
  have X0 : Stand p l e ({ frames := 2, cells := 1, slots := 16, locals := 34 } : Room) s m #[(.ref t), (.int 0), (.int n)] below meth c s₁ [] 0 0 := Stand.of_body Bd
  have e0 : s₁.heap = h0 := by rw [← hh, Bd.state]; rfl
  have N0 := Fr.nil n0
  have K0 := Keep.refl h0 []
  refine own_G.start (Q := Q_cor Z t n kb xs h0 n0) (ef_cor m t n) ?_
  refine own_G.sk 1 [(.int 0)] (fun _ kq => XS.iloadN X0.here hx rfl (hb hby d40_0) rfl kq) ?_
  have hc1 : (0 : Int32) = (0 : Int32) := (by decide)
  refine own_G.sk 4 [] (fun _ kq => XS.ifNo X0.here hx rfl (hb hby d40_1) rfl ((if0 _ _).trans (teq hc1).2) kq) ?_
  refine own_G.sk 5 [(.int n)] (fun _ kq => XS.iloadN X0.here hx rfl (hb hby d40_4) rfl kq) ?_
  refine own_G.sk 6 [(.ref t), (.int n)] (fun _ kq => XS.aloadN X0.here hx rfl (hb hby d40_5) rfl rfl kq) ?_
  obtain ⟨cl1, Ar1, -, Sz1, Nz1, -, -⟩ := id At
  refine own_G.step (g' := (mkF m 7 #[rv t, iv 0, iv n] [(.int 16), (.int n)])) (fun tq_ kq_ => X0.arraylength hx (by rw [e0]; exact Ar1.1) (State.isArrayOf_alike hZ.alike Ar1.2.1) (g := (mkF m 6 #[rv t, iv 0, iv n] [(.ref t), (.int n)])) rfl rfl (hb hby d40_6) _ (by rw [len_of Sz1 Nz1]; exact kq_)) ?_
  have hc7 : ¬ (n = (16 : Int32)) := (own_ne16 hn hx16)
  refine own_G.sk 10 [] (fun _ kq => XS.icmpNo X0.here hx rfl (hb hby d40_7) rfl (feq hc7).1 kq) ?_
  refine own_G.sk 11 [(.ref t)] (fun _ kq => XS.aloadN X0.here hx rfl (hb hby d40_10) rfl rfl kq) ?_
  refine own_G.sk 12 [(.int 0), (.ref t)] (fun _ kq => XS.iloadN X0.here hx rfl (hb hby d40_11) rfl kq) ?_
  refine own_G.sk 13 [(.int n), (.int 0), (.ref t)] (fun _ kq => XS.iloadN X0.here hx rfl (hb hby d40_12) rfl kq) ?_
  obtain ⟨_, _, ⟨T2, L2, k2, n2⟩, -, X2, ⟨Lc2, hQ2, l2, y2, z2⟩, st2⟩ := Jvm.LawKit.callS X0 hx (y := own_y28) hown (mvT hZ (W_ 218 rfl)) (mvT hZ (W_ 219 rfl)) (mvT hZ (W_ 216 rfl)) (mvT hZ (W_ 220 rfl)) (by decide) (backOf (W := 0) (rm_corb l Z a0 hw [] t n kb xs h0 n0 O0 At hn hx16) hZ (W_ 220 rfl) (W_ 216 rfl) (by decide) (by decide)) (g := (mkF m 13 #[rv t, iv 0, iv n] [(.int n), (.int 0), (.ref t)])) rfl (by rw [hml]; rfl) (argsL := [(.ref t), (.int 0), (.int n)]) (rest := []) (lenOf pd__28_5bBII_29_5bB rfl) rfl (by show 2 * 0 + _ ≤ _; exact Nat.le_of_eq rfl) (hb hby d40_13) (fun _ _ => ⟨rfl, e0, (by decide : 0 + 1 ≤ _), (by decide : 0 + 16 ≤ _)⟩)
  dsimp only [Pt.U, Pt.locs, Pt.cells, Pt.slots] at X2 l2 y2 z2 st2 hQ2
  subst l2 y2 z2
  obtain ⟨b3, x4, rfl, Nq2, P5, P6, P7⟩ := hQ2
  have N2 := Fr.app N0 Nq2
  have ne8 : t ≠ b3 := Nat.ne_of_lt (Nat.lt_of_lt_of_le At.lt P6)
  have g9 : n0 ≤ b3 := Nat.le_trans O0.le P6
  have z10 : h0.size ≤ b3 := Nat.le_trans K0.1 P6
  have F11 := At.keep P5 nin0
  have O12 := O0.keep P5 all0
  have K13 := K0.trans P5 all0
  refine own_G.st (T' := T2) 16 [(.ref b3)] (fun _ kq => st2 _ kq) ?_
  exact own_ret X2 rfl (v := some (.ref b3)) (fun h => by rw [Bd.returns] at h; cases h) Bd.notSynchronized ⟨b3, x4, rfl, N2, K13, z10, P7⟩ (by decide) (by decide) (fun fs hr => own_retR X2 hx Bd.returns rfl rfl (hb hby d40_16) hr)
theorem pd__28_29_5bB : parseMethodDescriptor "()[B" = some ⟨[], some (.array .byte)⟩ := by decide +kernel
theorem d36_0 : decode jdk_42_method_150_code 0 = .ok (.aload_n 0, 1) := by decide +kernel
theorem d36_1 : decode jdk_42_method_150_code 1 = .ok (.invokespecial 1, 3) := by decide +kernel
theorem d36_4 : decode jdk_42_method_150_code 4 = .ok (.aload_n 1, 1) := by decide +kernel
theorem d36_5 : decode jdk_42_method_150_code 5 = .ok (.invokevirtual 552, 3) := by decide +kernel
theorem d36_8 : decode jdk_42_method_150_code 8 = .ok (.astore_n 3, 1) := by decide +kernel
theorem d36_9 : decode jdk_42_method_150_code 9 = .ok (.aload_n 1, 1) := by decide +kernel
theorem d36_10 : decode jdk_42_method_150_code 10 = .ok (.invokevirtual 549, 3) := by decide +kernel
theorem d36_13 : decode jdk_42_method_150_code 13 = .ok (.istore 4, 2) := by decide +kernel
theorem d36_15 : decode jdk_42_method_150_code 15 = .ok (.aload_n 1, 1) := by decide +kernel
theorem d36_16 : decode jdk_42_method_150_code 16 = .ok (.invokevirtual 1047, 3) := by decide +kernel
theorem d36_19 : decode jdk_42_method_150_code 19 = .ok (.ifCond .eq 22, 3) := by decide +kernel
theorem d36_22 : decode jdk_42_method_150_code 22 = .ok (.aload_n 0, 1) := by decide +kernel
theorem d36_23 : decode jdk_42_method_150_code 23 = .ok (.iconst 0, 1) := by decide +kernel
theorem d36_24 : decode jdk_42_method_150_code 24 = .ok (.putfield 15, 3) := by decide +kernel
theorem d36_27 : decode jdk_42_method_150_code 27 = .ok (.aload_n 0, 1) := by decide +kernel
theorem d36_28 : decode jdk_42_method_150_code 28 = .ok (.aload_n 3, 1) := by decide +kernel
theorem d36_29 : decode jdk_42_method_150_code 29 = .ok (.iconst 0, 1) := by decide +kernel
theorem d36_30 : decode jdk_42_method_150_code 30 = .ok (.iload 4, 2) := by decide +kernel
theorem d36_32 : decode jdk_42_method_150_code 32 = .ok (.invokestatic 54, 3) := by decide +kernel
theorem d36_35 : decode jdk_42_method_150_code 35 = .ok (.putfield 9, 3) := by decide +kernel
theorem d36_38 : decode jdk_42_method_150_code 38 = .ok (.goto 59, 3) := by decide +kernel
theorem d36_97 : decode jdk_42_method_150_code 97 = .ok (.return_, 1) := by decide +kernel
theorem ef_strasb (m : MethodId) (a : Addr) (sb : Addr) : entryFrame m #[(.ref a), (.ref sb), .null] 5 = mkF m 0 #[rv a, rv sb, .val .null, .unset, .unset] [] := by
  first | (simp [entryFrame, mkF, argsToLocals, Value.category]; done) | rfl
def Q_strasb (Z : State) (a : Addr) (sb : Addr) (csz : Int32) (t : Addr) (n : Int32) (kb : ClassId) (xs : List Int32) (h0 : Heap) (n0 : Nat) (v : Option Value) (h : Heap) (L : List Loc) : Prop := ∃ (r : Addr), ∃ (kr : ClassId), v = none ∧ Fr n0 L ∧ Keep h0 h [a] ∧ h0.size ≤ r ∧ Exa Z h a "java/lang/String" ∧ Fld Z h a "java/lang/String" "value" "[B" (.ref r) ∧ Fld Z h a "java/lang/String" "coder" "B" (.int 0) ∧ Arv Z h r kr .byte n (own_B xs) (.int 0)
set_option maxRecDepth 65536 in
set_option maxHeartbeats 40000000 in
theorem rm_strasb (l : Launch) (Z : State) (a0 : Array Value) (hw : ∀ d ∈ tables_1, d.before a0 Z = true) (ws : List Jvm.Cond) (a : Addr) (sb : Addr) (csz : Int32) (t : Addr) (n : Int32) (kb : ClassId) (xs : List Int32) (h0 : Heap) (n0 : Nat) (O0 : Old Z n0 h0) (S_CS : Sta Z Z.heap "java/lang/String" "COMPACT_STRINGS" "Z" (.int csz)) (hcs : ¬ csz = (0 : Int32)) (Ea : Exa Z h0 a "java/lang/String") (Fv : Fld Z h0 a "java/lang/String" "value" "[B" .null) (Fc : Fld Z h0 a "java/lang/String" "coder" "B" (.int 0)) (ga : n0 ≤ a) (nes : a ≠ sb) (net : a ≠ t) (Es : Exa Z h0 sb "java/lang/StringBuilder") (Gv : Fld Z h0 sb "java/lang/AbstractStringBuilder" "value" "[B" (.ref t)) (Gc : Fld Z h0 sb "java/lang/AbstractStringBuilder" "coder" "B" (.int 0)) (Gn : Fld Z h0 sb "java/lang/AbstractStringBuilder" "count" "I" (.int n)) (At : Arv Z h0 t kb .byte (16 : Int32) (own_B xs) (.int 0)) (hn : n.toInt = (xs.length : Int)) (hx16 : xs.length < 16) :
    MetFree l own_y30 (head1 (Jvm.Cond.code own_y30 jdk_42_method_150_code 5 none :: ws) ({ frames := 3, cells := 1, slots := 16, locals := 49 } : Room)) (fun aq_ Uq_ => aq_ = #[(.ref a), (.ref sb), .null] ∧ Z.Warmed39 Uq_.vm ∧ Uq_.heap = h0) (fun _ _ _ _ _ => True) (fun _ Uq_ oq_ Ur_ => ∃ vq_ Lq_, oq_ = .returned vq_ ∧ Q_strasb Z a sb csz t n kb xs h0 n0 vq_ Ur_.heap Lq_ ∧ FrameEnd Uq_ oq_ Ur_ Lq_ ({ frames := 3, cells := 1, slots := 16, locals := 49 } : Room).cells ({ frames := 3, cells := 1, slots := 16, locals := 49 } : Room).slots) := by
  refine MetFree.of_bodySF (plainFor_of_name pn_java_2flang_2fString) hisR ?_
  intro p e s m args below meth c s₁ Bd hml0 hP hK
  obtain ⟨rfl, hZ, hh⟩ := hP
  have W_ : ∀ {d : Jvm.Cond} (i : Nat), tables_1[i]? = some d → d.before a0 Z = true := fun i h => hw _ (List.mem_of_getElem? h)
  have hx := Bd.exec
  have hby := Bd.bytes
  have hml : c.maxLocals = 5 := hml0
  have hown : s.vm.findClass "java/lang/String" = some m.cls := findClass_of_methodNamed Bd.named
  have hnm := (name_of_methodNamed Bd.named Bd.method).1
  have X0 : Stand p l e ({ frames := 3, cells := 1, slots := 16, locals := 49 } : Room) s m #[(.ref a), (.ref sb), .null] below meth c s₁ [] 0 0 := Stand.of_body Bd
  have e0 : s₁.heap = h0 := by rw [← hh, Bd.state]; rfl
  have N0 := Fr.nil n0
  have K0 := Keep.refl h0 [a]
  refine own_G.start (Q := Q_strasb Z a sb csz t n kb xs h0 n0) (ef_strasb m a sb) ?_
  refine own_G.sk 1 [(.ref a)] (fun _ kq => XS.aloadN X0.here hx rfl (hb hby d36_0) rfl rfl kq) ?_
  obtain ⟨T1, X1, e1, st1⟩ := initO X0 hx hZ hown (W_ 16 rfl) (W_ 17 rfl) (W_ 18 rfl) e0 (g := (mkF m 1 #[rv a, rv sb, .val .null, .unset, .unset] [(.ref a)])) rfl (by rw [hml]; rfl) rfl (hb hby d36_1) (by decide) (W := 0) (by show 2 * 0 + _ ≤ _; exact Nat.le_of_eq rfl) (by decide)
  refine own_G.st (T' := T1) 4 [] st1 ?_
  refine own_G.sk 5 [(.ref sb)] (fun _ kq => XS.aloadN X1.here hx rfl (hb hby d36_4) rfl rfl kq) ?_
  obtain ⟨cq2, kq2, q2a, q2b, q2c⟩ := isOf hZ e1 Es
  obtain ⟨_, _, ⟨T2, L2, k2, n2⟩, -, X2, ⟨Lc2, hQ2, l2, y2, z2⟩, st2⟩ := X1.virtualBack hx (y := own_y12) (z := own_y12) hown (mvT hZ (W_ 200 rfl)) (mvT hZ (W_ 201 rfl)) (notFace_of_selects (args := #[]) (mvT hZ (W_ 203 rfl))) (mvT hZ (W_ 203 rfl)) (mvT hZ (W_ 202 rfl)) (by decide) (backOf (W := 0) (rm_getval l Z a0 hw [] sb t h0 n0 O0 Gv) hZ (W_ 204 rfl) (W_ 116 rfl) (by decide) (by decide)) q2a q2c (g := (mkF m 5 #[rv a, rv sb, .val .null, .unset, .unset] [(.ref sb)])) rfl (by rw [hml]; rfl) (Steps.refl _) (argsL := []) (rest := []) (lenOf pd__28_29_5bB rfl) rfl (by show 2 * 0 + _ ≤ _; exact Nat.le_of_eq rfl) (hb hby d36_5) (fun _ _ => ⟨rfl, e1, (by decide : 0 + 0 ≤ _), (by decide : 0 + 0 ≤ _)⟩)
  dsimp only [Pt.U, Pt.locs, Pt.cells, Pt.slots] at X2 l2 y2 z2 st2 hQ2
  subst l2 y2 z2
  obtain ⟨rfl, Nq2, P3⟩ := hQ2
  have N2 := Fr.app N0 Nq2
  refine own_G.st (T' := T2) 8 [(.ref t)] (fun _ kq => st2.trans kq) ?_
  refine own_G.si 9 [] (fun _ kq => XS.astoreN X2.here hx rfl (hb hby d36_8) rfl rfl (l' := #[rv a, rv sb, .val .null, rv t, .unset]) rfl kq) ?_
  refine own_G.sk 10 [(.ref sb)] (fun _ kq => XS.aloadN X2.here hx rfl (hb hby d36_9) rfl rfl kq) ?_
  obtain ⟨cq4, kq4, q4a, q4b, q4c⟩ := isOf hZ P3 Es
  obtain ⟨_, _, ⟨T4, L4, k4, n4⟩, -, X4, ⟨Lc4, hQ4, l4, y4, z4⟩, st4⟩ := X2.virtualBack hx (y := own_y13) (z := own_y14) hown (mvT hZ (W_ 205 rfl)) (mvT hZ (W_ 206 rfl)) (own_nf (args := #[]) (mvT hZ (W_ 144 rfl)) rfl) (mvT hZ (W_ 208 rfl)) (mvT hZ (W_ 209 rfl)) (by decide) (backOf (W := 0) (rm_sblen l Z a0 hw [] sb n h0 n0 O0 Es Gn) hZ (W_ 210 rfl) (W_ 108 rfl) (by decide) (by decide)) q4a q4c (g := (mkF m 10 #[rv a, rv sb, .val .null, rv t, .unset] [(.ref sb)])) rfl (by rw [hml]; rfl) (Steps.refl _) (argsL := []) (rest := []) (lenOf pd__28_29I rfl) rfl (by show 2 * 0 + _ ≤ _; exact Nat.le_of_eq rfl) (hb hby d36_10) (fun _ _ => ⟨rfl, P3, (by decide : 0 + 0 ≤ _), (by decide : 0 + 0 ≤ _)⟩)
  dsimp only [Pt.U, Pt.locs, Pt.cells, Pt.slots] at X4 l4 y4 z4 st4 hQ4
  subst l4 y4 z4
  obtain ⟨rfl, Nq4, P5⟩ := hQ4
  have N4 := Fr.app N2 Nq4
  refine own_G.st (T' := T4) 13 [(.int n)] (fun _ kq => st4.trans kq) ?_
  refine own_G.si 15 [] (fun _ kq => XS.istore X4.here hx rfl (hb hby d36_13) rfl (l' := #[rv a, rv sb, .val .null, rv t, iv n]) rfl kq) ?_
  refine own_G.sk 16 [(.ref sb)] (fun _ kq => XS.aloadN X4.here hx rfl (hb hby d36_15) rfl rfl kq) ?_
  obtain ⟨cq6, kq6, q6a, q6b, q6c⟩ := isOf hZ P5 Es
  obtain ⟨_, _, ⟨T6, L6, k6, n6⟩, -, X6, ⟨Lc6, hQ6, l6, y6, z6⟩, st6⟩ := X4.virtualBack hx (y := own_y15) (z := own_y15) hown (mvT hZ (W_ 213 rfl)) (mvT hZ (W_ 180 rfl)) (notFace_of_selects (args := #[]) (mvT hZ (W_ 182 rfl))) (mvT hZ (W_ 182 rfl)) (mvT hZ (W_ 181 rfl)) (by decide) (backOf (W := 0) (rm_asblat l Z a0 hw [] sb csz h0 n0 O0 S_CS hcs Gc) hZ (W_ 183 rfl) (W_ 116 rfl) (by decide) (by decide)) q6a q6c (g := (mkF m 16 #[rv a, rv sb, .val .null, rv t, iv n] [(.ref sb)])) rfl (by rw [hml]; rfl) (Steps.refl _) (argsL := []) (rest := []) (lenOf pd__28_29Z rfl) rfl (by show 2 * 0 + _ ≤ _; exact Nat.le_of_eq rfl) (hb hby d36_16) (fun _ _ => ⟨rfl, P5, (by decide : 0 + 0 ≤ _), (by decide : 0 + 0 ≤ _)⟩)
  dsimp only [Pt.U, Pt.locs, Pt.cells, Pt.slots] at X6 l6 y6 z6 st6 hQ6
  subst l6 y6 z6
  obtain ⟨rfl, Nq6, P7⟩ := hQ6
  have N6 := Fr.app N4 Nq6
  refine own_G.st (T' := T6) 19 [(.int 1)] (fun _ kq => st6.trans kq) ?_
  have hc19 : ¬ ((1 : Int32) = (0 : Int32)) := (by decide)
  refine own_G.sk 22 [] (fun _ kq => XS.ifNo X6.here hx rfl (hb hby d36_19) rfl ((if0 _ _).trans (feq hc19).1) kq) ?_
  refine own_G.sk 23 [(.ref a)] (fun _ kq => XS.aloadN X6.here hx rfl (hb hby d36_22) rfl rfl kq) ?_
  refine own_G.sk 24 [(.int 0), (.ref a)] (fun _ kq => XS.iconst X6.here hx rfl (hb hby d36_23) kq) ?_
  obtain ⟨T8, h8, X8, e8, W8, st8⟩ := putFN X6 hx hZ hown (W_ 31 rfl) Via.refl P7 Fc Ea (Or.inr ⟨(W_ 32 rfl), rfl, hnm⟩) (W_ 7 rfl) (ty := .byte) (v' := (.int (nar .byte (0 : Int32)))) (by decide) rfl (fits_nar_byte _) (g := (mkF m 24 #[rv a, rv sb, .val .null, rv t, iv n] [(.int 0), (.ref a)])) rfl rfl (hb hby d36_24)
  have N8 := Fr.snoc X8 N6 ga
  have F9 := Ea.wr W8
  have F10 := Fv.other W8 (Or.inr (slot_ne (Or.inr (W_ 34 rfl)) (Or.inr (W_ 32 rfl)) (by decide) (t := (.array .byte)) (t' := .byte) (by decide) (by decide)))
  have F11 := Fc.same W8
  have F12 := Es.wr W8
  have F13 := Gv.other W8 (Or.inl (Ne.symm nes))
  have F14 := Gc.other W8 (Or.inl (Ne.symm nes))
  have F15 := Gn.other W8 (Or.inl (Ne.symm nes))
  have F16 := At.other W8 (Ne.symm net)
  have O17 := O0.wr W8 ga
  have K18 := K0.wr W8 (Or.inl (List.mem_of_getElem? (i := 0) rfl))
  refine own_G.st (T' := T8) 27 [] st8 ?_
  refine own_G.sk 28 [(.ref a)] (fun _ kq => XS.aloadN X8.here hx rfl (hb hby d36_27) rfl rfl kq) ?_
  refine own_G.sk 29 [(.ref t), (.ref a)] (fun _ kq => XS.aloadN X8.here hx rfl (hb hby d36_28) rfl rfl kq) ?_
  refine own_G.sk 30 [(.int 0), (.ref t), (.ref a)] (fun _ kq => XS.iconst X8.here hx rfl (hb hby d36_29) kq) ?_
  refine own_G.sk 32 [(.int n), (.int 0), (.ref t), (.ref a)] (fun _ kq => XS.iload X8.here hx rfl (hb hby d36_30) rfl kq) ?_
  obtain ⟨_, _, ⟨T19, L19, k19, n19⟩, -, X19, ⟨Lc19, hQ19, l19, y19, z19⟩, st19⟩ := Jvm.LawKit.callS X8 hx (y := own_y29) hown (mvT hZ (W_ 214 rfl)) (mvT hZ (W_ 215 rfl)) (mvT hZ (W_ 216 rfl)) (mvT hZ (W_ 217 rfl)) (by decide) (backOf (W := 1) (rm_cor l Z a0 hw [] t n kb xs h8 n0 O17 F16 hn hx16) hZ (W_ 217 rfl) (W_ 216 rfl) (by decide) (by decide)) (g := (mkF m 32 #[rv a, rv sb, .val .null, rv t, iv n] [(.int n), (.int 0), (.ref t), (.ref a)])) rfl (by rw [hml]; rfl) (argsL := [(.ref t), (.int 0), (.int n)]) (rest := [(.ref a)]) (lenOf pd__28_5bBII_29_5bB rfl) rfl (by show 2 * 0 + _ ≤ _; exact Nat.le_of_eq rfl) (hb hby d36_32) (fun _ _ => ⟨rfl, e8, (by decide : 0 + 1 ≤ _), (by decide : 0 + 16 ≤ _)⟩)
  dsimp only [Pt.U, Pt.locs, Pt.cells, Pt.slots] at X19 l19 y19 z19 st19 hQ19
  subst l19 y19 z19
  obtain ⟨b20, x21, rfl, Nq19, P22, P23, P24⟩ := hQ19
  have N19 := Fr.app N8 Nq19
  have ne25 : a ≠ b20 := Nat.ne_of_lt (Nat.lt_of_lt_of_le F9.lt P23)
  have ne26 : sb ≠ b20 := Nat.ne_of_lt (Nat.lt_of_lt_of_le F12.lt P23)
  have ne27 : t ≠ b20 := Nat.ne_of_lt (Nat.lt_of_lt_of_le F16.lt P23)
  have g28 : n0 ≤ b20 := Nat.le_trans O17.le P23
  have z29 : h0.size ≤ b20 := Nat.le_trans K18.1 P23
  have F30 := F9.keep P22
  have F31 := F10.keep P22 nin0
  have F32 := F11.keep P22 nin0
  have F33 := F12.keep P22
  have F34 := F13.keep P22 nin0
  have F35 := F14.keep P22 nin0
  have F36 := F15.keep P22 nin0
  have F37 := F16.keep P22 nin0
  have O38 := O17.keep P22 all0
  have K39 := K18.trans P22 all0
  refine own_G.st (T' := T19) 35 [(.ref b20), (.ref a)] (fun _ kq => st19 _ kq) ?_
  obtain ⟨T40, h40, X40, e40, W40, st40⟩ := putF X19 hx hZ hown (host := "") (Or.inl (W_ 33 rfl)) Via.refl rfl F31 F30 (Or.inr ⟨(W_ 34 rfl), rfl, hnm⟩) (W_ 7 rfl) (ty := (.array .byte)) (by decide) rfl rfl (g := (mkF m 35 #[rv a, rv sb, .val .null, rv t, iv n] [(.ref b20), (.ref a)])) rfl rfl (hb hby d36_35)
  have N40 := Fr.snoc X40 N19 ga
  have F41 := F30.wr W40
  have F42 := F31.same W40
  have F43 := F32.other W40 (Or.inr (slot_ne (Or.inr (W_ 32 rfl)) (Or.inr (W_ 34 rfl)) (by decide) (t := .byte) (t' := (.array .byte)) (by decide) (by decide)))
  have F44 := F33.wr W40
  have F45 := F34.other W40 (Or.inl (Ne.symm nes))
  have F46 := F35.other W40 (Or.inl (Ne.symm nes))
  have F47 := F36.other W40 (Or.inl (Ne.symm nes))
  have F48 := F37.other W40 (Ne.symm net)
  have F49 := P24.other W40 (Ne.symm ne25)
  have O50 := O38.wr W40 ga
  have K51 := K39.wr W40 (Or.inl (List.mem_of_getElem? (i := 0) rfl))
  refine own_G.st (T' := T40) 38 [] st40 ?_
  refine own_G.sk 97 [] (fun _ kq => XS.goto X40.here hx rfl (pc0 := 38) (pc' := 97) rfl (hb hby d36_38) (by decide) (by decide) kq) ?_
  exact own_ret X40 e40 (v := none) (fun _ => rfl) Bd.notSynchronized ⟨b20, x21, rfl, N40, K51, z29, F41, F42, F43, F49⟩ (by decide) (by decide) (fun fs hr => X40.returnOut hx Bd.returns (hb hby d36_97) hr)
theorem pd__28Ljava_2flang_2fAbstractStringBuilder_3bLjava_2flang_2fVoid_3b_29V : parseMethodDescriptor "(Ljava/lang/AbstractStringBuilder;Ljava/lang/Void;)V" = some ⟨[(.object "java/lang/AbstractStringBuilder"), (.object "java/lang/Void")], none⟩ := by decide +kernel
theorem d35_0 : decode jdk_42_method_53_code 0 = .ok (.aload_n 0, 1) := by decide +kernel
theorem d35_1 : decode jdk_42_method_53_code 1 = .ok (.aload_n 1, 1) := by decide +kernel
theorem d35_2 : decode jdk_42_method_53_code 2 = .ok (.aconst_null, 1) := by decide +kernel
theorem d35_3 : decode jdk_42_method_53_code 3 = .ok (.invokespecial 489, 3) := by decide +kernel
theorem d35_6 : decode jdk_42_method_53_code 6 = .ok (.return_, 1) := by decide +kernel
theorem ef_strsb (m : MethodId) (a : Addr) (sb : Addr) : entryFrame m #[(.ref a), (.ref sb)] 2 = mkF m 0 #[rv a, rv sb] [] := by
  first | (simp [entryFrame, mkF, argsToLocals, Value.category]; done) | rfl
def Q_strsb (Z : State) (a : Addr) (sb : Addr) (csz : Int32) (t : Addr) (n : Int32) (kb : ClassId) (xs : List Int32) (h0 : Heap) (n0 : Nat) (v : Option Value) (h : Heap) (L : List Loc) : Prop := ∃ (r : Addr), ∃ (kr : ClassId), v = none ∧ Fr n0 L ∧ Keep h0 h [a] ∧ h0.size ≤ r ∧ Exa Z h a "java/lang/String" ∧ Fld Z h a "java/lang/String" "value" "[B" (.ref r) ∧ Fld Z h a "java/lang/String" "coder" "B" (.int 0) ∧ Arv Z h r kr .byte n (own_B xs) (.int 0)
set_option maxRecDepth 65536 in
set_option maxHeartbeats 40000000 in
theorem rm_strsb (l : Launch) (Z : State) (a0 : Array Value) (hw : ∀ d ∈ tables_1, d.before a0 Z = true) (ws : List Jvm.Cond) (a : Addr) (sb : Addr) (csz : Int32) (t : Addr) (n : Int32) (kb : ClassId) (xs : List Int32) (h0 : Heap) (n0 : Nat) (O0 : Old Z n0 h0) (S_CS : Sta Z Z.heap "java/lang/String" "COMPACT_STRINGS" "Z" (.int csz)) (hcs : ¬ csz = (0 : Int32)) (Ea : Exa Z h0 a "java/lang/String") (Fv : Fld Z h0 a "java/lang/String" "value" "[B" .null) (Fc : Fld Z h0 a "java/lang/String" "coder" "B" (.int 0)) (ga : n0 ≤ a) (nes : a ≠ sb) (net : a ≠ t) (Es : Exa Z h0 sb "java/lang/StringBuilder") (Gv : Fld Z h0 sb "java/lang/AbstractStringBuilder" "value" "[B" (.ref t)) (Gc : Fld Z h0 sb "java/lang/AbstractStringBuilder" "coder" "B" (.int 0)) (Gn : Fld Z h0 sb "java/lang/AbstractStringBuilder" "count" "I" (.int n)) (At : Arv Z h0 t kb .byte (16 : Int32) (own_B xs) (.int 0)) (hn : n.toInt = (xs.length : Int)) (hx16 : xs.length < 16) :
    MetFree l own_y31 (head1 (Jvm.Cond.code own_y31 jdk_42_method_53_code 2 none :: ws) ({ frames := 4, cells := 1, slots := 16, locals := 65 } : Room)) (fun aq_ Uq_ => aq_ = #[(.ref a), (.ref sb)] ∧ Z.Warmed39 Uq_.vm ∧ Uq_.heap = h0) (fun _ _ _ _ _ => True) (fun _ Uq_ oq_ Ur_ => ∃ vq_ Lq_, oq_ = .returned vq_ ∧ Q_strsb Z a sb csz t n kb xs h0 n0 vq_ Ur_.heap Lq_ ∧ FrameEnd Uq_ oq_ Ur_ Lq_ ({ frames := 4, cells := 1, slots := 16, locals := 65 } : Room).cells ({ frames := 4, cells := 1, slots := 16, locals := 65 } : Room).slots) := by
  refine MetFree.of_bodySF (plainFor_of_name pn_java_2flang_2fString) hisR ?_
  intro p e s m args below meth c s₁ Bd hml0 hP hK
  obtain ⟨rfl, hZ, hh⟩ := hP
  have W_ : ∀ {d : Jvm.Cond} (i : Nat), tables_1[i]? = some d → d.before a0 Z = true := fun i h => hw _ (List.mem_of_getElem? h)
  have hx := Bd.exec
  have hby := Bd.bytes
  have hml : c.maxLocals = 2 := hml0
  have hown : s.vm.findClass "java/lang/String" = some m.cls := findClass_of_methodNamed Bd.named
  have hnm := (name_of_methodNamed Bd.named Bd.method).1
  have X0 : Stand p l e ({ frames := 4, cells := 1, slots := 16, locals := 65 } : Room) s m #[(.ref a), (.ref sb)] below meth c s₁ [] 0 0 := Stand.of_body Bd
  have e0 : s₁.heap = h0 := by rw [← hh, Bd.state]; rfl
  have N0 := Fr.nil n0
  have K0 := Keep.refl h0 [a]
  refine own_G.start (Q := Q_strsb Z a sb csz t n kb xs h0 n0) (ef_strsb m a sb) ?_
  refine own_G.sk 1 [(.ref a)] (fun _ kq => XS.aloadN X0.here hx rfl (hb hby d35_0) rfl rfl kq) ?_
  refine own_G.sk 2 [(.ref sb), (.ref a)] (fun _ kq => XS.aloadN X0.here hx rfl (hb hby d35_1) rfl rfl kq) ?_
  refine own_G.sk 3 [.null, (.ref sb), (.ref a)] (fun _ kq => XS.aconstNull X0.here hx rfl (hb hby d35_2) kq) ?_
  obtain ⟨_, _, ⟨T1, L1, k1, n1⟩, -, X1, ⟨Lc1, hQ1, l1, y1, z1⟩, st1⟩ := X0.specialBack hx (y := own_y30) rfl hown (mvT hZ (W_ 197 rfl)) (mvT hZ (W_ 198 rfl)) (mvT hZ (W_ 199 rfl)) (by decide) (backOf (W := 0) (rm_strasb l Z a0 hw [] a sb csz t n kb xs h0 n0 O0 S_CS hcs Ea Fv Fc ga nes net Es Gv Gc Gn At hn hx16) hZ (W_ 199 rfl) (W_ 8 rfl) (by decide) (by decide)) (g := (mkF m 3 #[rv a, rv sb] [.null, (.ref sb), (.ref a)])) rfl (by rw [hml]; rfl) (Steps.refl _) (a := a) (argsL := [(.ref sb), .null]) (rest := []) (lenOf pd__28Ljava_2flang_2fAbstractStringBuilder_3bLjava_2flang_2fVoid_3b_29V rfl) rfl (by show 2 * 0 + _ ≤ _; exact Nat.le_of_eq rfl) (hb hby d35_3) (fun _ _ => ⟨rfl, e0, (by decide : 0 + 1 ≤ _), (by decide : 0 + 16 ≤ _)⟩)
  dsimp only [Pt.U, Pt.locs, Pt.cells, Pt.slots] at X1 l1 y1 z1 st1 hQ1
  subst l1 y1 z1
  obtain ⟨b2, x3, rfl, Nq1, P4, P5, P6, P7, P8, P9⟩ := hQ1
  have N1 := Fr.app N0 Nq1
  have ne10 : a ≠ b2 := Nat.ne_of_lt (Nat.lt_of_lt_of_le Ea.lt P5)
  have ne11 : sb ≠ b2 := Nat.ne_of_lt (Nat.lt_of_lt_of_le Es.lt P5)
  have ne12 : t ≠ b2 := Nat.ne_of_lt (Nat.lt_of_lt_of_le At.lt P5)
  have g13 : n0 ≤ b2 := Nat.le_trans O0.le P5
  have z14 : h0.size ≤ b2 := Nat.le_trans K0.1 P5
  have F15 := Ea.keep P4
  have F16 := Es.keep P4
  have F17 := Gv.keep P4 (ninS (Ne.symm nes) nin0)
  have F18 := Gc.keep P4 (ninS (Ne.symm nes) nin0)
  have F19 := Gn.keep P4 (ninS (Ne.symm nes) nin0)
  have F20 := At.keep P4 (ninS (Ne.symm net) nin0)
  have O21 := O0.keep P4 (allS ga all0)
  have K22 := K0.trans P4 (allS (Or.inl (List.mem_of_getElem? (i := 0) rfl)) all0)
  refine own_G.st (T' := T1) 6 [] (fun _ kq => st1.trans kq) ?_
  exact own_ret X1 rfl (v := none) (fun _ => rfl) Bd.notSynchronized ⟨b2, x3, rfl, N1, K22, z14, P6, P7, P8, P9⟩ (by decide) (by decide) (fun fs hr => X1.returnOut hx Bd.returns (hb hby d35_6) hr)
theorem pd__28Ljava_2flang_2fStringBuilder_3b_29V : parseMethodDescriptor "(Ljava/lang/StringBuilder;)V" = some ⟨[(.object "java/lang/StringBuilder")], none⟩ := by decide +kernel
theorem d34_0 : decode jdk_67_method_42_code 0 = .ok (.new 18, 3) := by decide +kernel
theorem d34_3 : decode jdk_67_method_42_code 3 = .ok (.dup, 1) := by decide +kernel
theorem d34_4 : decode jdk_67_method_42_code 4 = .ok (.aload_n 0, 1) := by decide +kernel
theorem d34_5 : decode jdk_67_method_42_code 5 = .ok (.invokespecial 137, 3) := by decide +kernel
theorem d34_8 : decode jdk_67_method_42_code 8 = .ok (.areturn, 1) := by decide +kernel
theorem ef_sbstr (m : MethodId) (sb : Addr) : entryFrame m #[(.ref sb)] 1 = mkF m 0 #[rv sb] [] := by
  first | (simp [entryFrame, mkF, argsToLocals, Value.category]; done) | rfl
def Q_sbstr (Z : State) (sb : Addr) (csz : Int32) (t : Addr) (n : Int32) (kb : ClassId) (xs : List Int32) (h0 : Heap) (n0 : Nat) (v : Option Value) (h : Heap) (L : List Loc) : Prop := ∃ (q : Addr), ∃ (r : Addr), ∃ (kr : ClassId), v = some (.ref q) ∧ Fr n0 L ∧ Keep h0 h [] ∧ h0.size ≤ q ∧ h0.size ≤ r ∧ Exa Z h q "java/lang/String" ∧ Fld Z h q "java/lang/String" "value" "[B" (.ref r) ∧ Fld Z h q "java/lang/String" "coder" "B" (.int 0) ∧ Arv Z h r kr .byte n (own_B xs) (.int 0)
set_option maxRecDepth 65536 in
set_option maxHeartbeats 40000000 in
theorem rm_sbstr (l : Launch) (Z : State) (a0 : Array Value) (hw : ∀ d ∈ tables_1, d.before a0 Z = true) (ws : List Jvm.Cond) (sb : Addr) (csz : Int32) (t : Addr) (n : Int32) (kb : ClassId) (xs : List Int32) (h0 : Heap) (n0 : Nat) (O0 : Old Z n0 h0) (S_CS : Sta Z Z.heap "java/lang/String" "COMPACT_STRINGS" "Z" (.int csz)) (hcs : ¬ csz = (0 : Int32)) (Es : Exa Z h0 sb "java/lang/StringBuilder") (Gv : Fld Z h0 sb "java/lang/AbstractStringBuilder" "value" "[B" (.ref t)) (Gc : Fld Z h0 sb "java/lang/AbstractStringBuilder" "coder" "B" (.int 0)) (Gn : Fld Z h0 sb "java/lang/AbstractStringBuilder" "count" "I" (.int n)) (At : Arv Z h0 t kb .byte (16 : Int32) (own_B xs) (.int 0)) (hn : n.toInt = (xs.length : Int)) (hx16 : xs.length < 16) :
    MetFree l own_y32 (head1 (Jvm.Cond.code own_y32 jdk_67_method_42_code 1 (some (.object "java/lang/String")) :: ws) ({ frames := 5, cells := 2, slots := 20, locals := 79 } : Room)) (fun aq_ Uq_ => aq_ = #[(.ref sb)] ∧ Z.Warmed39 Uq_.vm ∧ Uq_.heap = h0) (fun _ _ _ _ _ => True) (fun _ Uq_ oq_ Ur_ => ∃ vq_ Lq_, oq_ = .returned vq_ ∧ Q_sbstr Z sb csz t n kb xs h0 n0 vq_ Ur_.heap Lq_ ∧ FrameEnd Uq_ oq_ Ur_ Lq_ ({ frames := 5, cells := 2, slots := 20, locals := 79 } : Room).cells ({ frames := 5, cells := 2, slots := 20, locals := 79 } : Room).slots) := by
  refine MetFree.of_bodySF (plainFor_of_name pn_java_2flang_2fStringBuilder) hisR ?_
  intro p e s m args below meth c s₁ Bd hml0 hP hK
  obtain ⟨rfl, hZ, hh⟩ := hP
  have W_ : ∀ {d : Jvm.Cond} (i : Nat), tables_1[i]? = some d → d.before a0 Z = true := fun i h => hw _ (List.mem_of_getElem? h)
  have hx := Bd.exec
  have hby := Bd.bytes
  have hml : c.maxLocals = 1 := hml0
  have hown : s.vm.findClass "java/lang/StringBuilder" = some m.cls := findClass_of_methodNamed Bd.named
  have hnm := (name_of_methodNamed Bd.named Bd.method).1
  have X0 : Stand p l e ({ frames := 5, cells := 2, slots := 20, locals := 79 } : Room) s m #[(.ref sb)] below meth c s₁ [] 0 0 := Stand.of_body Bd
  have e0 : s₁.heap = h0 := by rw [← hh, Bd.state]; rfl
  have N0 := Fr.nil n0
  have K0 := Keep.refl h0 []
  refine own_G.start (Q := Q_sbstr Z sb csz t n kb xs h0 n0) (ef_sbstr m sb) ?_
  obtain ⟨T1, h1, X1, e1, E1, A1, D1, -, st1⟩ := newO X0 hx hZ hown (W_ 193 rfl) (W_ 7 rfl) (W_ 8 rfl) e0 (g := (mkF m 0 #[rv sb] [])) rfl (hb hby d34_0) (by decide) (by decide)
  obtain ⟨b1, g1⟩ : ∃ z, z = h0.size := ⟨_, rfl⟩
  rw [← g1] at A1 D1 st1
  have ne2 : sb ≠ b1 := Nat.ne_of_lt (Nat.lt_of_lt_of_le Es.lt (Nat.le_of_eq g1.symm))
  have ne3 : t ≠ b1 := Nat.ne_of_lt (Nat.lt_of_lt_of_le At.lt (Nat.le_of_eq g1.symm))
  have g4 : n0 ≤ b1 := Nat.le_trans O0.le (Nat.le_of_eq g1.symm)
  have z5 : h0.size ≤ b1 := Nat.le_trans K0.1 (Nat.le_of_eq g1.symm)
  have F6 := Es.ext E1
  have F7 := Gv.ext E1
  have F8 := Gc.ext E1
  have F9 := Gn.ext E1
  have F10 := At.ext E1
  have O11 := O0.ext E1
  have K12 := K0.ext E1
  have F13 : Fld Z h1 b1 "java/lang/String" "coder" "B" (.int 0) := D1 (Or.inr (W_ 32 rfl)) (ty := .byte) (by decide)
  have F14 : Fld Z h1 b1 "java/lang/String" "value" "[B" .null := D1 (Or.inr (W_ 34 rfl)) (ty := (.array .byte)) (by decide)
  refine own_G.st (T' := T1) 3 [(.ref b1)] st1 ?_
  refine own_G.sk 4 [(.ref b1), (.ref b1)] (fun _ kq => XS.dup X1.here hx rfl (hb hby d34_3) rfl rfl kq) ?_
  refine own_G.sk 5 [(.ref sb), (.ref b1), (.ref b1)] (fun _ kq => XS.aloadN X1.here hx rfl (hb hby d34_4) rfl rfl kq) ?_
  obtain ⟨_, _, ⟨T15, L15, k15, n15⟩, -, X15, ⟨Lc15, hQ15, l15, y15, z15⟩, st15⟩ := X1.specialBack hx (y := own_y31) rfl hown (mvT hZ (W_ 194 rfl)) (mvT hZ (W_ 195 rfl)) (mvT hZ (W_ 196 rfl)) (by decide) (backOf (W := 1) (rm_strsb l Z a0 hw [] b1 sb csz t n kb xs h1 n0 O11 S_CS hcs A1 F14 F13 g4 (Ne.symm ne2) (Ne.symm ne3) F6 F7 F8 F9 F10 hn hx16) hZ (W_ 196 rfl) (W_ 8 rfl) (by decide) (by decide)) (g := (mkF m 5 #[rv sb] [(.ref sb), (.ref b1), (.ref b1)])) rfl (by rw [hml]; rfl) (Steps.refl _) (a := b1) (argsL := [(.ref sb)]) (rest := [(.ref b1)]) (lenOf pd__28Ljava_2flang_2fStringBuilder_3b_29V rfl) rfl (by show 2 * 0 + _ ≤ _; exact Nat.le_of_eq rfl) (hb hby d34_5) (fun _ _ => ⟨rfl, e1, (by decide : 1 + 1 ≤ _), (by decide : 4 + 16 ≤ _)⟩)
  dsimp only [Pt.U, Pt.locs, Pt.cells, Pt.slots] at X15 l15 y15 z15 st15 hQ15
  subst l15 y15 z15
  obtain ⟨b16, x17, rfl, Nq15, P18, P19, P20, P21, P22, P23⟩ := hQ15
  have N15 := Fr.app N0 Nq15
  have ne24 : sb ≠ b16 := Nat.ne_of_lt (Nat.lt_of_lt_of_le F6.lt P19)
  have ne25 : t ≠ b16 := Nat.ne_of_lt (Nat.lt_of_lt_of_le F10.lt P19)
  have ne26 : b1 ≠ b16 := Nat.ne_of_lt (Nat.lt_of_lt_of_le A1.lt P19)
  have g27 : n0 ≤ b16 := Nat.le_trans O11.le P19
  have z28 : h0.size ≤ b16 := Nat.le_trans K12.1 P19
  have F29 := F6.keep P18
  have F30 := F7.keep P18 (ninS ne2 nin0)
  have F31 := F8.keep P18 (ninS ne2 nin0)
  have F32 := F9.keep P18 (ninS ne2 nin0)
  have F33 := F10.keep P18 (ninS ne3 nin0)
  have F34 := A1.keep P18
  have O35 := O11.keep P18 (allS g4 all0)
  have K36 := K12.trans P18 (allS (Or.inr z5) all0)
  refine own_G.st (T' := T15) 8 [(.ref b1)] (fun _ kq => st15.trans kq) ?_
  exact own_ret X15 rfl (v := some (.ref b1)) (fun h => by rw [Bd.returns] at h; cases h) Bd.notSynchronized ⟨b1, b16, x17, rfl, N15, K36, z5, z28, P20, P21, P22, P23⟩ (by decide) (by decide) (fun fs hr => own_retR X15 hx Bd.returns rfl rfl (hb hby d34_8) hr)
theorem d19_0 : decode jdk_43_method_25_code 0 = .ok (.aload_n 2, 1) := by decide +kernel
theorem d19_1 : decode jdk_43_method_25_code 1 = .ok (.iconst 0, 1) := by decide +kernel
theorem d19_2 : decode jdk_43_method_25_code 2 = .ok (.baload, 1) := by decide +kernel
theorem d19_3 : decode jdk_43_method_25_code 3 = .ok (.istore 5, 2) := by decide +kernel
theorem d19_5 : decode jdk_43_method_25_code 5 = .ok (.iload_n 1, 1) := by decide +kernel
theorem d19_6 : decode jdk_43_method_25_code 6 = .ok (.iload_n 3, 1) := by decide +kernel
theorem d19_7 : decode jdk_43_method_25_code 7 = .ok (.isub, 1) := by decide +kernel
theorem d19_8 : decode jdk_43_method_25_code 8 = .ok (.istore 6, 2) := by decide +kernel
theorem d19_10 : decode jdk_43_method_25_code 10 = .ok (.iload 4, 2) := by decide +kernel
theorem d19_12 : decode jdk_43_method_25_code 12 = .ok (.istore 7, 2) := by decide +kernel
theorem d19_14 : decode jdk_43_method_25_code 14 = .ok (.iload 7, 2) := by decide +kernel
theorem d19_16 : decode jdk_43_method_25_code 16 = .ok (.iload 6, 2) := by decide +kernel
theorem d19_18 : decode jdk_43_method_25_code 18 = .ok (.if_icmp .gt 101, 3) := by decide +kernel
theorem d19_21 : decode jdk_43_method_25_code 21 = .ok (.aload_n 0, 1) := by decide +kernel
theorem d19_22 : decode jdk_43_method_25_code 22 = .ok (.iload 7, 2) := by decide +kernel
theorem d19_24 : decode jdk_43_method_25_code 24 = .ok (.baload, 1) := by decide +kernel
theorem d19_25 : decode jdk_43_method_25_code 25 = .ok (.iload 5, 2) := by decide +kernel
theorem d19_27 : decode jdk_43_method_25_code 27 = .ok (.if_icmp .eq 25, 3) := by decide +kernel
theorem d19_30 : decode jdk_43_method_25_code 30 = .ok (.iinc 7 1, 3) := by decide +kernel
theorem d19_33 : decode jdk_43_method_25_code 33 = .ok (.iload 7, 2) := by decide +kernel
theorem d19_35 : decode jdk_43_method_25_code 35 = .ok (.iload 6, 2) := by decide +kernel
theorem d19_37 : decode jdk_43_method_25_code 37 = .ok (.if_icmp .gt 15, 3) := by decide +kernel
theorem d19_40 : decode jdk_43_method_25_code 40 = .ok (.aload_n 0, 1) := by decide +kernel
theorem d19_41 : decode jdk_43_method_25_code 41 = .ok (.iload 7, 2) := by decide +kernel
theorem d19_43 : decode jdk_43_method_25_code 43 = .ok (.baload, 1) := by decide +kernel
theorem d19_44 : decode jdk_43_method_25_code 44 = .ok (.iload 5, 2) := by decide +kernel
theorem d19_46 : decode jdk_43_method_25_code 46 = .ok (.if_icmp .eq 6, 3) := by decide +kernel
theorem d19_49 : decode jdk_43_method_25_code 49 = .ok (.goto (-19), 3) := by decide +kernel
theorem d19_52 : decode jdk_43_method_25_code 52 = .ok (.iload 7, 2) := by decide +kernel
theorem d19_54 : decode jdk_43_method_25_code 54 = .ok (.iload 6, 2) := by decide +kernel
theorem d19_56 : decode jdk_43_method_25_code 56 = .ok (.if_icmp .gt 57, 3) := by decide +kernel
theorem d19_59 : decode jdk_43_method_25_code 59 = .ok (.iload 7, 2) := by decide +kernel
theorem d19_61 : decode jdk_43_method_25_code 61 = .ok (.iconst 1, 1) := by decide +kernel
theorem d19_62 : decode jdk_43_method_25_code 62 = .ok (.iadd, 1) := by decide +kernel
theorem d19_63 : decode jdk_43_method_25_code 63 = .ok (.istore 8, 2) := by decide +kernel
theorem d19_65 : decode jdk_43_method_25_code 65 = .ok (.iload 8, 2) := by decide +kernel
theorem d19_67 : decode jdk_43_method_25_code 67 = .ok (.iload_n 3, 1) := by decide +kernel
theorem d19_68 : decode jdk_43_method_25_code 68 = .ok (.iadd, 1) := by decide +kernel
theorem d19_69 : decode jdk_43_method_25_code 69 = .ok (.iconst 1, 1) := by decide +kernel
theorem d19_70 : decode jdk_43_method_25_code 70 = .ok (.isub, 1) := by decide +kernel
theorem d19_71 : decode jdk_43_method_25_code 71 = .ok (.istore 9, 2) := by decide +kernel
theorem d19_73 : decode jdk_43_method_25_code 73 = .ok (.iconst 1, 1) := by decide +kernel
theorem d19_74 : decode jdk_43_method_25_code 74 = .ok (.istore 10, 2) := by decide +kernel
theorem d19_76 : decode jdk_43_method_25_code 76 = .ok (.iload 8, 2) := by decide +kernel
theorem d19_78 : decode jdk_43_method_25_code 78 = .ok (.iload 9, 2) := by decide +kernel
theorem d19_80 : decode jdk_43_method_25_code 80 = .ok (.if_icmp .ge 23, 3) := by decide +kernel
theorem d19_103 : decode jdk_43_method_25_code 103 = .ok (.iload 8, 2) := by decide +kernel
theorem d19_105 : decode jdk_43_method_25_code 105 = .ok (.iload 9, 2) := by decide +kernel
theorem d19_107 : decode jdk_43_method_25_code 107 = .ok (.if_icmp .ne 6, 3) := by decide +kernel
theorem d19_110 : decode jdk_43_method_25_code 110 = .ok (.iload 7, 2) := by decide +kernel
theorem d19_112 : decode jdk_43_method_25_code 112 = .ok (.ireturn, 1) := by decide +kernel
theorem d19_113 : decode jdk_43_method_25_code 113 = .ok (.iinc 7 1, 3) := by decide +kernel
theorem d19_116 : decode jdk_43_method_25_code 116 = .ok (.goto (-102), 3) := by decide +kernel
theorem d19_119 : decode jdk_43_method_25_code 119 = .ok (.iconst (-1), 1) := by decide +kernel
theorem d19_120 : decode jdk_43_method_25_code 120 = .ok (.ireturn, 1) := by decide +kernel
theorem ef_idx5 (m : MethodId) (va : Addr) (mm : Int32) (wa : Addr) : entryFrame m #[(.ref va), (.int mm), (.ref wa), (.int 1), (.int 0)] 11 = mkF m 0 #[rv va, iv mm, rv wa, iv 1, iv 0, .unset, .unset, .unset, .unset, .unset, .unset] [] := by
  first | (simp [entryFrame, mkF, argsToLocals, Value.category]; done) | rfl
def Q_idx5 (Z : State) (va : Addr) (mm : Int32) (wa : Addr) (kv : ClassId) (xs : List Int32) (kw : ClassId) (h0 : Heap) (n0 : Nat) (v : Option Value) (h : Heap) (L : List Loc) : Prop := ∃ (r : Int32), v = some (.int r) ∧ Fr n0 L ∧ h = h0 ∧ ((58 : Int32) ∈ xs → ¬ r < (0 : Int32)) ∧ (¬ (58 : Int32) ∈ xs → r < (0 : Int32))
set_option maxRecDepth 65536 in
set_option maxHeartbeats 40000000 in
theorem rm_idx5 (l : Launch) (Z : State) (a0 : Array Value) (hw : ∀ d ∈ tables_1, d.before a0 Z = true) (ws : List Jvm.Cond) (va : Addr) (mm : Int32) (wa : Addr) (kv : ClassId) (xs : List Int32) (kw : ClassId) (h0 : Heap) (n0 : Nat) (O0 : Old Z n0 h0) (Av : Arv Z h0 va kv .byte mm (own_B xs) (.int 0)) (Aw : Arv Z h0 wa kw .byte (1 : Int32) (own_B [(58 : Int32)]) (.int 0)) (hL4 : own_L4 xs mm) :
    MetFree l own_y33 (head1 (Jvm.Cond.code own_y33 jdk_43_method_25_code 11 (some .int) :: ws) ({ frames := 0, cells := 0, slots := 0, locals := 0 } : Room)) (fun aq_ Uq_ => aq_ = #[(.ref va), (.int mm), (.ref wa), (.int 1), (.int 0)] ∧ Z.Warmed39 Uq_.vm ∧ Uq_.heap = h0) (fun _ _ _ _ _ => True) (fun _ Uq_ oq_ Ur_ => ∃ vq_ Lq_, oq_ = .returned vq_ ∧ Q_idx5 Z va mm wa kv xs kw h0 n0 vq_ Ur_.heap Lq_ ∧ FrameEnd Uq_ oq_ Ur_ Lq_ ({ frames := 0, cells := 0, slots := 0, locals := 0 } : Room).cells ({ frames := 0, cells := 0, slots := 0, locals := 0 } : Room).slots) := by
  refine MetFree.of_bodySF (plainFor_of_name pn_java_2flang_2fStringLatin1) hisR ?_
  intro p e s m args below meth c s₁ Bd hml0 hP hK
  obtain ⟨rfl, hZ, hh⟩ := hP
  have W_ : ∀ {d : Jvm.Cond} (i : Nat), tables_1[i]? = some d → d.before a0 Z = true := fun i h => hw _ (List.mem_of_getElem? h)
  have hx := Bd.exec
  have hby := Bd.bytes
  have hml : c.maxLocals = 11 := hml0
  have hown : s.vm.findClass "java/lang/StringLatin1" = some m.cls := findClass_of_methodNamed Bd.named
  have hnm := (name_of_methodNamed Bd.named Bd.method).1
  have X0 : Stand p l e ({ frames := 0, cells := 0, slots := 0, locals := 0 } : Room) s m #[(.ref va), (.int mm), (.ref wa), (.int 1), (.int 0)] below meth c s₁ [] 0 0 := Stand.of_body Bd
  have e0 : s₁.heap = h0 := by rw [← hh, Bd.state]; rfl
  have N0 := Fr.nil n0
  have K0 := Keep.refl h0 []
  refine own_G.start (Q := Q_idx5 Z va mm wa kv xs kw h0 n0) (ef_idx5 m va mm wa) ?_
  rcases hL4 with ⟨x0, rfl, rfl⟩ | ⟨x0, x1, rfl, rfl⟩ | ⟨x0, x1, x2, rfl, rfl⟩ | ⟨x0, x1, x2, x3, rfl, rfl⟩
  · refine own_G.sk 1 [(.ref wa)] (fun _ kq => XS.aloadN X0.here hx rfl (hb hby d19_0) rfl rfl kq) ?_
    refine own_G.sk 2 [(.int 0), (.ref wa)] (fun _ kq => XS.iconst X0.here hx rfl (hb hby d19_1) kq) ?_
    obtain ⟨cl1, Ar1, hin1, hat1⟩ := id (own_At.arv (i := (0 : Int32)) (b := (58 : Int32)) Aw ⟨by decide, by decide⟩ rfl)
    refine own_G.sk 3 [(.int 58)] (fun _ kq => X0.baloadBytes hx (j := (0 : Int32)) (v := (.int 58)) (by rw [e0]; exact Ar1.1) (State.isArrayOf_alike hZ.alike Ar1.2.1) Ar1.2.2 hin1 hat1 (g := (mkF m 2 #[rv va, iv 1, rv wa, iv 1, iv 0, .unset, .unset, .unset, .unset, .unset, .unset] [(.int 0), (.ref wa)])) rfl rfl (hb hby d19_2) _ kq) ?_
    refine own_G.si 5 [] (fun _ kq => XS.istore X0.here hx rfl (hb hby d19_3) rfl (l' := #[rv va, iv 1, rv wa, iv 1, iv 0, iv 58, .unset, .unset, .unset, .unset, .unset]) rfl kq) ?_
    refine own_G.sk 6 [(.int 1)] (fun _ kq => XS.iloadN X0.here hx rfl (hb hby d19_5) rfl kq) ?_
    refine own_G.sk 7 [(.int 1), (.int 1)] (fun _ kq => XS.iloadN X0.here hx rfl (hb hby d19_6) rfl kq) ?_
    refine own_G.sk 8 [(.int ((1 : Int32) - (1 : Int32)))] (fun _ kq => XS.isub X0.here hx rfl (hb hby d19_7) rfl kq) ?_
    refine own_G.si 10 [] (fun _ kq => XS.istore X0.here hx rfl (hb hby d19_8) rfl (l' := #[rv va, iv 1, rv wa, iv 1, iv 0, iv 58, .val (.int ((1 : Int32) - (1 : Int32))), .unset, .unset, .unset, .unset]) rfl kq) ?_
    have hl2 : ((1 : Int32) - (1 : Int32)) = (0 : Int32) := by decide
    refine own_G.cast (g' := (mkF m 10 #[rv va, iv 1, rv wa, iv 1, iv 0, iv 58, iv 0, .unset, .unset, .unset, .unset] [])) (by rw [hl2]) ?_
    refine own_G.sk 12 [(.int 0)] (fun _ kq => XS.iload X0.here hx rfl (hb hby d19_10) rfl kq) ?_
    refine own_G.si 14 [] (fun _ kq => XS.istore X0.here hx rfl (hb hby d19_12) rfl (l' := #[rv va, iv 1, rv wa, iv 1, iv 0, iv 58, iv 0, iv 0, .unset, .unset, .unset]) rfl kq) ?_
    refine own_G.sk 16 [(.int 0)] (fun _ kq => XS.iload X0.here hx rfl (hb hby d19_14) rfl kq) ?_
    refine own_G.sk 18 [(.int 0), (.int 0)] (fun _ kq => XS.iload X0.here hx rfl (hb hby d19_16) rfl kq) ?_
    have hc18 : ¬ ((0 : Int32) < (0 : Int32)) := (by decide)
    refine own_G.sk 21 [] (fun _ kq => XS.icmpNo X0.here hx rfl (hb hby d19_18) rfl (flt hc18).2.2.1 kq) ?_
    refine own_G.sk 22 [(.ref va)] (fun _ kq => XS.aloadN X0.here hx rfl (hb hby d19_21) rfl rfl kq) ?_
    refine own_G.sk 24 [(.int 0), (.ref va)] (fun _ kq => XS.iload X0.here hx rfl (hb hby d19_22) rfl kq) ?_
    obtain ⟨cl3, Ar3, hin3, hat3⟩ := id (own_At.arv (i := (0 : Int32)) (b := x0) Av ⟨by decide, by decide⟩ rfl)
    refine own_G.sk 25 [(.int x0)] (fun _ kq => X0.baloadBytes hx (j := (0 : Int32)) (v := (.int x0)) (by rw [e0]; exact Ar3.1) (State.isArrayOf_alike hZ.alike Ar3.2.1) Ar3.2.2 hin3 hat3 (g := (mkF m 24 #[rv va, iv 1, rv wa, iv 1, iv 0, iv 58, iv 0, iv 0, .unset, .unset, .unset] [(.int 0), (.ref va)])) rfl rfl (hb hby d19_24) _ kq) ?_
    refine own_G.sk 27 [(.int 58), (.int x0)] (fun _ kq => XS.iload X0.here hx rfl (hb hby d19_25) rfl kq) ?_
    rcases Classical.em (x0 = (58 : Int32)) with hx0 | hx0
    · refine own_G.sk 52 [] (fun _ kq => XS.icmpYes X0.here hx rfl (pc0 := 27) (pc' := 52) rfl (hb hby d19_27) rfl (teq hx0).1 (by decide) (by decide) kq) ?_
      refine own_G.sk 54 [(.int 0)] (fun _ kq => XS.iload X0.here hx rfl (hb hby d19_52) rfl kq) ?_
      refine own_G.sk 56 [(.int 0), (.int 0)] (fun _ kq => XS.iload X0.here hx rfl (hb hby d19_54) rfl kq) ?_
      have hc56 : ¬ ((0 : Int32) < (0 : Int32)) := (by decide)
      refine own_G.sk 59 [] (fun _ kq => XS.icmpNo X0.here hx rfl (hb hby d19_56) rfl (flt hc56).2.2.1 kq) ?_
      refine own_G.sk 61 [(.int 0)] (fun _ kq => XS.iload X0.here hx rfl (hb hby d19_59) rfl kq) ?_
      refine own_G.sk 62 [(.int 1), (.int 0)] (fun _ kq => XS.iconst X0.here hx rfl (hb hby d19_61) kq) ?_
      refine own_G.sk 63 [(.int ((0 : Int32) + (1 : Int32)))] (fun _ kq => XS.iadd X0.here hx rfl (hb hby d19_62) rfl kq) ?_
      refine own_G.si 65 [] (fun _ kq => XS.istore X0.here hx rfl (hb hby d19_63) rfl (l' := #[rv va, iv 1, rv wa, iv 1, iv 0, iv 58, iv 0, iv 0, .val (.int ((0 : Int32) + (1 : Int32))), .unset, .unset]) rfl kq) ?_
      have hl4 : ((0 : Int32) + (1 : Int32)) = (1 : Int32) := by decide
      refine own_G.cast (g' := (mkF m 65 #[rv va, iv 1, rv wa, iv 1, iv 0, iv 58, iv 0, iv 0, iv 1, .unset, .unset] [])) (by rw [hl4]) ?_
      refine own_G.sk 67 [(.int 1)] (fun _ kq => XS.iload X0.here hx rfl (hb hby d19_65) rfl kq) ?_
      refine own_G.sk 68 [(.int 1), (.int 1)] (fun _ kq => XS.iloadN X0.here hx rfl (hb hby d19_67) rfl kq) ?_
      refine own_G.sk 69 [(.int ((1 : Int32) + (1 : Int32)))] (fun _ kq => XS.iadd X0.here hx rfl (hb hby d19_68) rfl kq) ?_
      refine own_G.sk 70 [(.int 1), (.int ((1 : Int32) + (1 : Int32)))] (fun _ kq => XS.iconst X0.here hx rfl (hb hby d19_69) kq) ?_
      refine own_G.sk 71 [(.int (((1 : Int32) + (1 : Int32)) - (1 : Int32)))] (fun _ kq => XS.isub X0.here hx rfl (hb hby d19_70) rfl kq) ?_
      refine own_G.si 73 [] (fun _ kq => XS.istore X0.here hx rfl (hb hby d19_71) rfl (l' := #[rv va, iv 1, rv wa, iv 1, iv 0, iv 58, iv 0, iv 0, iv 1, .val (.int (((1 : Int32) + (1 : Int32)) - (1 : Int32))), .unset]) rfl kq) ?_
      have hl5 : (((1 : Int32) + (1 : Int32)) - (1 : Int32)) = (1 : Int32) := by decide
      refine own_G.cast (g' := (mkF m 73 #[rv va, iv 1, rv wa, iv 1, iv 0, iv 58, iv 0, iv 0, iv 1, iv 1, .unset] [])) (by rw [hl5]) ?_
      refine own_G.sk 74 [(.int 1)] (fun _ kq => XS.iconst X0.here hx rfl (hb hby d19_73) kq) ?_
      refine own_G.si 76 [] (fun _ kq => XS.istore X0.here hx rfl (hb hby d19_74) rfl (l' := #[rv va, iv 1, rv wa, iv 1, iv 0, iv 58, iv 0, iv 0, iv 1, iv 1, iv 1]) rfl kq) ?_
      refine own_G.sk 78 [(.int 1)] (fun _ kq => XS.iload X0.here hx rfl (hb hby d19_76) rfl kq) ?_
      refine own_G.sk 80 [(.int 1), (.int 1)] (fun _ kq => XS.iload X0.here hx rfl (hb hby d19_78) rfl kq) ?_
      have hc80 : ¬ ((1 : Int32) < (1 : Int32)) := (by decide)
      refine own_G.sk 103 [] (fun _ kq => XS.icmpYes X0.here hx rfl (pc0 := 80) (pc' := 103) rfl (hb hby d19_80) rfl (flt hc80).2.1 (by decide) (by decide) kq) ?_
      refine own_G.sk 105 [(.int 1)] (fun _ kq => XS.iload X0.here hx rfl (hb hby d19_103) rfl kq) ?_
      refine own_G.sk 107 [(.int 1), (.int 1)] (fun _ kq => XS.iload X0.here hx rfl (hb hby d19_105) rfl kq) ?_
      have hc107 : (1 : Int32) = (1 : Int32) := (by decide)
      refine own_G.sk 110 [] (fun _ kq => XS.icmpNo X0.here hx rfl (hb hby d19_107) rfl (teq hc107).2 kq) ?_
      refine own_G.sk 112 [(.int 0)] (fun _ kq => XS.iload X0.here hx rfl (hb hby d19_110) rfl kq) ?_
      exact own_ret X0 e0 (v := some (.int 0)) (fun h => by rw [Bd.returns] at h; cases h) Bd.notSynchronized ⟨(0 : Int32), rfl, N0, rfl, (fun _ => by decide), (fun q => absurd (by rw [hx0]; simp) q)⟩ (by decide) (by decide) (fun fs hr => retI X0 hx Bd.returns (hb hby d19_112) hr)
    · refine own_G.sk 30 [] (fun _ kq => XS.icmpNo X0.here hx rfl (hb hby d19_27) rfl (feq hx0).1 kq) ?_
      refine own_G.si 33 [] (fun _ kq => XS.iinc X0.here hx rfl (hb hby d19_30) rfl (l' := #[rv va, iv 1, rv wa, iv 1, iv 0, iv 58, iv 0, .val (.int ((0 : Int32) + (1 : Int32))), .unset, .unset, .unset]) rfl kq) ?_
      have hl6 : ((0 : Int32) + (1 : Int32)) = (1 : Int32) := by decide
      refine own_G.cast (g' := (mkF m 33 #[rv va, iv 1, rv wa, iv 1, iv 0, iv 58, iv 0, iv 1, .unset, .unset, .unset] [])) (by rw [hl6]) ?_
      refine own_G.sk 35 [(.int 1)] (fun _ kq => XS.iload X0.here hx rfl (hb hby d19_33) rfl kq) ?_
      refine own_G.sk 37 [(.int 0), (.int 1)] (fun _ kq => XS.iload X0.here hx rfl (hb hby d19_35) rfl kq) ?_
      have hc37 : (0 : Int32) < (1 : Int32) := (by decide)
      refine own_G.sk 52 [] (fun _ kq => XS.icmpYes X0.here hx rfl (pc0 := 37) (pc' := 52) rfl (hb hby d19_37) rfl (tlt hc37).2.2.1 (by decide) (by decide) kq) ?_
      refine own_G.sk 54 [(.int 1)] (fun _ kq => XS.iload X0.here hx rfl (hb hby d19_52) rfl kq) ?_
      refine own_G.sk 56 [(.int 0), (.int 1)] (fun _ kq => XS.iload X0.here hx rfl (hb hby d19_54) rfl kq) ?_
      have hc56 : (0 : Int32) < (1 : Int32) := (by decide)
      refine own_G.sk 113 [] (fun _ kq => XS.icmpYes X0.here hx rfl (pc0 := 56) (pc' := 113) rfl (hb hby d19_56) rfl (tlt hc56).2.2.1 (by decide) (by decide) kq) ?_
      refine own_G.si 116 [] (fun _ kq => XS.iinc X0.here hx rfl (hb hby d19_113) rfl (l' := #[rv va, iv 1, rv wa, iv 1, iv 0, iv 58, iv 0, .val (.int ((1 : Int32) + (1 : Int32))), .unset, .unset, .unset]) rfl kq) ?_
      have hl7 : ((1 : Int32) + (1 : Int32)) = (2 : Int32) := by decide
      refine own_G.cast (g' := (mkF m 116 #[rv va, iv 1, rv wa, iv 1, iv 0, iv 58, iv 0, iv 2, .unset, .unset, .unset] [])) (by rw [hl7]) ?_
      refine own_G.sk 14 [] (fun _ kq => XS.goto X0.here hx rfl (pc0 := 116) (pc' := 14) rfl (hb hby d19_116) (by decide) (by decide) kq) ?_
      refine own_G.sk 16 [(.int 2)] (fun _ kq => XS.iload X0.here hx rfl (hb hby d19_14) rfl kq) ?_
      refine own_G.sk 18 [(.int 0), (.int 2)] (fun _ kq => XS.iload X0.here hx rfl (hb hby d19_16) rfl kq) ?_
      have hc18 : (0 : Int32) < (2 : Int32) := (by decide)
      refine own_G.sk 119 [] (fun _ kq => XS.icmpYes X0.here hx rfl (pc0 := 18) (pc' := 119) rfl (hb hby d19_18) rfl (tlt hc18).2.2.1 (by decide) (by decide) kq) ?_
      refine own_G.sk 120 [(.int (-1 : Int32))] (fun _ kq => XS.iconst X0.here hx rfl (hb hby d19_119) kq) ?_
      exact own_ret X0 e0 (v := some (.int (-1 : Int32))) (fun h => by rw [Bd.returns] at h; cases h) Bd.notSynchronized ⟨(-1 : Int32), rfl, N0, rfl, (fun q => absurd q (by simp [Ne.symm hx0])), (fun _ => by decide)⟩ (by decide) (by decide) (fun fs hr => retI X0 hx Bd.returns (hb hby d19_120) hr)
  · refine own_G.sk 1 [(.ref wa)] (fun _ kq => XS.aloadN X0.here hx rfl (hb hby d19_0) rfl rfl kq) ?_
    refine own_G.sk 2 [(.int 0), (.ref wa)] (fun _ kq => XS.iconst X0.here hx rfl (hb hby d19_1) kq) ?_
    obtain ⟨cl8, Ar8, hin8, hat8⟩ := id (own_At.arv (i := (0 : Int32)) (b := (58 : Int32)) Aw ⟨by decide, by decide⟩ rfl)
    refine own_G.sk 3 [(.int 58)] (fun _ kq => X0.baloadBytes hx (j := (0 : Int32)) (v := (.int 58)) (by rw [e0]; exact Ar8.1) (State.isArrayOf_alike hZ.alike Ar8.2.1) Ar8.2.2 hin8 hat8 (g := (mkF m 2 #[rv va, iv 2, rv wa, iv 1, iv 0, .unset, .unset, .unset, .unset, .unset, .unset] [(.int 0), (.ref wa)])) rfl rfl (hb hby d19_2) _ kq) ?_
    refine own_G.si 5 [] (fun _ kq => XS.istore X0.here hx rfl (hb hby d19_3) rfl (l' := #[rv va, iv 2, rv wa, iv 1, iv 0, iv 58, .unset, .unset, .unset, .unset, .unset]) rfl kq) ?_
    refine own_G.sk 6 [(.int 2)] (fun _ kq => XS.iloadN X0.here hx rfl (hb hby d19_5) rfl kq) ?_
    refine own_G.sk 7 [(.int 1), (.int 2)] (fun _ kq => XS.iloadN X0.here hx rfl (hb hby d19_6) rfl kq) ?_
    refine own_G.sk 8 [(.int ((2 : Int32) - (1 : Int32)))] (fun _ kq => XS.isub X0.here hx rfl (hb hby d19_7) rfl kq) ?_
    refine own_G.si 10 [] (fun _ kq => XS.istore X0.here hx rfl (hb hby d19_8) rfl (l' := #[rv va, iv 2, rv wa, iv 1, iv 0, iv 58, .val (.int ((2 : Int32) - (1 : Int32))), .unset, .unset, .unset, .unset]) rfl kq) ?_
    have hl9 : ((2 : Int32) - (1 : Int32)) = (1 : Int32) := by decide
    refine own_G.cast (g' := (mkF m 10 #[rv va, iv 2, rv wa, iv 1, iv 0, iv 58, iv 1, .unset, .unset, .unset, .unset] [])) (by rw [hl9]) ?_
    refine own_G.sk 12 [(.int 0)] (fun _ kq => XS.iload X0.here hx rfl (hb hby d19_10) rfl kq) ?_
    refine own_G.si 14 [] (fun _ kq => XS.istore X0.here hx rfl (hb hby d19_12) rfl (l' := #[rv va, iv 2, rv wa, iv 1, iv 0, iv 58, iv 1, iv 0, .unset, .unset, .unset]) rfl kq) ?_
    refine own_G.sk 16 [(.int 0)] (fun _ kq => XS.iload X0.here hx rfl (hb hby d19_14) rfl kq) ?_
    refine own_G.sk 18 [(.int 1), (.int 0)] (fun _ kq => XS.iload X0.here hx rfl (hb hby d19_16) rfl kq) ?_
    have hc18 : ¬ ((1 : Int32) < (0 : Int32)) := (by decide)
    refine own_G.sk 21 [] (fun _ kq => XS.icmpNo X0.here hx rfl (hb hby d19_18) rfl (flt hc18).2.2.1 kq) ?_
    refine own_G.sk 22 [(.ref va)] (fun _ kq => XS.aloadN X0.here hx rfl (hb hby d19_21) rfl rfl kq) ?_
    refine own_G.sk 24 [(.int 0), (.ref va)] (fun _ kq => XS.iload X0.here hx rfl (hb hby d19_22) rfl kq) ?_
    obtain ⟨cl10, Ar10, hin10, hat10⟩ := id (own_At.arv (i := (0 : Int32)) (b := x0) Av ⟨by decide, by decide⟩ rfl)
    refine own_G.sk 25 [(.int x0)] (fun _ kq => X0.baloadBytes hx (j := (0 : Int32)) (v := (.int x0)) (by rw [e0]; exact Ar10.1) (State.isArrayOf_alike hZ.alike Ar10.2.1) Ar10.2.2 hin10 hat10 (g := (mkF m 24 #[rv va, iv 2, rv wa, iv 1, iv 0, iv 58, iv 1, iv 0, .unset, .unset, .unset] [(.int 0), (.ref va)])) rfl rfl (hb hby d19_24) _ kq) ?_
    refine own_G.sk 27 [(.int 58), (.int x0)] (fun _ kq => XS.iload X0.here hx rfl (hb hby d19_25) rfl kq) ?_
    rcases Classical.em (x0 = (58 : Int32)) with hx0 | hx0
    · refine own_G.sk 52 [] (fun _ kq => XS.icmpYes X0.here hx rfl (pc0 := 27) (pc' := 52) rfl (hb hby d19_27) rfl (teq hx0).1 (by decide) (by decide) kq) ?_
      refine own_G.sk 54 [(.int 0)] (fun _ kq => XS.iload X0.here hx rfl (hb hby d19_52) rfl kq) ?_
      refine own_G.sk 56 [(.int 1), (.int 0)] (fun _ kq => XS.iload X0.here hx rfl (hb hby d19_54) rfl kq) ?_
      have hc56 : ¬ ((1 : Int32) < (0 : Int32)) := (by decide)
      refine own_G.sk 59 [] (fun _ kq => XS.icmpNo X0.here hx rfl (hb hby d19_56) rfl (flt hc56).2.2.1 kq) ?_
      refine own_G.sk 61 [(.int 0)] (fun _ kq => XS.iload X0.here hx rfl (hb hby d19_59) rfl kq) ?_
      refine own_G.sk 62 [(.int 1), (.int 0)] (fun _ kq => XS.iconst X0.here hx rfl (hb hby d19_61) kq) ?_
      refine own_G.sk 63 [(.int ((0 : Int32) + (1 : Int32)))] (fun _ kq => XS.iadd X0.here hx rfl (hb hby d19_62) rfl kq) ?_
      refine own_G.si 65 [] (fun _ kq => XS.istore X0.here hx rfl (hb hby d19_63) rfl (l' := #[rv va, iv 2, rv wa, iv 1, iv 0, iv 58, iv 1, iv 0, .val (.int ((0 : Int32) + (1 : Int32))), .unset, .unset]) rfl kq) ?_
      have hl11 : ((0 : Int32) + (1 : Int32)) = (1 : Int32) := by decide
      refine own_G.cast (g' := (mkF m 65 #[rv va, iv 2, rv wa, iv 1, iv 0, iv 58, iv 1, iv 0, iv 1, .unset, .unset] [])) (by rw [hl11]) ?_
      refine own_G.sk 67 [(.int 1)] (fun _ kq => XS.iload X0.here hx rfl (hb hby d19_65) rfl kq) ?_
      refine own_G.sk 68 [(.int 1), (.int 1)] (fun _ kq => XS.iloadN X0.here hx rfl (hb hby d19_67) rfl kq) ?_
      refine own_G.sk 69 [(.int ((1 : Int32) + (1 : Int32)))] (fun _ kq => XS.iadd X0.here hx rfl (hb hby d19_68) rfl kq) ?_
      refine own_G.sk 70 [(.int 1), (.int ((1 : Int32) + (1 : Int32)))] (fun _ kq => XS.iconst X0.here hx rfl (hb hby d19_69) kq) ?_
      refine own_G.sk 71 [(.int (((1 : Int32) + (1 : Int32)) - (1 : Int32)))] (fun _ kq => XS.isub X0.here hx rfl (hb hby d19_70) rfl kq) ?_
      refine own_G.si 73 [] (fun _ kq => XS.istore X0.here hx rfl (hb hby d19_71) rfl (l' := #[rv va, iv 2, rv wa, iv 1, iv 0, iv 58, iv 1, iv 0, iv 1, .val (.int (((1 : Int32) + (1 : Int32)) - (1 : Int32))), .unset]) rfl kq) ?_
      have hl12 : (((1 : Int32) + (1 : Int32)) - (1 : Int32)) = (1 : Int32) := by decide
      refine own_G.cast (g' := (mkF m 73 #[rv va, iv 2, rv wa, iv 1, iv 0, iv 58, iv 1, iv 0, iv 1, iv 1, .unset] [])) (by rw [hl12]) ?_
      refine own_G.sk 74 [(.int 1)] (fun _ kq => XS.iconst X0.here hx rfl (hb hby d19_73) kq) ?_
      refine own_G.si 76 [] (fun _ kq => XS.istore X0.here hx rfl (hb hby d19_74) rfl (l' := #[rv va, iv 2, rv wa, iv 1, iv 0, iv 58, iv 1, iv 0, iv 1, iv 1, iv 1]) rfl kq) ?_
      refine own_G.sk 78 [(.int 1)] (fun _ kq => XS.iload X0.here hx rfl (hb hby d19_76) rfl kq) ?_
      refine own_G.sk 80 [(.int 1), (.int 1)] (fun _ kq => XS.iload X0.here hx rfl (hb hby d19_78) rfl kq) ?_
      have hc80 : ¬ ((1 : Int32) < (1 : Int32)) := (by decide)
      refine own_G.sk 103 [] (fun _ kq => XS.icmpYes X0.here hx rfl (pc0 := 80) (pc' := 103) rfl (hb hby d19_80) rfl (flt hc80).2.1 (by decide) (by decide) kq) ?_
      refine own_G.sk 105 [(.int 1)] (fun _ kq => XS.iload X0.here hx rfl (hb hby d19_103) rfl kq) ?_
      refine own_G.sk 107 [(.int 1), (.int 1)] (fun _ kq => XS.iload X0.here hx rfl (hb hby d19_105) rfl kq) ?_
      have hc107 : (1 : Int32) = (1 : Int32) := (by decide)
      refine own_G.sk 110 [] (fun _ kq => XS.icmpNo X0.here hx rfl (hb hby d19_107) rfl (teq hc107).2 kq) ?_
      refine own_G.sk 112 [(.int 0)] (fun _ kq => XS.iload X0.here hx rfl (hb hby d19_110) rfl kq) ?_
      exact own_ret X0 e0 (v := some (.int 0)) (fun h => by rw [Bd.returns] at h; cases h) Bd.notSynchronized ⟨(0 : Int32), rfl, N0, rfl, (fun _ => by decide), (fun q => absurd (by rw [hx0]; simp) q)⟩ (by decide) (by decide) (fun fs hr => retI X0 hx Bd.returns (hb hby d19_112) hr)
    · refine own_G.sk 30 [] (fun _ kq => XS.icmpNo X0.here hx rfl (hb hby d19_27) rfl (feq hx0).1 kq) ?_
      refine own_G.si 33 [] (fun _ kq => XS.iinc X0.here hx rfl (hb hby d19_30) rfl (l' := #[rv va, iv 2, rv wa, iv 1, iv 0, iv 58, iv 1, .val (.int ((0 : Int32) + (1 : Int32))), .unset, .unset, .unset]) rfl kq) ?_
      have hl13 : ((0 : Int32) + (1 : Int32)) = (1 : Int32) := by decide
      refine own_G.cast (g' := (mkF m 33 #[rv va, iv 2, rv wa, iv 1, iv 0, iv 58, iv 1, iv 1, .unset, .unset, .unset] [])) (by rw [hl13]) ?_
      refine own_G.sk 35 [(.int 1)] (fun _ kq => XS.iload X0.here hx rfl (hb hby d19_33) rfl kq) ?_
      refine own_G.sk 37 [(.int 1), (.int 1)] (fun _ kq => XS.iload X0.here hx rfl (hb hby d19_35) rfl kq) ?_
      have hc37 : ¬ ((1 : Int32) < (1 : Int32)) := (by decide)
      refine own_G.sk 40 [] (fun _ kq => XS.icmpNo X0.here hx rfl (hb hby d19_37) rfl (flt hc37).2.2.1 kq) ?_
      refine own_G.sk 41 [(.ref va)] (fun _ kq => XS.aloadN X0.here hx rfl (hb hby d19_40) rfl rfl kq) ?_
      refine own_G.sk 43 [(.int 1), (.ref va)] (fun _ kq => XS.iload X0.here hx rfl (hb hby d19_41) rfl kq) ?_
      obtain ⟨cl14, Ar14, hin14, hat14⟩ := id (own_At.arv (i := (1 : Int32)) (b := x1) Av ⟨by decide, by decide⟩ rfl)
      refine own_G.sk 44 [(.int x1)] (fun _ kq => X0.baloadBytes hx (j := (1 : Int32)) (v := (.int x1)) (by rw [e0]; exact Ar14.1) (State.isArrayOf_alike hZ.alike Ar14.2.1) Ar14.2.2 hin14 hat14 (g := (mkF m 43 #[rv va, iv 2, rv wa, iv 1, iv 0, iv 58, iv 1, iv 1, .unset, .unset, .unset] [(.int 1), (.ref va)])) rfl rfl (hb hby d19_43) _ kq) ?_
      refine own_G.sk 46 [(.int 58), (.int x1)] (fun _ kq => XS.iload X0.here hx rfl (hb hby d19_44) rfl kq) ?_
      rcases Classical.em (x1 = (58 : Int32)) with hx1 | hx1
      · refine own_G.sk 52 [] (fun _ kq => XS.icmpYes X0.here hx rfl (pc0 := 46) (pc' := 52) rfl (hb hby d19_46) rfl (teq hx1).1 (by decide) (by decide) kq) ?_
        refine own_G.sk 54 [(.int 1)] (fun _ kq => XS.iload X0.here hx rfl (hb hby d19_52) rfl kq) ?_
        refine own_G.sk 56 [(.int 1), (.int 1)] (fun _ kq => XS.iload X0.here hx rfl (hb hby d19_54) rfl kq) ?_
        have hc56 : ¬ ((1 : Int32) < (1 : Int32)) := (by decide)
        refine own_G.sk 59 [] (fun _ kq => XS.icmpNo X0.here hx rfl (hb hby d19_56) rfl (flt hc56).2.2.1 kq) ?_
        refine own_G.sk 61 [(.int 1)] (fun _ kq => XS.iload X0.here hx rfl (hb hby d19_59) rfl kq) ?_
        refine own_G.sk 62 [(.int 1), (.int 1)] (fun _ kq => XS.iconst X0.here hx rfl (hb hby d19_61) kq) ?_
        refine own_G.sk 63 [(.int ((1 : Int32) + (1 : Int32)))] (fun _ kq => XS.iadd X0.here hx rfl (hb hby d19_62) rfl kq) ?_
        refine own_G.si 65 [] (fun _ kq => XS.istore X0.here hx rfl (hb hby d19_63) rfl (l' := #[rv va, iv 2, rv wa, iv 1, iv 0, iv 58, iv 1, iv 1, .val (.int ((1 : Int32) + (1 : Int32))), .unset, .unset]) rfl kq) ?_
        have hl15 : ((1 : Int32) + (1 : Int32)) = (2 : Int32) := by decide
        refine own_G.cast (g' := (mkF m 65 #[rv va, iv 2, rv wa, iv 1, iv 0, iv 58, iv 1, iv 1, iv 2, .unset, .unset] [])) (by rw [hl15]) ?_
        refine own_G.sk 67 [(.int 2)] (fun _ kq => XS.iload X0.here hx rfl (hb hby d19_65) rfl kq) ?_
        refine own_G.sk 68 [(.int 1), (.int 2)] (fun _ kq => XS.iloadN X0.here hx rfl (hb hby d19_67) rfl kq) ?_
        refine own_G.sk 69 [(.int ((2 : Int32) + (1 : Int32)))] (fun _ kq => XS.iadd X0.here hx rfl (hb hby d19_68) rfl kq) ?_
        refine own_G.sk 70 [(.int 1), (.int ((2 : Int32) + (1 : Int32)))] (fun _ kq => XS.iconst X0.here hx rfl (hb hby d19_69) kq) ?_
        refine own_G.sk 71 [(.int (((2 : Int32) + (1 : Int32)) - (1 : Int32)))] (fun _ kq => XS.isub X0.here hx rfl (hb hby d19_70) rfl kq) ?_
        refine own_G.si 73 [] (fun _ kq => XS.istore X0.here hx rfl (hb hby d19_71) rfl (l' := #[rv va, iv 2, rv wa, iv 1, iv 0, iv 58, iv 1, iv 1, iv 2, .val (.int (((2 : Int32) + (1 : Int32)) - (1 : Int32))), .unset]) rfl kq) ?_
        have hl16 : (((2 : Int32) + (1 : Int32)) - (1 : Int32)) = (2 : Int32) := by decide
        refine own_G.cast (g' := (mkF m 73 #[rv va, iv 2, rv wa, iv 1, iv 0, iv 58, iv 1, iv 1, iv 2, iv 2, .unset] [])) (by rw [hl16]) ?_
        refine own_G.sk 74 [(.int 1)] (fun _ kq => XS.iconst X0.here hx rfl (hb hby d19_73) kq) ?_
        refine own_G.si 76 [] (fun _ kq => XS.istore X0.here hx rfl (hb hby d19_74) rfl (l' := #[rv va, iv 2, rv wa, iv 1, iv 0, iv 58, iv 1, iv 1, iv 2, iv 2, iv 1]) rfl kq) ?_
        refine own_G.sk 78 [(.int 2)] (fun _ kq => XS.iload X0.here hx rfl (hb hby d19_76) rfl kq) ?_
        refine own_G.sk 80 [(.int 2), (.int 2)] (fun _ kq => XS.iload X0.here hx rfl (hb hby d19_78) rfl kq) ?_
        have hc80 : ¬ ((2 : Int32) < (2 : Int32)) := (by decide)
        refine own_G.sk 103 [] (fun _ kq => XS.icmpYes X0.here hx rfl (pc0 := 80) (pc' := 103) rfl (hb hby d19_80) rfl (flt hc80).2.1 (by decide) (by decide) kq) ?_
        refine own_G.sk 105 [(.int 2)] (fun _ kq => XS.iload X0.here hx rfl (hb hby d19_103) rfl kq) ?_
        refine own_G.sk 107 [(.int 2), (.int 2)] (fun _ kq => XS.iload X0.here hx rfl (hb hby d19_105) rfl kq) ?_
        have hc107 : (2 : Int32) = (2 : Int32) := (by decide)
        refine own_G.sk 110 [] (fun _ kq => XS.icmpNo X0.here hx rfl (hb hby d19_107) rfl (teq hc107).2 kq) ?_
        refine own_G.sk 112 [(.int 1)] (fun _ kq => XS.iload X0.here hx rfl (hb hby d19_110) rfl kq) ?_
        exact own_ret X0 e0 (v := some (.int 1)) (fun h => by rw [Bd.returns] at h; cases h) Bd.notSynchronized ⟨(1 : Int32), rfl, N0, rfl, (fun _ => by decide), (fun q => absurd (by rw [hx1]; simp) q)⟩ (by decide) (by decide) (fun fs hr => retI X0 hx Bd.returns (hb hby d19_112) hr)
      · refine own_G.sk 49 [] (fun _ kq => XS.icmpNo X0.here hx rfl (hb hby d19_46) rfl (feq hx1).1 kq) ?_
        refine own_G.sk 30 [] (fun _ kq => XS.goto X0.here hx rfl (pc0 := 49) (pc' := 30) rfl (hb hby d19_49) (by decide) (by decide) kq) ?_
        refine own_G.si 33 [] (fun _ kq => XS.iinc X0.here hx rfl (hb hby d19_30) rfl (l' := #[rv va, iv 2, rv wa, iv 1, iv 0, iv 58, iv 1, .val (.int ((1 : Int32) + (1 : Int32))), .unset, .unset, .unset]) rfl kq) ?_
        have hl17 : ((1 : Int32) + (1 : Int32)) = (2 : Int32) := by decide
        refine own_G.cast (g' := (mkF m 33 #[rv va, iv 2, rv wa, iv 1, iv 0, iv 58, iv 1, iv 2, .unset, .unset, .unset] [])) (by rw [hl17]) ?_
        refine own_G.sk 35 [(.int 2)] (fun _ kq => XS.iload X0.here hx rfl (hb hby d19_33) rfl kq) ?_
        refine own_G.sk 37 [(.int 1), (.int 2)] (fun _ kq => XS.iload X0.here hx rfl (hb hby d19_35) rfl kq) ?_
        have hc37 : (1 : Int32) < (2 : Int32) := (by decide)
        refine own_G.sk 52 [] (fun _ kq => XS.icmpYes X0.here hx rfl (pc0 := 37) (pc' := 52) rfl (hb hby d19_37) rfl (tlt hc37).2.2.1 (by decide) (by decide) kq) ?_
        refine own_G.sk 54 [(.int 2)] (fun _ kq => XS.iload X0.here hx rfl (hb hby d19_52) rfl kq) ?_
        refine own_G.sk 56 [(.int 1), (.int 2)] (fun _ kq => XS.iload X0.here hx rfl (hb hby d19_54) rfl kq) ?_
        have hc56 : (1 : Int32) < (2 : Int32) := (by decide)
        refine own_G.sk 113 [] (fun _ kq => XS.icmpYes X0.here hx rfl (pc0 := 56) (pc' := 113) rfl (hb hby d19_56) rfl (tlt hc56).2.2.1 (by decide) (by decide) kq) ?_
        refine own_G.si 116 [] (fun _ kq => XS.iinc X0.here hx rfl (hb hby d19_113) rfl (l' := #[rv va, iv 2, rv wa, iv 1, iv 0, iv 58, iv 1, .val (.int ((2 : Int32) + (1 : Int32))), .unset, .unset, .unset]) rfl kq) ?_
        have hl18 : ((2 : Int32) + (1 : Int32)) = (3 : Int32) := by decide
        refine own_G.cast (g' := (mkF m 116 #[rv va, iv 2, rv wa, iv 1, iv 0, iv 58, iv 1, iv 3, .unset, .unset, .unset] [])) (by rw [hl18]) ?_
        refine own_G.sk 14 [] (fun _ kq => XS.goto X0.here hx rfl (pc0 := 116) (pc' := 14) rfl (hb hby d19_116) (by decide) (by decide) kq) ?_
        refine own_G.sk 16 [(.int 3)] (fun _ kq => XS.iload X0.here hx rfl (hb hby d19_14) rfl kq) ?_
        refine own_G.sk 18 [(.int 1), (.int 3)] (fun _ kq => XS.iload X0.here hx rfl (hb hby d19_16) rfl kq) ?_
        have hc18 : (1 : Int32) < (3 : Int32) := (by decide)
        refine own_G.sk 119 [] (fun _ kq => XS.icmpYes X0.here hx rfl (pc0 := 18) (pc' := 119) rfl (hb hby d19_18) rfl (tlt hc18).2.2.1 (by decide) (by decide) kq) ?_
        refine own_G.sk 120 [(.int (-1 : Int32))] (fun _ kq => XS.iconst X0.here hx rfl (hb hby d19_119) kq) ?_
        exact own_ret X0 e0 (v := some (.int (-1 : Int32))) (fun h => by rw [Bd.returns] at h; cases h) Bd.notSynchronized ⟨(-1 : Int32), rfl, N0, rfl, (fun q => absurd q (by simp [Ne.symm hx0, Ne.symm hx1])), (fun _ => by decide)⟩ (by decide) (by decide) (fun fs hr => retI X0 hx Bd.returns (hb hby d19_120) hr)
  · refine own_G.sk 1 [(.ref wa)] (fun _ kq => XS.aloadN X0.here hx rfl (hb hby d19_0) rfl rfl kq) ?_
    refine own_G.sk 2 [(.int 0), (.ref wa)] (fun _ kq => XS.iconst X0.here hx rfl (hb hby d19_1) kq) ?_
    obtain ⟨cl19, Ar19, hin19, hat19⟩ := id (own_At.arv (i := (0 : Int32)) (b := (58 : Int32)) Aw ⟨by decide, by decide⟩ rfl)
    refine own_G.sk 3 [(.int 58)] (fun _ kq => X0.baloadBytes hx (j := (0 : Int32)) (v := (.int 58)) (by rw [e0]; exact Ar19.1) (State.isArrayOf_alike hZ.alike Ar19.2.1) Ar19.2.2 hin19 hat19 (g := (mkF m 2 #[rv va, iv 3, rv wa, iv 1, iv 0, .unset, .unset, .unset, .unset, .unset, .unset] [(.int 0), (.ref wa)])) rfl rfl (hb hby d19_2) _ kq) ?_
    refine own_G.si 5 [] (fun _ kq => XS.istore X0.here hx rfl (hb hby d19_3) rfl (l' := #[rv va, iv 3, rv wa, iv 1, iv 0, iv 58, .unset, .unset, .unset, .unset, .unset]) rfl kq) ?_
    refine own_G.sk 6 [(.int 3)] (fun _ kq => XS.iloadN X0.here hx rfl (hb hby d19_5) rfl kq) ?_
    refine own_G.sk 7 [(.int 1), (.int 3)] (fun _ kq => XS.iloadN X0.here hx rfl (hb hby d19_6) rfl kq) ?_
    refine own_G.sk 8 [(.int ((3 : Int32) - (1 : Int32)))] (fun _ kq => XS.isub X0.here hx rfl (hb hby d19_7) rfl kq) ?_
    refine own_G.si 10 [] (fun _ kq => XS.istore X0.here hx rfl (hb hby d19_8) rfl (l' := #[rv va, iv 3, rv wa, iv 1, iv 0, iv 58, .val (.int ((3 : Int32) - (1 : Int32))), .unset, .unset, .unset, .unset]) rfl kq) ?_
    have hl20 : ((3 : Int32) - (1 : Int32)) = (2 : Int32) := by decide
    refine own_G.cast (g' := (mkF m 10 #[rv va, iv 3, rv wa, iv 1, iv 0, iv 58, iv 2, .unset, .unset, .unset, .unset] [])) (by rw [hl20]) ?_
    refine own_G.sk 12 [(.int 0)] (fun _ kq => XS.iload X0.here hx rfl (hb hby d19_10) rfl kq) ?_
    refine own_G.si 14 [] (fun _ kq => XS.istore X0.here hx rfl (hb hby d19_12) rfl (l' := #[rv va, iv 3, rv wa, iv 1, iv 0, iv 58, iv 2, iv 0, .unset, .unset, .unset]) rfl kq) ?_
    refine own_G.sk 16 [(.int 0)] (fun _ kq => XS.iload X0.here hx rfl (hb hby d19_14) rfl kq) ?_
    refine own_G.sk 18 [(.int 2), (.int 0)] (fun _ kq => XS.iload X0.here hx rfl (hb hby d19_16) rfl kq) ?_
    have hc18 : ¬ ((2 : Int32) < (0 : Int32)) := (by decide)
    refine own_G.sk 21 [] (fun _ kq => XS.icmpNo X0.here hx rfl (hb hby d19_18) rfl (flt hc18).2.2.1 kq) ?_
    refine own_G.sk 22 [(.ref va)] (fun _ kq => XS.aloadN X0.here hx rfl (hb hby d19_21) rfl rfl kq) ?_
    refine own_G.sk 24 [(.int 0), (.ref va)] (fun _ kq => XS.iload X0.here hx rfl (hb hby d19_22) rfl kq) ?_
    obtain ⟨cl21, Ar21, hin21, hat21⟩ := id (own_At.arv (i := (0 : Int32)) (b := x0) Av ⟨by decide, by decide⟩ rfl)
    refine own_G.sk 25 [(.int x0)] (fun _ kq => X0.baloadBytes hx (j := (0 : Int32)) (v := (.int x0)) (by rw [e0]; exact Ar21.1) (State.isArrayOf_alike hZ.alike Ar21.2.1) Ar21.2.2 hin21 hat21 (g := (mkF m 24 #[rv va, iv 3, rv wa, iv 1, iv 0, iv 58, iv 2, iv 0, .unset, .unset, .unset] [(.int 0), (.ref va)])) rfl rfl (hb hby d19_24) _ kq) ?_
    refine own_G.sk 27 [(.int 58), (.int x0)] (fun _ kq => XS.iload X0.here hx rfl (hb hby d19_25) rfl kq) ?_
    rcases Classical.em (x0 = (58 : Int32)) with hx0 | hx0
    · refine own_G.sk 52 [] (fun _ kq => XS.icmpYes X0.here hx rfl (pc0 := 27) (pc' := 52) rfl (hb hby d19_27) rfl (teq hx0).1 (by decide) (by decide) kq) ?_
      refine own_G.sk 54 [(.int 0)] (fun _ kq => XS.iload X0.here hx rfl (hb hby d19_52) rfl kq) ?_
      refine own_G.sk 56 [(.int 2), (.int 0)] (fun _ kq => XS.iload X0.here hx rfl (hb hby d19_54) rfl kq) ?_
      have hc56 : ¬ ((2 : Int32) < (0 : Int32)) := (by decide)
      refine own_G.sk 59 [] (fun _ kq => XS.icmpNo X0.here hx rfl (hb hby d19_56) rfl (flt hc56).2.2.1 kq) ?_
      refine own_G.sk 61 [(.int 0)] (fun _ kq => XS.iload X0.here hx rfl (hb hby d19_59) rfl kq) ?_
      refine own_G.sk 62 [(.int 1), (.int 0)] (fun _ kq => XS.iconst X0.here hx rfl (hb hby d19_61) kq) ?_
      refine own_G.sk 63 [(.int ((0 : Int32) + (1 : Int32)))] (fun _ kq => XS.iadd X0.here hx rfl (hb hby d19_62) rfl kq) ?_
      refine own_G.si 65 [] (fun _ kq => XS.istore X0.here hx rfl (hb hby d19_63) rfl (l' := #[rv va, iv 3, rv wa, iv 1, iv 0, iv 58, iv 2, iv 0, .val (.int ((0 : Int32) + (1 : Int32))), .unset, .unset]) rfl kq) ?_
      have hl22 : ((0 : Int32) + (1 : Int32)) = (1 : Int32) := by decide
      refine own_G.cast (g' := (mkF m 65 #[rv va, iv 3, rv wa, iv 1, iv 0, iv 58, iv 2, iv 0, iv 1, .unset, .unset] [])) (by rw [hl22]) ?_
      refine own_G.sk 67 [(.int 1)] (fun _ kq => XS.iload X0.here hx rfl (hb hby d19_65) rfl kq) ?_
      refine own_G.sk 68 [(.int 1), (.int 1)] (fun _ kq => XS.iloadN X0.here hx rfl (hb hby d19_67) rfl kq) ?_
      refine own_G.sk 69 [(.int ((1 : Int32) + (1 : Int32)))] (fun _ kq => XS.iadd X0.here hx rfl (hb hby d19_68) rfl kq) ?_
      refine own_G.sk 70 [(.int 1), (.int ((1 : Int32) + (1 : Int32)))] (fun _ kq => XS.iconst X0.here hx rfl (hb hby d19_69) kq) ?_
      refine own_G.sk 71 [(.int (((1 : Int32) + (1 : Int32)) - (1 : Int32)))] (fun _ kq => XS.isub X0.here hx rfl (hb hby d19_70) rfl kq) ?_
      refine own_G.si 73 [] (fun _ kq => XS.istore X0.here hx rfl (hb hby d19_71) rfl (l' := #[rv va, iv 3, rv wa, iv 1, iv 0, iv 58, iv 2, iv 0, iv 1, .val (.int (((1 : Int32) + (1 : Int32)) - (1 : Int32))), .unset]) rfl kq) ?_
      have hl23 : (((1 : Int32) + (1 : Int32)) - (1 : Int32)) = (1 : Int32) := by decide
      refine own_G.cast (g' := (mkF m 73 #[rv va, iv 3, rv wa, iv 1, iv 0, iv 58, iv 2, iv 0, iv 1, iv 1, .unset] [])) (by rw [hl23]) ?_
      refine own_G.sk 74 [(.int 1)] (fun _ kq => XS.iconst X0.here hx rfl (hb hby d19_73) kq) ?_
      refine own_G.si 76 [] (fun _ kq => XS.istore X0.here hx rfl (hb hby d19_74) rfl (l' := #[rv va, iv 3, rv wa, iv 1, iv 0, iv 58, iv 2, iv 0, iv 1, iv 1, iv 1]) rfl kq) ?_
      refine own_G.sk 78 [(.int 1)] (fun _ kq => XS.iload X0.here hx rfl (hb hby d19_76) rfl kq) ?_
      refine own_G.sk 80 [(.int 1), (.int 1)] (fun _ kq => XS.iload X0.here hx rfl (hb hby d19_78) rfl kq) ?_
      have hc80 : ¬ ((1 : Int32) < (1 : Int32)) := (by decide)
      refine own_G.sk 103 [] (fun _ kq => XS.icmpYes X0.here hx rfl (pc0 := 80) (pc' := 103) rfl (hb hby d19_80) rfl (flt hc80).2.1 (by decide) (by decide) kq) ?_
      refine own_G.sk 105 [(.int 1)] (fun _ kq => XS.iload X0.here hx rfl (hb hby d19_103) rfl kq) ?_
      refine own_G.sk 107 [(.int 1), (.int 1)] (fun _ kq => XS.iload X0.here hx rfl (hb hby d19_105) rfl kq) ?_
      have hc107 : (1 : Int32) = (1 : Int32) := (by decide)
      refine own_G.sk 110 [] (fun _ kq => XS.icmpNo X0.here hx rfl (hb hby d19_107) rfl (teq hc107).2 kq) ?_
      refine own_G.sk 112 [(.int 0)] (fun _ kq => XS.iload X0.here hx rfl (hb hby d19_110) rfl kq) ?_
      exact own_ret X0 e0 (v := some (.int 0)) (fun h => by rw [Bd.returns] at h; cases h) Bd.notSynchronized ⟨(0 : Int32), rfl, N0, rfl, (fun _ => by decide), (fun q => absurd (by rw [hx0]; simp) q)⟩ (by decide) (by decide) (fun fs hr => retI X0 hx Bd.returns (hb hby d19_112) hr)
    · refine own_G.sk 30 [] (fun _ kq => XS.icmpNo X0.here hx rfl (hb hby d19_27) rfl (feq hx0).1 kq) ?_
      refine own_G.si 33 [] (fun _ kq => XS.iinc X0.here hx rfl (hb hby d19_30) rfl (l' := #[rv va, iv 3, rv wa, iv 1, iv 0, iv 58, iv 2, .val (.int ((0 : Int32) + (1 : Int32))), .unset, .unset, .unset]) rfl kq) ?_
      have hl24 : ((0 : Int32) + (1 : Int32)) = (1 : Int32) := by decide
      refine own_G.cast (g' := (mkF m 33 #[rv va, iv 3, rv wa, iv 1, iv 0, iv 58, iv 2, iv 1, .unset, .unset, .unset] [])) (by rw [hl24]) ?_
      refine own_G.sk 35 [(.int 1)] (fun _ kq => XS.iload X0.here hx rfl (hb hby d19_33) rfl kq) ?_
      refine own_G.sk 37 [(.int 2), (.int 1)] (fun _ kq => XS.iload X0.here hx rfl (hb hby d19_35) rfl kq) ?_
      have hc37 : ¬ ((2 : Int32) < (1 : Int32)) := (by decide)
      refine own_G.sk 40 [] (fun _ kq => XS.icmpNo X0.here hx rfl (hb hby d19_37) rfl (flt hc37).2.2.1 kq) ?_
      refine own_G.sk 41 [(.ref va)] (fun _ kq => XS.aloadN X0.here hx rfl (hb hby d19_40) rfl rfl kq) ?_
      refine own_G.sk 43 [(.int 1), (.ref va)] (fun _ kq => XS.iload X0.here hx rfl (hb hby d19_41) rfl kq) ?_
      obtain ⟨cl25, Ar25, hin25, hat25⟩ := id (own_At.arv (i := (1 : Int32)) (b := x1) Av ⟨by decide, by decide⟩ rfl)
      refine own_G.sk 44 [(.int x1)] (fun _ kq => X0.baloadBytes hx (j := (1 : Int32)) (v := (.int x1)) (by rw [e0]; exact Ar25.1) (State.isArrayOf_alike hZ.alike Ar25.2.1) Ar25.2.2 hin25 hat25 (g := (mkF m 43 #[rv va, iv 3, rv wa, iv 1, iv 0, iv 58, iv 2, iv 1, .unset, .unset, .unset] [(.int 1), (.ref va)])) rfl rfl (hb hby d19_43) _ kq) ?_
      refine own_G.sk 46 [(.int 58), (.int x1)] (fun _ kq => XS.iload X0.here hx rfl (hb hby d19_44) rfl kq) ?_
      rcases Classical.em (x1 = (58 : Int32)) with hx1 | hx1
      · refine own_G.sk 52 [] (fun _ kq => XS.icmpYes X0.here hx rfl (pc0 := 46) (pc' := 52) rfl (hb hby d19_46) rfl (teq hx1).1 (by decide) (by decide) kq) ?_
        refine own_G.sk 54 [(.int 1)] (fun _ kq => XS.iload X0.here hx rfl (hb hby d19_52) rfl kq) ?_
        refine own_G.sk 56 [(.int 2), (.int 1)] (fun _ kq => XS.iload X0.here hx rfl (hb hby d19_54) rfl kq) ?_
        have hc56 : ¬ ((2 : Int32) < (1 : Int32)) := (by decide)
        refine own_G.sk 59 [] (fun _ kq => XS.icmpNo X0.here hx rfl (hb hby d19_56) rfl (flt hc56).2.2.1 kq) ?_
        refine own_G.sk 61 [(.int 1)] (fun _ kq => XS.iload X0.here hx rfl (hb hby d19_59) rfl kq) ?_
        refine own_G.sk 62 [(.int 1), (.int 1)] (fun _ kq => XS.iconst X0.here hx rfl (hb hby d19_61) kq) ?_
        refine own_G.sk 63 [(.int ((1 : Int32) + (1 : Int32)))] (fun _ kq => XS.iadd X0.here hx rfl (hb hby d19_62) rfl kq) ?_
        refine own_G.si 65 [] (fun _ kq => XS.istore X0.here hx rfl (hb hby d19_63) rfl (l' := #[rv va, iv 3, rv wa, iv 1, iv 0, iv 58, iv 2, iv 1, .val (.int ((1 : Int32) + (1 : Int32))), .unset, .unset]) rfl kq) ?_
        have hl26 : ((1 : Int32) + (1 : Int32)) = (2 : Int32) := by decide
        refine own_G.cast (g' := (mkF m 65 #[rv va, iv 3, rv wa, iv 1, iv 0, iv 58, iv 2, iv 1, iv 2, .unset, .unset] [])) (by rw [hl26]) ?_
        refine own_G.sk 67 [(.int 2)] (fun _ kq => XS.iload X0.here hx rfl (hb hby d19_65) rfl kq) ?_
        refine own_G.sk 68 [(.int 1), (.int 2)] (fun _ kq => XS.iloadN X0.here hx rfl (hb hby d19_67) rfl kq) ?_
        refine own_G.sk 69 [(.int ((2 : Int32) + (1 : Int32)))] (fun _ kq => XS.iadd X0.here hx rfl (hb hby d19_68) rfl kq) ?_
        refine own_G.sk 70 [(.int 1), (.int ((2 : Int32) + (1 : Int32)))] (fun _ kq => XS.iconst X0.here hx rfl (hb hby d19_69) kq) ?_
        refine own_G.sk 71 [(.int (((2 : Int32) + (1 : Int32)) - (1 : Int32)))] (fun _ kq => XS.isub X0.here hx rfl (hb hby d19_70) rfl kq) ?_
        refine own_G.si 73 [] (fun _ kq => XS.istore X0.here hx rfl (hb hby d19_71) rfl (l' := #[rv va, iv 3, rv wa, iv 1, iv 0, iv 58, iv 2, iv 1, iv 2, .val (.int (((2 : Int32) + (1 : Int32)) - (1 : Int32))), .unset]) rfl kq) ?_
        have hl27 : (((2 : Int32) + (1 : Int32)) - (1 : Int32)) = (2 : Int32) := by decide
        refine own_G.cast (g' := (mkF m 73 #[rv va, iv 3, rv wa, iv 1, iv 0, iv 58, iv 2, iv 1, iv 2, iv 2, .unset] [])) (by rw [hl27]) ?_
        refine own_G.sk 74 [(.int 1)] (fun _ kq => XS.iconst X0.here hx rfl (hb hby d19_73) kq) ?_
        refine own_G.si 76 [] (fun _ kq => XS.istore X0.here hx rfl (hb hby d19_74) rfl (l' := #[rv va, iv 3, rv wa, iv 1, iv 0, iv 58, iv 2, iv 1, iv 2, iv 2, iv 1]) rfl kq) ?_
        refine own_G.sk 78 [(.int 2)] (fun _ kq => XS.iload X0.here hx rfl (hb hby d19_76) rfl kq) ?_
        refine own_G.sk 80 [(.int 2), (.int 2)] (fun _ kq => XS.iload X0.here hx rfl (hb hby d19_78) rfl kq) ?_
        have hc80 : ¬ ((2 : Int32) < (2 : Int32)) := (by decide)
        refine own_G.sk 103 [] (fun _ kq => XS.icmpYes X0.here hx rfl (pc0 := 80) (pc' := 103) rfl (hb hby d19_80) rfl (flt hc80).2.1 (by decide) (by decide) kq) ?_
        refine own_G.sk 105 [(.int 2)] (fun _ kq => XS.iload X0.here hx rfl (hb hby d19_103) rfl kq) ?_
        refine own_G.sk 107 [(.int 2), (.int 2)] (fun _ kq => XS.iload X0.here hx rfl (hb hby d19_105) rfl kq) ?_
        have hc107 : (2 : Int32) = (2 : Int32) := (by decide)
        refine own_G.sk 110 [] (fun _ kq => XS.icmpNo X0.here hx rfl (hb hby d19_107) rfl (teq hc107).2 kq) ?_
        refine own_G.sk 112 [(.int 1)] (fun _ kq => XS.iload X0.here hx rfl (hb hby d19_110) rfl kq) ?_
        exact own_ret X0 e0 (v := some (.int 1)) (fun h => by rw [Bd.returns] at h; cases h) Bd.notSynchronized ⟨(1 : Int32), rfl, N0, rfl, (fun _ => by decide), (fun q => absurd (by rw [hx1]; simp) q)⟩ (by decide) (by decide) (fun fs hr => retI X0 hx Bd.returns (hb hby d19_112) hr)
      · refine own_G.sk 49 [] (fun _ kq => XS.icmpNo X0.here hx rfl (hb hby d19_46) rfl (feq hx1).1 kq) ?_
        refine own_G.sk 30 [] (fun _ kq => XS.goto X0.here hx rfl (pc0 := 49) (pc' := 30) rfl (hb hby d19_49) (by decide) (by decide) kq) ?_
        refine own_G.si 33 [] (fun _ kq => XS.iinc X0.here hx rfl (hb hby d19_30) rfl (l' := #[rv va, iv 3, rv wa, iv 1, iv 0, iv 58, iv 2, .val (.int ((1 : Int32) + (1 : Int32))), .unset, .unset, .unset]) rfl kq) ?_
        have hl28 : ((1 : Int32) + (1 : Int32)) = (2 : Int32) := by decide
        refine own_G.cast (g' := (mkF m 33 #[rv va, iv 3, rv wa, iv 1, iv 0, iv 58, iv 2, iv 2, .unset, .unset, .unset] [])) (by rw [hl28]) ?_
        refine own_G.sk 35 [(.int 2)] (fun _ kq => XS.iload X0.here hx rfl (hb hby d19_33) rfl kq) ?_
        refine own_G.sk 37 [(.int 2), (.int 2)] (fun _ kq => XS.iload X0.here hx rfl (hb hby d19_35) rfl kq) ?_
        have hc37 : ¬ ((2 : Int32) < (2 : Int32)) := (by decide)
        refine own_G.sk 40 [] (fun _ kq => XS.icmpNo X0.here hx rfl (hb hby d19_37) rfl (flt hc37).2.2.1 kq) ?_
        refine own_G.sk 41 [(.ref va)] (fun _ kq => XS.aloadN X0.here hx rfl (hb hby d19_40) rfl rfl kq) ?_
        refine own_G.sk 43 [(.int 2), (.ref va)] (fun _ kq => XS.iload X0.here hx rfl (hb hby d19_41) rfl kq) ?_
        obtain ⟨cl29, Ar29, hin29, hat29⟩ := id (own_At.arv (i := (2 : Int32)) (b := x2) Av ⟨by decide, by decide⟩ rfl)
        refine own_G.sk 44 [(.int x2)] (fun _ kq => X0.baloadBytes hx (j := (2 : Int32)) (v := (.int x2)) (by rw [e0]; exact Ar29.1) (State.isArrayOf_alike hZ.alike Ar29.2.1) Ar29.2.2 hin29 hat29 (g := (mkF m 43 #[rv va, iv 3, rv wa, iv 1, iv 0, iv 58, iv 2, iv 2, .unset, .unset, .unset] [(.int 2), (.ref va)])) rfl rfl (hb hby d19_43) _ kq) ?_
        refine own_G.sk 46 [(.int 58), (.int x2)] (fun _ kq => XS.iload X0.here hx rfl (hb hby d19_44) rfl kq) ?_
        rcases Classical.em (x2 = (58 : Int32)) with hx2 | hx2
        · refine own_G.sk 52 [] (fun _ kq => XS.icmpYes X0.here hx rfl (pc0 := 46) (pc' := 52) rfl (hb hby d19_46) rfl (teq hx2).1 (by decide) (by decide) kq) ?_
          refine own_G.sk 54 [(.int 2)] (fun _ kq => XS.iload X0.here hx rfl (hb hby d19_52) rfl kq) ?_
          refine own_G.sk 56 [(.int 2), (.int 2)] (fun _ kq => XS.iload X0.here hx rfl (hb hby d19_54) rfl kq) ?_
          have hc56 : ¬ ((2 : Int32) < (2 : Int32)) := (by decide)
          refine own_G.sk 59 [] (fun _ kq => XS.icmpNo X0.here hx rfl (hb hby d19_56) rfl (flt hc56).2.2.1 kq) ?_
          refine own_G.sk 61 [(.int 2)] (fun _ kq => XS.iload X0.here hx rfl (hb hby d19_59) rfl kq) ?_
          refine own_G.sk 62 [(.int 1), (.int 2)] (fun _ kq => XS.iconst X0.here hx rfl (hb hby d19_61) kq) ?_
          refine own_G.sk 63 [(.int ((2 : Int32) + (1 : Int32)))] (fun _ kq => XS.iadd X0.here hx rfl (hb hby d19_62) rfl kq) ?_
          refine own_G.si 65 [] (fun _ kq => XS.istore X0.here hx rfl (hb hby d19_63) rfl (l' := #[rv va, iv 3, rv wa, iv 1, iv 0, iv 58, iv 2, iv 2, .val (.int ((2 : Int32) + (1 : Int32))), .unset, .unset]) rfl kq) ?_
          have hl30 : ((2 : Int32) + (1 : Int32)) = (3 : Int32) := by decide
          refine own_G.cast (g' := (mkF m 65 #[rv va, iv 3, rv wa, iv 1, iv 0, iv 58, iv 2, iv 2, iv 3, .unset, .unset] [])) (by rw [hl30]) ?_
          refine own_G.sk 67 [(.int 3)] (fun _ kq => XS.iload X0.here hx rfl (hb hby d19_65) rfl kq) ?_
          refine own_G.sk 68 [(.int 1), (.int 3)] (fun _ kq => XS.iloadN X0.here hx rfl (hb hby d19_67) rfl kq) ?_
          refine own_G.sk 69 [(.int ((3 : Int32) + (1 : Int32)))] (fun _ kq => XS.iadd X0.here hx rfl (hb hby d19_68) rfl kq) ?_
          refine own_G.sk 70 [(.int 1), (.int ((3 : Int32) + (1 : Int32)))] (fun _ kq => XS.iconst X0.here hx rfl (hb hby d19_69) kq) ?_
          refine own_G.sk 71 [(.int (((3 : Int32) + (1 : Int32)) - (1 : Int32)))] (fun _ kq => XS.isub X0.here hx rfl (hb hby d19_70) rfl kq) ?_
          refine own_G.si 73 [] (fun _ kq => XS.istore X0.here hx rfl (hb hby d19_71) rfl (l' := #[rv va, iv 3, rv wa, iv 1, iv 0, iv 58, iv 2, iv 2, iv 3, .val (.int (((3 : Int32) + (1 : Int32)) - (1 : Int32))), .unset]) rfl kq) ?_
          have hl31 : (((3 : Int32) + (1 : Int32)) - (1 : Int32)) = (3 : Int32) := by decide
          refine own_G.cast (g' := (mkF m 73 #[rv va, iv 3, rv wa, iv 1, iv 0, iv 58, iv 2, iv 2, iv 3, iv 3, .unset] [])) (by rw [hl31]) ?_
          refine own_G.sk 74 [(.int 1)] (fun _ kq => XS.iconst X0.here hx rfl (hb hby d19_73) kq) ?_
          refine own_G.si 76 [] (fun _ kq => XS.istore X0.here hx rfl (hb hby d19_74) rfl (l' := #[rv va, iv 3, rv wa, iv 1, iv 0, iv 58, iv 2, iv 2, iv 3, iv 3, iv 1]) rfl kq) ?_
          refine own_G.sk 78 [(.int 3)] (fun _ kq => XS.iload X0.here hx rfl (hb hby d19_76) rfl kq) ?_
          refine own_G.sk 80 [(.int 3), (.int 3)] (fun _ kq => XS.iload X0.here hx rfl (hb hby d19_78) rfl kq) ?_
          have hc80 : ¬ ((3 : Int32) < (3 : Int32)) := (by decide)
          refine own_G.sk 103 [] (fun _ kq => XS.icmpYes X0.here hx rfl (pc0 := 80) (pc' := 103) rfl (hb hby d19_80) rfl (flt hc80).2.1 (by decide) (by decide) kq) ?_
          refine own_G.sk 105 [(.int 3)] (fun _ kq => XS.iload X0.here hx rfl (hb hby d19_103) rfl kq) ?_
          refine own_G.sk 107 [(.int 3), (.int 3)] (fun _ kq => XS.iload X0.here hx rfl (hb hby d19_105) rfl kq) ?_
          have hc107 : (3 : Int32) = (3 : Int32) := (by decide)
          refine own_G.sk 110 [] (fun _ kq => XS.icmpNo X0.here hx rfl (hb hby d19_107) rfl (teq hc107).2 kq) ?_
          refine own_G.sk 112 [(.int 2)] (fun _ kq => XS.iload X0.here hx rfl (hb hby d19_110) rfl kq) ?_
          exact own_ret X0 e0 (v := some (.int 2)) (fun h => by rw [Bd.returns] at h; cases h) Bd.notSynchronized ⟨(2 : Int32), rfl, N0, rfl, (fun _ => by decide), (fun q => absurd (by rw [hx2]; simp) q)⟩ (by decide) (by decide) (fun fs hr => retI X0 hx Bd.returns (hb hby d19_112) hr)
        · refine own_G.sk 49 [] (fun _ kq => XS.icmpNo X0.here hx rfl (hb hby d19_46) rfl (feq hx2).1 kq) ?_
          refine own_G.sk 30 [] (fun _ kq => XS.goto X0.here hx rfl (pc0 := 49) (pc' := 30) rfl (hb hby d19_49) (by decide) (by decide) kq) ?_
          refine own_G.si 33 [] (fun _ kq => XS.iinc X0.here hx rfl (hb hby d19_30) rfl (l' := #[rv va, iv 3, rv wa, iv 1, iv 0, iv 58, iv 2, .val (.int ((2 : Int32) + (1 : Int32))), .unset, .unset, .unset]) rfl kq) ?_
          have hl32 : ((2 : Int32) + (1 : Int32)) = (3 : Int32) := by decide
          refine own_G.cast (g' := (mkF m 33 #[rv va, iv 3, rv wa, iv 1, iv 0, iv 58, iv 2, iv 3, .unset, .unset, .unset] [])) (by rw [hl32]) ?_
          refine own_G.sk 35 [(.int 3)] (fun _ kq => XS.iload X0.here hx rfl (hb hby d19_33) rfl kq) ?_
          refine own_G.sk 37 [(.int 2), (.int 3)] (fun _ kq => XS.iload X0.here hx rfl (hb hby d19_35) rfl kq) ?_
          have hc37 : (2 : Int32) < (3 : Int32) := (by decide)
          refine own_G.sk 52 [] (fun _ kq => XS.icmpYes X0.here hx rfl (pc0 := 37) (pc' := 52) rfl (hb hby d19_37) rfl (tlt hc37).2.2.1 (by decide) (by decide) kq) ?_
          refine own_G.sk 54 [(.int 3)] (fun _ kq => XS.iload X0.here hx rfl (hb hby d19_52) rfl kq) ?_
          refine own_G.sk 56 [(.int 2), (.int 3)] (fun _ kq => XS.iload X0.here hx rfl (hb hby d19_54) rfl kq) ?_
          have hc56 : (2 : Int32) < (3 : Int32) := (by decide)
          refine own_G.sk 113 [] (fun _ kq => XS.icmpYes X0.here hx rfl (pc0 := 56) (pc' := 113) rfl (hb hby d19_56) rfl (tlt hc56).2.2.1 (by decide) (by decide) kq) ?_
          refine own_G.si 116 [] (fun _ kq => XS.iinc X0.here hx rfl (hb hby d19_113) rfl (l' := #[rv va, iv 3, rv wa, iv 1, iv 0, iv 58, iv 2, .val (.int ((3 : Int32) + (1 : Int32))), .unset, .unset, .unset]) rfl kq) ?_
          have hl33 : ((3 : Int32) + (1 : Int32)) = (4 : Int32) := by decide
          refine own_G.cast (g' := (mkF m 116 #[rv va, iv 3, rv wa, iv 1, iv 0, iv 58, iv 2, iv 4, .unset, .unset, .unset] [])) (by rw [hl33]) ?_
          refine own_G.sk 14 [] (fun _ kq => XS.goto X0.here hx rfl (pc0 := 116) (pc' := 14) rfl (hb hby d19_116) (by decide) (by decide) kq) ?_
          refine own_G.sk 16 [(.int 4)] (fun _ kq => XS.iload X0.here hx rfl (hb hby d19_14) rfl kq) ?_
          refine own_G.sk 18 [(.int 2), (.int 4)] (fun _ kq => XS.iload X0.here hx rfl (hb hby d19_16) rfl kq) ?_
          have hc18 : (2 : Int32) < (4 : Int32) := (by decide)
          refine own_G.sk 119 [] (fun _ kq => XS.icmpYes X0.here hx rfl (pc0 := 18) (pc' := 119) rfl (hb hby d19_18) rfl (tlt hc18).2.2.1 (by decide) (by decide) kq) ?_
          refine own_G.sk 120 [(.int (-1 : Int32))] (fun _ kq => XS.iconst X0.here hx rfl (hb hby d19_119) kq) ?_
          exact own_ret X0 e0 (v := some (.int (-1 : Int32))) (fun h => by rw [Bd.returns] at h; cases h) Bd.notSynchronized ⟨(-1 : Int32), rfl, N0, rfl, (fun q => absurd q (by simp [Ne.symm hx0, Ne.symm hx1, Ne.symm hx2])), (fun _ => by decide)⟩ (by decide) (by decide) (fun fs hr => retI X0 hx Bd.returns (hb hby d19_120) hr)
  · refine own_G.sk 1 [(.ref wa)] (fun _ kq => XS.aloadN X0.here hx rfl (hb hby d19_0) rfl rfl kq) ?_
    refine own_G.sk 2 [(.int 0), (.ref wa)] (fun _ kq => XS.iconst X0.here hx rfl (hb hby d19_1) kq) ?_
    obtain ⟨cl34, Ar34, hin34, hat34⟩ := id (own_At.arv (i := (0 : Int32)) (b := (58 : Int32)) Aw ⟨by decide, by decide⟩ rfl)
    refine own_G.sk 3 [(.int 58)] (fun _ kq => X0.baloadBytes hx (j := (0 : Int32)) (v := (.int 58)) (by rw [e0]; exact Ar34.1) (State.isArrayOf_alike hZ.alike Ar34.2.1) Ar34.2.2 hin34 hat34 (g := (mkF m 2 #[rv va, iv 4, rv wa, iv 1, iv 0, .unset, .unset, .unset, .unset, .unset, .unset] [(.int 0), (.ref wa)])) rfl rfl (hb hby d19_2) _ kq) ?_
    refine own_G.si 5 [] (fun _ kq => XS.istore X0.here hx rfl (hb hby d19_3) rfl (l' := #[rv va, iv 4, rv wa, iv 1, iv 0, iv 58, .unset, .unset, .unset, .unset, .unset]) rfl kq) ?_
    refine own_G.sk 6 [(.int 4)] (fun _ kq => XS.iloadN X0.here hx rfl (hb hby d19_5) rfl kq) ?_
    refine own_G.sk 7 [(.int 1), (.int 4)] (fun _ kq => XS.iloadN X0.here hx rfl (hb hby d19_6) rfl kq) ?_
    refine own_G.sk 8 [(.int ((4 : Int32) - (1 : Int32)))] (fun _ kq => XS.isub X0.here hx rfl (hb hby d19_7) rfl kq) ?_
    refine own_G.si 10 [] (fun _ kq => XS.istore X0.here hx rfl (hb hby d19_8) rfl (l' := #[rv va, iv 4, rv wa, iv 1, iv 0, iv 58, .val (.int ((4 : Int32) - (1 : Int32))), .unset, .unset, .unset, .unset]) rfl kq) ?_
    have hl35 : ((4 : Int32) - (1 : Int32)) = (3 : Int32) := by decide
    refine own_G.cast (g' := (mkF m 10 #[rv va, iv 4, rv wa, iv 1, iv 0, iv 58, iv 3, .unset, .unset, .unset, .unset] [])) (by rw [hl35]) ?_
    refine own_G.sk 12 [(.int 0)] (fun _ kq => XS.iload X0.here hx rfl (hb hby d19_10) rfl kq) ?_
    refine own_G.si 14 [] (fun _ kq => XS.istore X0.here hx rfl (hb hby d19_12) rfl (l' := #[rv va, iv 4, rv wa, iv 1, iv 0, iv 58, iv 3, iv 0, .unset, .unset, .unset]) rfl kq) ?_
    refine own_G.sk 16 [(.int 0)] (fun _ kq => XS.iload X0.here hx rfl (hb hby d19_14) rfl kq) ?_
    refine own_G.sk 18 [(.int 3), (.int 0)] (fun _ kq => XS.iload X0.here hx rfl (hb hby d19_16) rfl kq) ?_
    have hc18 : ¬ ((3 : Int32) < (0 : Int32)) := (by decide)
    refine own_G.sk 21 [] (fun _ kq => XS.icmpNo X0.here hx rfl (hb hby d19_18) rfl (flt hc18).2.2.1 kq) ?_
    refine own_G.sk 22 [(.ref va)] (fun _ kq => XS.aloadN X0.here hx rfl (hb hby d19_21) rfl rfl kq) ?_
    refine own_G.sk 24 [(.int 0), (.ref va)] (fun _ kq => XS.iload X0.here hx rfl (hb hby d19_22) rfl kq) ?_
    obtain ⟨cl36, Ar36, hin36, hat36⟩ := id (own_At.arv (i := (0 : Int32)) (b := x0) Av ⟨by decide, by decide⟩ rfl)
    refine own_G.sk 25 [(.int x0)] (fun _ kq => X0.baloadBytes hx (j := (0 : Int32)) (v := (.int x0)) (by rw [e0]; exact Ar36.1) (State.isArrayOf_alike hZ.alike Ar36.2.1) Ar36.2.2 hin36 hat36 (g := (mkF m 24 #[rv va, iv 4, rv wa, iv 1, iv 0, iv 58, iv 3, iv 0, .unset, .unset, .unset] [(.int 0), (.ref va)])) rfl rfl (hb hby d19_24) _ kq) ?_
    refine own_G.sk 27 [(.int 58), (.int x0)] (fun _ kq => XS.iload X0.here hx rfl (hb hby d19_25) rfl kq) ?_
    rcases Classical.em (x0 = (58 : Int32)) with hx0 | hx0
    · refine own_G.sk 52 [] (fun _ kq => XS.icmpYes X0.here hx rfl (pc0 := 27) (pc' := 52) rfl (hb hby d19_27) rfl (teq hx0).1 (by decide) (by decide) kq) ?_
      refine own_G.sk 54 [(.int 0)] (fun _ kq => XS.iload X0.here hx rfl (hb hby d19_52) rfl kq) ?_
      refine own_G.sk 56 [(.int 3), (.int 0)] (fun _ kq => XS.iload X0.here hx rfl (hb hby d19_54) rfl kq) ?_
      have hc56 : ¬ ((3 : Int32) < (0 : Int32)) := (by decide)
      refine own_G.sk 59 [] (fun _ kq => XS.icmpNo X0.here hx rfl (hb hby d19_56) rfl (flt hc56).2.2.1 kq) ?_
      refine own_G.sk 61 [(.int 0)] (fun _ kq => XS.iload X0.here hx rfl (hb hby d19_59) rfl kq) ?_
      refine own_G.sk 62 [(.int 1), (.int 0)] (fun _ kq => XS.iconst X0.here hx rfl (hb hby d19_61) kq) ?_
      refine own_G.sk 63 [(.int ((0 : Int32) + (1 : Int32)))] (fun _ kq => XS.iadd X0.here hx rfl (hb hby d19_62) rfl kq) ?_
      refine own_G.si 65 [] (fun _ kq => XS.istore X0.here hx rfl (hb hby d19_63) rfl (l' := #[rv va, iv 4, rv wa, iv 1, iv 0, iv 58, iv 3, iv 0, .val (.int ((0 : Int32) + (1 : Int32))), .unset, .unset]) rfl kq) ?_
      have hl37 : ((0 : Int32) + (1 : Int32)) = (1 : Int32) := by decide
      refine own_G.cast (g' := (mkF m 65 #[rv va, iv 4, rv wa, iv 1, iv 0, iv 58, iv 3, iv 0, iv 1, .unset, .unset] [])) (by rw [hl37]) ?_
      refine own_G.sk 67 [(.int 1)] (fun _ kq => XS.iload X0.here hx rfl (hb hby d19_65) rfl kq) ?_
      refine own_G.sk 68 [(.int 1), (.int 1)] (fun _ kq => XS.iloadN X0.here hx rfl (hb hby d19_67) rfl kq) ?_
      refine own_G.sk 69 [(.int ((1 : Int32) + (1 : Int32)))] (fun _ kq => XS.iadd X0.here hx rfl (hb hby d19_68) rfl kq) ?_
      refine own_G.sk 70 [(.int 1), (.int ((1 : Int32) + (1 : Int32)))] (fun _ kq => XS.iconst X0.here hx rfl (hb hby d19_69) kq) ?_
      refine own_G.sk 71 [(.int (((1 : Int32) + (1 : Int32)) - (1 : Int32)))] (fun _ kq => XS.isub X0.here hx rfl (hb hby d19_70) rfl kq) ?_
      refine own_G.si 73 [] (fun _ kq => XS.istore X0.here hx rfl (hb hby d19_71) rfl (l' := #[rv va, iv 4, rv wa, iv 1, iv 0, iv 58, iv 3, iv 0, iv 1, .val (.int (((1 : Int32) + (1 : Int32)) - (1 : Int32))), .unset]) rfl kq) ?_
      have hl38 : (((1 : Int32) + (1 : Int32)) - (1 : Int32)) = (1 : Int32) := by decide
      refine own_G.cast (g' := (mkF m 73 #[rv va, iv 4, rv wa, iv 1, iv 0, iv 58, iv 3, iv 0, iv 1, iv 1, .unset] [])) (by rw [hl38]) ?_
      refine own_G.sk 74 [(.int 1)] (fun _ kq => XS.iconst X0.here hx rfl (hb hby d19_73) kq) ?_
      refine own_G.si 76 [] (fun _ kq => XS.istore X0.here hx rfl (hb hby d19_74) rfl (l' := #[rv va, iv 4, rv wa, iv 1, iv 0, iv 58, iv 3, iv 0, iv 1, iv 1, iv 1]) rfl kq) ?_
      refine own_G.sk 78 [(.int 1)] (fun _ kq => XS.iload X0.here hx rfl (hb hby d19_76) rfl kq) ?_
      refine own_G.sk 80 [(.int 1), (.int 1)] (fun _ kq => XS.iload X0.here hx rfl (hb hby d19_78) rfl kq) ?_
      have hc80 : ¬ ((1 : Int32) < (1 : Int32)) := (by decide)
      refine own_G.sk 103 [] (fun _ kq => XS.icmpYes X0.here hx rfl (pc0 := 80) (pc' := 103) rfl (hb hby d19_80) rfl (flt hc80).2.1 (by decide) (by decide) kq) ?_
      refine own_G.sk 105 [(.int 1)] (fun _ kq => XS.iload X0.here hx rfl (hb hby d19_103) rfl kq) ?_
      refine own_G.sk 107 [(.int 1), (.int 1)] (fun _ kq => XS.iload X0.here hx rfl (hb hby d19_105) rfl kq) ?_
      have hc107 : (1 : Int32) = (1 : Int32) := (by decide)
      refine own_G.sk 110 [] (fun _ kq => XS.icmpNo X0.here hx rfl (hb hby d19_107) rfl (teq hc107).2 kq) ?_
      refine own_G.sk 112 [(.int 0)] (fun _ kq => XS.iload X0.here hx rfl (hb hby d19_110) rfl kq) ?_
      exact own_ret X0 e0 (v := some (.int 0)) (fun h => by rw [Bd.returns] at h; cases h) Bd.notSynchronized ⟨(0 : Int32), rfl, N0, rfl, (fun _ => by decide), (fun q => absurd (by rw [hx0]; simp) q)⟩ (by decide) (by decide) (fun fs hr => retI X0 hx Bd.returns (hb hby d19_112) hr)
    · refine own_G.sk 30 [] (fun _ kq => XS.icmpNo X0.here hx rfl (hb hby d19_27) rfl (feq hx0).1 kq) ?_
      refine own_G.si 33 [] (fun _ kq => XS.iinc X0.here hx rfl (hb hby d19_30) rfl (l' := #[rv va, iv 4, rv wa, iv 1, iv 0, iv 58, iv 3, .val (.int ((0 : Int32) + (1 : Int32))), .unset, .unset, .unset]) rfl kq) ?_
      have hl39 : ((0 : Int32) + (1 : Int32)) = (1 : Int32) := by decide
      refine own_G.cast (g' := (mkF m 33 #[rv va, iv 4, rv wa, iv 1, iv 0, iv 58, iv 3, iv 1, .unset, .unset, .unset] [])) (by rw [hl39]) ?_
      refine own_G.sk 35 [(.int 1)] (fun _ kq => XS.iload X0.here hx rfl (hb hby d19_33) rfl kq) ?_
      refine own_G.sk 37 [(.int 3), (.int 1)] (fun _ kq => XS.iload X0.here hx rfl (hb hby d19_35) rfl kq) ?_
      have hc37 : ¬ ((3 : Int32) < (1 : Int32)) := (by decide)
      refine own_G.sk 40 [] (fun _ kq => XS.icmpNo X0.here hx rfl (hb hby d19_37) rfl (flt hc37).2.2.1 kq) ?_
      refine own_G.sk 41 [(.ref va)] (fun _ kq => XS.aloadN X0.here hx rfl (hb hby d19_40) rfl rfl kq) ?_
      refine own_G.sk 43 [(.int 1), (.ref va)] (fun _ kq => XS.iload X0.here hx rfl (hb hby d19_41) rfl kq) ?_
      obtain ⟨cl40, Ar40, hin40, hat40⟩ := id (own_At.arv (i := (1 : Int32)) (b := x1) Av ⟨by decide, by decide⟩ rfl)
      refine own_G.sk 44 [(.int x1)] (fun _ kq => X0.baloadBytes hx (j := (1 : Int32)) (v := (.int x1)) (by rw [e0]; exact Ar40.1) (State.isArrayOf_alike hZ.alike Ar40.2.1) Ar40.2.2 hin40 hat40 (g := (mkF m 43 #[rv va, iv 4, rv wa, iv 1, iv 0, iv 58, iv 3, iv 1, .unset, .unset, .unset] [(.int 1), (.ref va)])) rfl rfl (hb hby d19_43) _ kq) ?_
      refine own_G.sk 46 [(.int 58), (.int x1)] (fun _ kq => XS.iload X0.here hx rfl (hb hby d19_44) rfl kq) ?_
      rcases Classical.em (x1 = (58 : Int32)) with hx1 | hx1
      · refine own_G.sk 52 [] (fun _ kq => XS.icmpYes X0.here hx rfl (pc0 := 46) (pc' := 52) rfl (hb hby d19_46) rfl (teq hx1).1 (by decide) (by decide) kq) ?_
        refine own_G.sk 54 [(.int 1)] (fun _ kq => XS.iload X0.here hx rfl (hb hby d19_52) rfl kq) ?_
        refine own_G.sk 56 [(.int 3), (.int 1)] (fun _ kq => XS.iload X0.here hx rfl (hb hby d19_54) rfl kq) ?_
        have hc56 : ¬ ((3 : Int32) < (1 : Int32)) := (by decide)
        refine own_G.sk 59 [] (fun _ kq => XS.icmpNo X0.here hx rfl (hb hby d19_56) rfl (flt hc56).2.2.1 kq) ?_
        refine own_G.sk 61 [(.int 1)] (fun _ kq => XS.iload X0.here hx rfl (hb hby d19_59) rfl kq) ?_
        refine own_G.sk 62 [(.int 1), (.int 1)] (fun _ kq => XS.iconst X0.here hx rfl (hb hby d19_61) kq) ?_
        refine own_G.sk 63 [(.int ((1 : Int32) + (1 : Int32)))] (fun _ kq => XS.iadd X0.here hx rfl (hb hby d19_62) rfl kq) ?_
        refine own_G.si 65 [] (fun _ kq => XS.istore X0.here hx rfl (hb hby d19_63) rfl (l' := #[rv va, iv 4, rv wa, iv 1, iv 0, iv 58, iv 3, iv 1, .val (.int ((1 : Int32) + (1 : Int32))), .unset, .unset]) rfl kq) ?_
        have hl41 : ((1 : Int32) + (1 : Int32)) = (2 : Int32) := by decide
        refine own_G.cast (g' := (mkF m 65 #[rv va, iv 4, rv wa, iv 1, iv 0, iv 58, iv 3, iv 1, iv 2, .unset, .unset] [])) (by rw [hl41]) ?_
        refine own_G.sk 67 [(.int 2)] (fun _ kq => XS.iload X0.here hx rfl (hb hby d19_65) rfl kq) ?_
        refine own_G.sk 68 [(.int 1), (.int 2)] (fun _ kq => XS.iloadN X0.here hx rfl (hb hby d19_67) rfl kq) ?_
        refine own_G.sk 69 [(.int ((2 : Int32) + (1 : Int32)))] (fun _ kq => XS.iadd X0.here hx rfl (hb hby d19_68) rfl kq) ?_
        refine own_G.sk 70 [(.int 1), (.int ((2 : Int32) + (1 : Int32)))] (fun _ kq => XS.iconst X0.here hx rfl (hb hby d19_69) kq) ?_
        refine own_G.sk 71 [(.int (((2 : Int32) + (1 : Int32)) - (1 : Int32)))] (fun _ kq => XS.isub X0.here hx rfl (hb hby d19_70) rfl kq) ?_
        refine own_G.si 73 [] (fun _ kq => XS.istore X0.here hx rfl (hb hby d19_71) rfl (l' := #[rv va, iv 4, rv wa, iv 1, iv 0, iv 58, iv 3, iv 1, iv 2, .val (.int (((2 : Int32) + (1 : Int32)) - (1 : Int32))), .unset]) rfl kq) ?_
        have hl42 : (((2 : Int32) + (1 : Int32)) - (1 : Int32)) = (2 : Int32) := by decide
        refine own_G.cast (g' := (mkF m 73 #[rv va, iv 4, rv wa, iv 1, iv 0, iv 58, iv 3, iv 1, iv 2, iv 2, .unset] [])) (by rw [hl42]) ?_
        refine own_G.sk 74 [(.int 1)] (fun _ kq => XS.iconst X0.here hx rfl (hb hby d19_73) kq) ?_
        refine own_G.si 76 [] (fun _ kq => XS.istore X0.here hx rfl (hb hby d19_74) rfl (l' := #[rv va, iv 4, rv wa, iv 1, iv 0, iv 58, iv 3, iv 1, iv 2, iv 2, iv 1]) rfl kq) ?_
        refine own_G.sk 78 [(.int 2)] (fun _ kq => XS.iload X0.here hx rfl (hb hby d19_76) rfl kq) ?_
        refine own_G.sk 80 [(.int 2), (.int 2)] (fun _ kq => XS.iload X0.here hx rfl (hb hby d19_78) rfl kq) ?_
        have hc80 : ¬ ((2 : Int32) < (2 : Int32)) := (by decide)
        refine own_G.sk 103 [] (fun _ kq => XS.icmpYes X0.here hx rfl (pc0 := 80) (pc' := 103) rfl (hb hby d19_80) rfl (flt hc80).2.1 (by decide) (by decide) kq) ?_
        refine own_G.sk 105 [(.int 2)] (fun _ kq => XS.iload X0.here hx rfl (hb hby d19_103) rfl kq) ?_
        refine own_G.sk 107 [(.int 2), (.int 2)] (fun _ kq => XS.iload X0.here hx rfl (hb hby d19_105) rfl kq) ?_
        have hc107 : (2 : Int32) = (2 : Int32) := (by decide)
        refine own_G.sk 110 [] (fun _ kq => XS.icmpNo X0.here hx rfl (hb hby d19_107) rfl (teq hc107).2 kq) ?_
        refine own_G.sk 112 [(.int 1)] (fun _ kq => XS.iload X0.here hx rfl (hb hby d19_110) rfl kq) ?_
        exact own_ret X0 e0 (v := some (.int 1)) (fun h => by rw [Bd.returns] at h; cases h) Bd.notSynchronized ⟨(1 : Int32), rfl, N0, rfl, (fun _ => by decide), (fun q => absurd (by rw [hx1]; simp) q)⟩ (by decide) (by decide) (fun fs hr => retI X0 hx Bd.returns (hb hby d19_112) hr)
      · refine own_G.sk 49 [] (fun _ kq => XS.icmpNo X0.here hx rfl (hb hby d19_46) rfl (feq hx1).1 kq) ?_
        refine own_G.sk 30 [] (fun _ kq => XS.goto X0.here hx rfl (pc0 := 49) (pc' := 30) rfl (hb hby d19_49) (by decide) (by decide) kq) ?_
        refine own_G.si 33 [] (fun _ kq => XS.iinc X0.here hx rfl (hb hby d19_30) rfl (l' := #[rv va, iv 4, rv wa, iv 1, iv 0, iv 58, iv 3, .val (.int ((1 : Int32) + (1 : Int32))), .unset, .unset, .unset]) rfl kq) ?_
        have hl43 : ((1 : Int32) + (1 : Int32)) = (2 : Int32) := by decide
        refine own_G.cast (g' := (mkF m 33 #[rv va, iv 4, rv wa, iv 1, iv 0, iv 58, iv 3, iv 2, .unset, .unset, .unset] [])) (by rw [hl43]) ?_
        refine own_G.sk 35 [(.int 2)] (fun _ kq => XS.iload X0.here hx rfl (hb hby d19_33) rfl kq) ?_
        refine own_G.sk 37 [(.int 3), (.int 2)] (fun _ kq => XS.iload X0.here hx rfl (hb hby d19_35) rfl kq) ?_
        have hc37 : ¬ ((3 : Int32) < (2 : Int32)) := (by decide)
        refine own_G.sk 40 [] (fun _ kq => XS.icmpNo X0.here hx rfl (hb hby d19_37) rfl (flt hc37).2.2.1 kq) ?_
        refine own_G.sk 41 [(.ref va)] (fun _ kq => XS.aloadN X0.here hx rfl (hb hby d19_40) rfl rfl kq) ?_
        refine own_G.sk 43 [(.int 2), (.ref va)] (fun _ kq => XS.iload X0.here hx rfl (hb hby d19_41) rfl kq) ?_
        obtain ⟨cl44, Ar44, hin44, hat44⟩ := id (own_At.arv (i := (2 : Int32)) (b := x2) Av ⟨by decide, by decide⟩ rfl)
        refine own_G.sk 44 [(.int x2)] (fun _ kq => X0.baloadBytes hx (j := (2 : Int32)) (v := (.int x2)) (by rw [e0]; exact Ar44.1) (State.isArrayOf_alike hZ.alike Ar44.2.1) Ar44.2.2 hin44 hat44 (g := (mkF m 43 #[rv va, iv 4, rv wa, iv 1, iv 0, iv 58, iv 3, iv 2, .unset, .unset, .unset] [(.int 2), (.ref va)])) rfl rfl (hb hby d19_43) _ kq) ?_
        refine own_G.sk 46 [(.int 58), (.int x2)] (fun _ kq => XS.iload X0.here hx rfl (hb hby d19_44) rfl kq) ?_
        rcases Classical.em (x2 = (58 : Int32)) with hx2 | hx2
        · refine own_G.sk 52 [] (fun _ kq => XS.icmpYes X0.here hx rfl (pc0 := 46) (pc' := 52) rfl (hb hby d19_46) rfl (teq hx2).1 (by decide) (by decide) kq) ?_
          refine own_G.sk 54 [(.int 2)] (fun _ kq => XS.iload X0.here hx rfl (hb hby d19_52) rfl kq) ?_
          refine own_G.sk 56 [(.int 3), (.int 2)] (fun _ kq => XS.iload X0.here hx rfl (hb hby d19_54) rfl kq) ?_
          have hc56 : ¬ ((3 : Int32) < (2 : Int32)) := (by decide)
          refine own_G.sk 59 [] (fun _ kq => XS.icmpNo X0.here hx rfl (hb hby d19_56) rfl (flt hc56).2.2.1 kq) ?_
          refine own_G.sk 61 [(.int 2)] (fun _ kq => XS.iload X0.here hx rfl (hb hby d19_59) rfl kq) ?_
          refine own_G.sk 62 [(.int 1), (.int 2)] (fun _ kq => XS.iconst X0.here hx rfl (hb hby d19_61) kq) ?_
          refine own_G.sk 63 [(.int ((2 : Int32) + (1 : Int32)))] (fun _ kq => XS.iadd X0.here hx rfl (hb hby d19_62) rfl kq) ?_
          refine own_G.si 65 [] (fun _ kq => XS.istore X0.here hx rfl (hb hby d19_63) rfl (l' := #[rv va, iv 4, rv wa, iv 1, iv 0, iv 58, iv 3, iv 2, .val (.int ((2 : Int32) + (1 : Int32))), .unset, .unset]) rfl kq) ?_
          have hl45 : ((2 : Int32) + (1 : Int32)) = (3 : Int32) := by decide
          refine own_G.cast (g' := (mkF m 65 #[rv va, iv 4, rv wa, iv 1, iv 0, iv 58, iv 3, iv 2, iv 3, .unset, .unset] [])) (by rw [hl45]) ?_
          refine own_G.sk 67 [(.int 3)] (fun _ kq => XS.iload X0.here hx rfl (hb hby d19_65) rfl kq) ?_
          refine own_G.sk 68 [(.int 1), (.int 3)] (fun _ kq => XS.iloadN X0.here hx rfl (hb hby d19_67) rfl kq) ?_
          refine own_G.sk 69 [(.int ((3 : Int32) + (1 : Int32)))] (fun _ kq => XS.iadd X0.here hx rfl (hb hby d19_68) rfl kq) ?_
          refine own_G.sk 70 [(.int 1), (.int ((3 : Int32) + (1 : Int32)))] (fun _ kq => XS.iconst X0.here hx rfl (hb hby d19_69) kq) ?_
          refine own_G.sk 71 [(.int (((3 : Int32) + (1 : Int32)) - (1 : Int32)))] (fun _ kq => XS.isub X0.here hx rfl (hb hby d19_70) rfl kq) ?_
          refine own_G.si 73 [] (fun _ kq => XS.istore X0.here hx rfl (hb hby d19_71) rfl (l' := #[rv va, iv 4, rv wa, iv 1, iv 0, iv 58, iv 3, iv 2, iv 3, .val (.int (((3 : Int32) + (1 : Int32)) - (1 : Int32))), .unset]) rfl kq) ?_
          have hl46 : (((3 : Int32) + (1 : Int32)) - (1 : Int32)) = (3 : Int32) := by decide
          refine own_G.cast (g' := (mkF m 73 #[rv va, iv 4, rv wa, iv 1, iv 0, iv 58, iv 3, iv 2, iv 3, iv 3, .unset] [])) (by rw [hl46]) ?_
          refine own_G.sk 74 [(.int 1)] (fun _ kq => XS.iconst X0.here hx rfl (hb hby d19_73) kq) ?_
          refine own_G.si 76 [] (fun _ kq => XS.istore X0.here hx rfl (hb hby d19_74) rfl (l' := #[rv va, iv 4, rv wa, iv 1, iv 0, iv 58, iv 3, iv 2, iv 3, iv 3, iv 1]) rfl kq) ?_
          refine own_G.sk 78 [(.int 3)] (fun _ kq => XS.iload X0.here hx rfl (hb hby d19_76) rfl kq) ?_
          refine own_G.sk 80 [(.int 3), (.int 3)] (fun _ kq => XS.iload X0.here hx rfl (hb hby d19_78) rfl kq) ?_
          have hc80 : ¬ ((3 : Int32) < (3 : Int32)) := (by decide)
          refine own_G.sk 103 [] (fun _ kq => XS.icmpYes X0.here hx rfl (pc0 := 80) (pc' := 103) rfl (hb hby d19_80) rfl (flt hc80).2.1 (by decide) (by decide) kq) ?_
          refine own_G.sk 105 [(.int 3)] (fun _ kq => XS.iload X0.here hx rfl (hb hby d19_103) rfl kq) ?_
          refine own_G.sk 107 [(.int 3), (.int 3)] (fun _ kq => XS.iload X0.here hx rfl (hb hby d19_105) rfl kq) ?_
          have hc107 : (3 : Int32) = (3 : Int32) := (by decide)
          refine own_G.sk 110 [] (fun _ kq => XS.icmpNo X0.here hx rfl (hb hby d19_107) rfl (teq hc107).2 kq) ?_
          refine own_G.sk 112 [(.int 2)] (fun _ kq => XS.iload X0.here hx rfl (hb hby d19_110) rfl kq) ?_
          exact own_ret X0 e0 (v := some (.int 2)) (fun h => by rw [Bd.returns] at h; cases h) Bd.notSynchronized ⟨(2 : Int32), rfl, N0, rfl, (fun _ => by decide), (fun q => absurd (by rw [hx2]; simp) q)⟩ (by decide) (by decide) (fun fs hr => retI X0 hx Bd.returns (hb hby d19_112) hr)
        · refine own_G.sk 49 [] (fun _ kq => XS.icmpNo X0.here hx rfl (hb hby d19_46) rfl (feq hx2).1 kq) ?_
          refine own_G.sk 30 [] (fun _ kq => XS.goto X0.here hx rfl (pc0 := 49) (pc' := 30) rfl (hb hby d19_49) (by decide) (by decide) kq) ?_
          refine own_G.si 33 [] (fun _ kq => XS.iinc X0.here hx rfl (hb hby d19_30) rfl (l' := #[rv va, iv 4, rv wa, iv 1, iv 0, iv 58, iv 3, .val (.int ((2 : Int32) + (1 : Int32))), .unset, .unset, .unset]) rfl kq) ?_
          have hl47 : ((2 : Int32) + (1 : Int32)) = (3 : Int32) := by decide
          refine own_G.cast (g' := (mkF m 33 #[rv va, iv 4, rv wa, iv 1, iv 0, iv 58, iv 3, iv 3, .unset, .unset, .unset] [])) (by rw [hl47]) ?_
          refine own_G.sk 35 [(.int 3)] (fun _ kq => XS.iload X0.here hx rfl (hb hby d19_33) rfl kq) ?_
          refine own_G.sk 37 [(.int 3), (.int 3)] (fun _ kq => XS.iload X0.here hx rfl (hb hby d19_35) rfl kq) ?_
          have hc37 : ¬ ((3 : Int32) < (3 : Int32)) := (by decide)
          refine own_G.sk 40 [] (fun _ kq => XS.icmpNo X0.here hx rfl (hb hby d19_37) rfl (flt hc37).2.2.1 kq) ?_
          refine own_G.sk 41 [(.ref va)] (fun _ kq => XS.aloadN X0.here hx rfl (hb hby d19_40) rfl rfl kq) ?_
          refine own_G.sk 43 [(.int 3), (.ref va)] (fun _ kq => XS.iload X0.here hx rfl (hb hby d19_41) rfl kq) ?_
          obtain ⟨cl48, Ar48, hin48, hat48⟩ := id (own_At.arv (i := (3 : Int32)) (b := x3) Av ⟨by decide, by decide⟩ rfl)
          refine own_G.sk 44 [(.int x3)] (fun _ kq => X0.baloadBytes hx (j := (3 : Int32)) (v := (.int x3)) (by rw [e0]; exact Ar48.1) (State.isArrayOf_alike hZ.alike Ar48.2.1) Ar48.2.2 hin48 hat48 (g := (mkF m 43 #[rv va, iv 4, rv wa, iv 1, iv 0, iv 58, iv 3, iv 3, .unset, .unset, .unset] [(.int 3), (.ref va)])) rfl rfl (hb hby d19_43) _ kq) ?_
          refine own_G.sk 46 [(.int 58), (.int x3)] (fun _ kq => XS.iload X0.here hx rfl (hb hby d19_44) rfl kq) ?_
          rcases Classical.em (x3 = (58 : Int32)) with hx3 | hx3
          · refine own_G.sk 52 [] (fun _ kq => XS.icmpYes X0.here hx rfl (pc0 := 46) (pc' := 52) rfl (hb hby d19_46) rfl (teq hx3).1 (by decide) (by decide) kq) ?_
            refine own_G.sk 54 [(.int 3)] (fun _ kq => XS.iload X0.here hx rfl (hb hby d19_52) rfl kq) ?_
            refine own_G.sk 56 [(.int 3), (.int 3)] (fun _ kq => XS.iload X0.here hx rfl (hb hby d19_54) rfl kq) ?_
            have hc56 : ¬ ((3 : Int32) < (3 : Int32)) := (by decide)
            refine own_G.sk 59 [] (fun _ kq => XS.icmpNo X0.here hx rfl (hb hby d19_56) rfl (flt hc56).2.2.1 kq) ?_
            refine own_G.sk 61 [(.int 3)] (fun _ kq => XS.iload X0.here hx rfl (hb hby d19_59) rfl kq) ?_
            refine own_G.sk 62 [(.int 1), (.int 3)] (fun _ kq => XS.iconst X0.here hx rfl (hb hby d19_61) kq) ?_
            refine own_G.sk 63 [(.int ((3 : Int32) + (1 : Int32)))] (fun _ kq => XS.iadd X0.here hx rfl (hb hby d19_62) rfl kq) ?_
            refine own_G.si 65 [] (fun _ kq => XS.istore X0.here hx rfl (hb hby d19_63) rfl (l' := #[rv va, iv 4, rv wa, iv 1, iv 0, iv 58, iv 3, iv 3, .val (.int ((3 : Int32) + (1 : Int32))), .unset, .unset]) rfl kq) ?_
            have hl49 : ((3 : Int32) + (1 : Int32)) = (4 : Int32) := by decide
            refine own_G.cast (g' := (mkF m 65 #[rv va, iv 4, rv wa, iv 1, iv 0, iv 58, iv 3, iv 3, iv 4, .unset, .unset] [])) (by rw [hl49]) ?_
            refine own_G.sk 67 [(.int 4)] (fun _ kq => XS.iload X0.here hx rfl (hb hby d19_65) rfl kq) ?_
            refine own_G.sk 68 [(.int 1), (.int 4)] (fun _ kq => XS.iloadN X0.here hx rfl (hb hby d19_67) rfl kq) ?_
            refine own_G.sk 69 [(.int ((4 : Int32) + (1 : Int32)))] (fun _ kq => XS.iadd X0.here hx rfl (hb hby d19_68) rfl kq) ?_
            refine own_G.sk 70 [(.int 1), (.int ((4 : Int32) + (1 : Int32)))] (fun _ kq => XS.iconst X0.here hx rfl (hb hby d19_69) kq) ?_
            refine own_G.sk 71 [(.int (((4 : Int32) + (1 : Int32)) - (1 : Int32)))] (fun _ kq => XS.isub X0.here hx rfl (hb hby d19_70) rfl kq) ?_
            refine own_G.si 73 [] (fun _ kq => XS.istore X0.here hx rfl (hb hby d19_71) rfl (l' := #[rv va, iv 4, rv wa, iv 1, iv 0, iv 58, iv 3, iv 3, iv 4, .val (.int (((4 : Int32) + (1 : Int32)) - (1 : Int32))), .unset]) rfl kq) ?_
            have hl50 : (((4 : Int32) + (1 : Int32)) - (1 : Int32)) = (4 : Int32) := by decide
            refine own_G.cast (g' := (mkF m 73 #[rv va, iv 4, rv wa, iv 1, iv 0, iv 58, iv 3, iv 3, iv 4, iv 4, .unset] [])) (by rw [hl50]) ?_
            refine own_G.sk 74 [(.int 1)] (fun _ kq => XS.iconst X0.here hx rfl (hb hby d19_73) kq) ?_
            refine own_G.si 76 [] (fun _ kq => XS.istore X0.here hx rfl (hb hby d19_74) rfl (l' := #[rv va, iv 4, rv wa, iv 1, iv 0, iv 58, iv 3, iv 3, iv 4, iv 4, iv 1]) rfl kq) ?_
            refine own_G.sk 78 [(.int 4)] (fun _ kq => XS.iload X0.here hx rfl (hb hby d19_76) rfl kq) ?_
            refine own_G.sk 80 [(.int 4), (.int 4)] (fun _ kq => XS.iload X0.here hx rfl (hb hby d19_78) rfl kq) ?_
            have hc80 : ¬ ((4 : Int32) < (4 : Int32)) := (by decide)
            refine own_G.sk 103 [] (fun _ kq => XS.icmpYes X0.here hx rfl (pc0 := 80) (pc' := 103) rfl (hb hby d19_80) rfl (flt hc80).2.1 (by decide) (by decide) kq) ?_
            refine own_G.sk 105 [(.int 4)] (fun _ kq => XS.iload X0.here hx rfl (hb hby d19_103) rfl kq) ?_
            refine own_G.sk 107 [(.int 4), (.int 4)] (fun _ kq => XS.iload X0.here hx rfl (hb hby d19_105) rfl kq) ?_
            have hc107 : (4 : Int32) = (4 : Int32) := (by decide)
            refine own_G.sk 110 [] (fun _ kq => XS.icmpNo X0.here hx rfl (hb hby d19_107) rfl (teq hc107).2 kq) ?_
            refine own_G.sk 112 [(.int 3)] (fun _ kq => XS.iload X0.here hx rfl (hb hby d19_110) rfl kq) ?_
            exact own_ret X0 e0 (v := some (.int 3)) (fun h => by rw [Bd.returns] at h; cases h) Bd.notSynchronized ⟨(3 : Int32), rfl, N0, rfl, (fun _ => by decide), (fun q => absurd (by rw [hx3]; simp) q)⟩ (by decide) (by decide) (fun fs hr => retI X0 hx Bd.returns (hb hby d19_112) hr)
          · refine own_G.sk 49 [] (fun _ kq => XS.icmpNo X0.here hx rfl (hb hby d19_46) rfl (feq hx3).1 kq) ?_
            refine own_G.sk 30 [] (fun _ kq => XS.goto X0.here hx rfl (pc0 := 49) (pc' := 30) rfl (hb hby d19_49) (by decide) (by decide) kq) ?_
            refine own_G.si 33 [] (fun _ kq => XS.iinc X0.here hx rfl (hb hby d19_30) rfl (l' := #[rv va, iv 4, rv wa, iv 1, iv 0, iv 58, iv 3, .val (.int ((3 : Int32) + (1 : Int32))), .unset, .unset, .unset]) rfl kq) ?_
            have hl51 : ((3 : Int32) + (1 : Int32)) = (4 : Int32) := by decide
            refine own_G.cast (g' := (mkF m 33 #[rv va, iv 4, rv wa, iv 1, iv 0, iv 58, iv 3, iv 4, .unset, .unset, .unset] [])) (by rw [hl51]) ?_
            refine own_G.sk 35 [(.int 4)] (fun _ kq => XS.iload X0.here hx rfl (hb hby d19_33) rfl kq) ?_
            refine own_G.sk 37 [(.int 3), (.int 4)] (fun _ kq => XS.iload X0.here hx rfl (hb hby d19_35) rfl kq) ?_
            have hc37 : (3 : Int32) < (4 : Int32) := (by decide)
            refine own_G.sk 52 [] (fun _ kq => XS.icmpYes X0.here hx rfl (pc0 := 37) (pc' := 52) rfl (hb hby d19_37) rfl (tlt hc37).2.2.1 (by decide) (by decide) kq) ?_
            refine own_G.sk 54 [(.int 4)] (fun _ kq => XS.iload X0.here hx rfl (hb hby d19_52) rfl kq) ?_
            refine own_G.sk 56 [(.int 3), (.int 4)] (fun _ kq => XS.iload X0.here hx rfl (hb hby d19_54) rfl kq) ?_
            have hc56 : (3 : Int32) < (4 : Int32) := (by decide)
            refine own_G.sk 113 [] (fun _ kq => XS.icmpYes X0.here hx rfl (pc0 := 56) (pc' := 113) rfl (hb hby d19_56) rfl (tlt hc56).2.2.1 (by decide) (by decide) kq) ?_
            refine own_G.si 116 [] (fun _ kq => XS.iinc X0.here hx rfl (hb hby d19_113) rfl (l' := #[rv va, iv 4, rv wa, iv 1, iv 0, iv 58, iv 3, .val (.int ((4 : Int32) + (1 : Int32))), .unset, .unset, .unset]) rfl kq) ?_
            have hl52 : ((4 : Int32) + (1 : Int32)) = (5 : Int32) := by decide
            refine own_G.cast (g' := (mkF m 116 #[rv va, iv 4, rv wa, iv 1, iv 0, iv 58, iv 3, iv 5, .unset, .unset, .unset] [])) (by rw [hl52]) ?_
            refine own_G.sk 14 [] (fun _ kq => XS.goto X0.here hx rfl (pc0 := 116) (pc' := 14) rfl (hb hby d19_116) (by decide) (by decide) kq) ?_
            refine own_G.sk 16 [(.int 5)] (fun _ kq => XS.iload X0.here hx rfl (hb hby d19_14) rfl kq) ?_
            refine own_G.sk 18 [(.int 3), (.int 5)] (fun _ kq => XS.iload X0.here hx rfl (hb hby d19_16) rfl kq) ?_
            have hc18 : (3 : Int32) < (5 : Int32) := (by decide)
            refine own_G.sk 119 [] (fun _ kq => XS.icmpYes X0.here hx rfl (pc0 := 18) (pc' := 119) rfl (hb hby d19_18) rfl (tlt hc18).2.2.1 (by decide) (by decide) kq) ?_
            refine own_G.sk 120 [(.int (-1 : Int32))] (fun _ kq => XS.iconst X0.here hx rfl (hb hby d19_119) kq) ?_
            exact own_ret X0 e0 (v := some (.int (-1 : Int32))) (fun h => by rw [Bd.returns] at h; cases h) Bd.notSynchronized ⟨(-1 : Int32), rfl, N0, rfl, (fun q => absurd q (by simp [Ne.symm hx0, Ne.symm hx1, Ne.symm hx2, Ne.symm hx3])), (fun _ => by decide)⟩ (by decide) (by decide) (fun fs hr => retI X0 hx Bd.returns (hb hby d19_120) hr)
theorem pd__28_5bBI_5bBII_29I : parseMethodDescriptor "([BI[BII)I" = some ⟨[(.array .byte), .int, (.array .byte), .int, .int], some .int⟩ := by decide +kernel
theorem d18_0 : decode jdk_43_method_24_code 0 = .ok (.aload_n 1, 1) := by decide +kernel
theorem d18_1 : decode jdk_43_method_24_code 1 = .ok (.arraylength, 1) := by decide +kernel
theorem d18_2 : decode jdk_43_method_24_code 2 = .ok (.ifCond .ne 5, 3) := by decide +kernel
theorem d18_7 : decode jdk_43_method_24_code 7 = .ok (.aload_n 0, 1) := by decide +kernel
theorem d18_8 : decode jdk_43_method_24_code 8 = .ok (.arraylength, 1) := by decide +kernel
theorem d18_9 : decode jdk_43_method_24_code 9 = .ok (.ifCond .ne 5, 3) := by decide +kernel
theorem d18_14 : decode jdk_43_method_24_code 14 = .ok (.aload_n 0, 1) := by decide +kernel
theorem d18_15 : decode jdk_43_method_24_code 15 = .ok (.aload_n 0, 1) := by decide +kernel
theorem d18_16 : decode jdk_43_method_24_code 16 = .ok (.arraylength, 1) := by decide +kernel
theorem d18_17 : decode jdk_43_method_24_code 17 = .ok (.aload_n 1, 1) := by decide +kernel
theorem d18_18 : decode jdk_43_method_24_code 18 = .ok (.aload_n 1, 1) := by decide +kernel
theorem d18_19 : decode jdk_43_method_24_code 19 = .ok (.arraylength, 1) := by decide +kernel
theorem d18_20 : decode jdk_43_method_24_code 20 = .ok (.iconst 0, 1) := by decide +kernel
theorem d18_21 : decode jdk_43_method_24_code 21 = .ok (.invokestatic 99, 3) := by decide +kernel
theorem d18_24 : decode jdk_43_method_24_code 24 = .ok (.ireturn, 1) := by decide +kernel
theorem ef_idx2 (m : MethodId) (va : Addr) (wa : Addr) : entryFrame m #[(.ref va), (.ref wa)] 2 = mkF m 0 #[rv va, rv wa] [] := by
  first | (simp [entryFrame, mkF, argsToLocals, Value.category]; done) | rfl
def Q_idx2 (Z : State) (va : Addr) (wa : Addr) (kv : ClassId) (mm : Int32) (xs : List Int32) (kw : ClassId) (h0 : Heap) (n0 : Nat) (v : Option Value) (h : Heap) (L : List Loc) : Prop := ∃ (r : Int32), v = some (.int r) ∧ Fr n0 L ∧ h = h0 ∧ ((58 : Int32) ∈ xs → ¬ r < (0 : Int32)) ∧ (¬ (58 : Int32) ∈ xs → r < (0 : Int32))
set_option maxRecDepth 65536 in
set_option maxHeartbeats 40000000 in
theorem rm_idx2 (l : Launch) (Z : State) (a0 : Array Value) (hw : ∀ d ∈ tables_1, d.before a0 Z = true) (ws : List Jvm.Cond) (va : Addr) (wa : Addr) (kv : ClassId) (mm : Int32) (xs : List Int32) (kw : ClassId) (h0 : Heap) (n0 : Nat) (O0 : Old Z n0 h0) (Av : Arv Z h0 va kv .byte mm (own_B xs) (.int 0)) (Aw : Arv Z h0 wa kw .byte (1 : Int32) (own_B [(58 : Int32)]) (.int 0)) (hL4 : own_L4 xs mm) :
    MetFree l own_y34 (head1 (Jvm.Cond.code own_y34 jdk_43_method_24_code 2 (some .int) :: ws) ({ frames := 1, cells := 0, slots := 0, locals := 22 } : Room)) (fun aq_ Uq_ => aq_ = #[(.ref va), (.ref wa)] ∧ Z.Warmed39 Uq_.vm ∧ Uq_.heap = h0) (fun _ _ _ _ _ => True) (fun _ Uq_ oq_ Ur_ => ∃ vq_ Lq_, oq_ = .returned vq_ ∧ Q_idx2 Z va wa kv mm xs kw h0 n0 vq_ Ur_.heap Lq_ ∧ FrameEnd Uq_ oq_ Ur_ Lq_ ({ frames := 1, cells := 0, slots := 0, locals := 22 } : Room).cells ({ frames := 1, cells := 0, slots := 0, locals := 22 } : Room).slots) := by
  refine MetFree.of_bodySF (plainFor_of_name pn_java_2flang_2fStringLatin1) hisR ?_
  intro p e s m args below meth c s₁ Bd hml0 hP hK
  obtain ⟨rfl, hZ, hh⟩ := hP
  have W_ : ∀ {d : Jvm.Cond} (i : Nat), tables_1[i]? = some d → d.before a0 Z = true := fun i h => hw _ (List.mem_of_getElem? h)
  have hx := Bd.exec
  have hby := Bd.bytes
  have hml : c.maxLocals = 2 := hml0
  have hown : s.vm.findClass "java/lang/StringLatin1" = some m.cls := findClass_of_methodNamed Bd.named
  have hnm := (name_of_methodNamed Bd.named Bd.method).1
  have X0 : Stand p l e ({ frames := 1, cells := 0, slots := 0, locals := 22 } : Room) s m #[(.ref va), (.ref wa)] below meth c s₁ [] 0 0 := Stand.of_body Bd
  have e0 : s₁.heap = h0 := by rw [← hh, Bd.state]; rfl
  have N0 := Fr.nil n0
  have K0 := Keep.refl h0 []
  refine own_G.start (Q := Q_idx2 Z va wa kv mm xs kw h0 n0) (ef_idx2 m va wa) ?_
  refine own_G.sk 1 [(.ref wa)] (fun _ kq => XS.aloadN X0.here hx rfl (hb hby d18_0) rfl rfl kq) ?_
  obtain ⟨cl1, Ar1, -, Sz1, Nz1, -, -⟩ := id Aw
  refine own_G.step (g' := (mkF m 2 #[rv va, rv wa] [(.int 1)])) (fun tq_ kq_ => X0.arraylength hx (by rw [e0]; exact Ar1.1) (State.isArrayOf_alike hZ.alike Ar1.2.1) (g := (mkF m 1 #[rv va, rv wa] [(.ref wa)])) rfl rfl (hb hby d18_1) _ (by rw [len_of Sz1 Nz1]; exact kq_)) ?_
  have hc2 : ¬ ((1 : Int32) = (0 : Int32)) := (by decide)
  refine own_G.sk 7 [] (fun _ kq => XS.ifYes X0.here hx rfl (pc0 := 2) (pc' := 7) rfl (hb hby d18_2) rfl ((if0 _ _).trans (feq hc2).2) (by decide) (by decide) kq) ?_
  refine own_G.sk 8 [(.ref va)] (fun _ kq => XS.aloadN X0.here hx rfl (hb hby d18_7) rfl rfl kq) ?_
  obtain ⟨cl2, Ar2, -, Sz2, Nz2, -, -⟩ := id Av
  refine own_G.step (g' := (mkF m 9 #[rv va, rv wa] [(.int mm)])) (fun tq_ kq_ => X0.arraylength hx (by rw [e0]; exact Ar2.1) (State.isArrayOf_alike hZ.alike Ar2.2.1) (g := (mkF m 8 #[rv va, rv wa] [(.ref va)])) rfl rfl (hb hby d18_8) _ (by rw [len_of Sz2 Nz2]; exact kq_)) ?_
  have hc9 : ¬ (mm = (0 : Int32)) := hL4.nz
  refine own_G.sk 14 [] (fun _ kq => XS.ifYes X0.here hx rfl (pc0 := 9) (pc' := 14) rfl (hb hby d18_9) rfl ((if0 _ _).trans (feq hc9).2) (by decide) (by decide) kq) ?_
  refine own_G.sk 15 [(.ref va)] (fun _ kq => XS.aloadN X0.here hx rfl (hb hby d18_14) rfl rfl kq) ?_
  refine own_G.sk 16 [(.ref va), (.ref va)] (fun _ kq => XS.aloadN X0.here hx rfl (hb hby d18_15) rfl rfl kq) ?_
  obtain ⟨cl3, Ar3, -, Sz3, Nz3, -, -⟩ := id Av
  refine own_G.step (g' := (mkF m 17 #[rv va, rv wa] [(.int mm), (.ref va)])) (fun tq_ kq_ => X0.arraylength hx (by rw [e0]; exact Ar3.1) (State.isArrayOf_alike hZ.alike Ar3.2.1) (g := (mkF m 16 #[rv va, rv wa] [(.ref va), (.ref va)])) rfl rfl (hb hby d18_16) _ (by rw [len_of Sz3 Nz3]; exact kq_)) ?_
  refine own_G.sk 18 [(.ref wa), (.int mm), (.ref va)] (fun _ kq => XS.aloadN X0.here hx rfl (hb hby d18_17) rfl rfl kq) ?_
  refine own_G.sk 19 [(.ref wa), (.ref wa), (.int mm), (.ref va)] (fun _ kq => XS.aloadN X0.here hx rfl (hb hby d18_18) rfl rfl kq) ?_
  obtain ⟨cl4, Ar4, -, Sz4, Nz4, -, -⟩ := id Aw
  refine own_G.step (g' := (mkF m 20 #[rv va, rv wa] [(.int 1), (.ref wa), (.int mm), (.ref va)])) (fun tq_ kq_ => X0.arraylength hx (by rw [e0]; exact Ar4.1) (State.isArrayOf_alike hZ.alike Ar4.2.1) (g := (mkF m 19 #[rv va, rv wa] [(.ref wa), (.ref wa), (.int mm), (.ref va)])) rfl rfl (hb hby d18_19) _ (by rw [len_of Sz4 Nz4]; exact kq_)) ?_
  refine own_G.sk 21 [(.int 0), (.int 1), (.ref wa), (.int mm), (.ref va)] (fun _ kq => XS.iconst X0.here hx rfl (hb hby d18_20) kq) ?_
  obtain ⟨_, _, ⟨T5, L5, k5, n5⟩, -, X5, ⟨Lc5, hQ5, l5, y5, z5⟩, st5⟩ := Jvm.LawKit.callS X0 hx (y := own_y33) hown (mvT hZ (W_ 103 rfl)) (mvT hZ (W_ 104 rfl)) (mvT hZ (W_ 101 rfl)) (mvT hZ (W_ 105 rfl)) (by decide) (backOf (W := 0) (rm_idx5 l Z a0 hw [] va mm wa kv xs kw h0 n0 O0 Av Aw hL4) hZ (W_ 105 rfl) (W_ 101 rfl) (by decide) (by decide)) (g := (mkF m 21 #[rv va, rv wa] [(.int 0), (.int 1), (.ref wa), (.int mm), (.ref va)])) rfl (by rw [hml]; rfl) (argsL := [(.ref va), (.int mm), (.ref wa), (.int 1), (.int 0)]) (rest := []) (lenOf pd__28_5bBI_5bBII_29I rfl) rfl (by show 2 * 0 + _ ≤ _; exact Nat.le_of_eq rfl) (hb hby d18_21) (fun _ _ => ⟨rfl, e0, (by decide : 0 + 0 ≤ _), (by decide : 0 + 0 ≤ _)⟩)
  dsimp only [Pt.U, Pt.locs, Pt.cells, Pt.slots] at X5 l5 y5 z5 st5 hQ5
  subst l5 y5 z5
  obtain ⟨i6, rfl, Nq5, P7, P8, P9⟩ := hQ5
  have N5 := Fr.app N0 Nq5
  refine own_G.st (T' := T5) 24 [(.int i6)] (fun _ kq => st5 _ kq) ?_
  exact own_ret X5 P7 (v := some (.int i6)) (fun h => by rw [Bd.returns] at h; cases h) Bd.notSynchronized ⟨i6, rfl, N5, rfl, P8, P9⟩ (by decide) (by decide) (fun fs hr => retI X5 hx Bd.returns (hb hby d18_24) hr)
theorem pd__28_5bB_5bB_29I : parseMethodDescriptor "([B[B)I" = some ⟨[(.array .byte), (.array .byte)], some .int⟩ := by decide +kernel
theorem d15_0 : decode jdk_42_method_84_code 0 = .ok (.aload_n 0, 1) := by decide +kernel
theorem d15_1 : decode jdk_42_method_84_code 1 = .ok (.invokevirtual 335, 3) := by decide +kernel
theorem d15_4 : decode jdk_42_method_84_code 4 = .ok (.istore_n 2, 1) := by decide +kernel
theorem d15_5 : decode jdk_42_method_84_code 5 = .ok (.iload_n 2, 1) := by decide +kernel
theorem d15_6 : decode jdk_42_method_84_code 6 = .ok (.aload_n 1, 1) := by decide +kernel
theorem d15_7 : decode jdk_42_method_84_code 7 = .ok (.invokevirtual 335, 3) := by decide +kernel
theorem d15_10 : decode jdk_42_method_84_code 10 = .ok (.if_icmp .ne 36, 3) := by decide +kernel
theorem d15_13 : decode jdk_42_method_84_code 13 = .ok (.aload_n 0, 1) := by decide +kernel
theorem d15_14 : decode jdk_42_method_84_code 14 = .ok (.invokevirtual 492, 3) := by decide +kernel
theorem d15_17 : decode jdk_42_method_84_code 17 = .ok (.ifCond .eq 17, 3) := by decide +kernel
theorem d15_20 : decode jdk_42_method_84_code 20 = .ok (.aload_n 0, 1) := by decide +kernel
theorem d15_21 : decode jdk_42_method_84_code 21 = .ok (.getfield 9, 3) := by decide +kernel
theorem d15_24 : decode jdk_42_method_84_code 24 = .ok (.aload_n 1, 1) := by decide +kernel
theorem d15_25 : decode jdk_42_method_84_code 25 = .ok (.getfield 9, 3) := by decide +kernel
theorem d15_28 : decode jdk_42_method_84_code 28 = .ok (.invokestatic 647, 3) := by decide +kernel
theorem d15_31 : decode jdk_42_method_84_code 31 = .ok (.goto 14, 3) := by decide +kernel
theorem d15_45 : decode jdk_42_method_84_code 45 = .ok (.ireturn, 1) := by decide +kernel
theorem ef_sidx (m : MethodId) (a : Addr) (b : Addr) : entryFrame m #[(.ref a), (.ref b)] 3 = mkF m 0 #[rv a, rv b, .unset] [] := by
  first | (simp [entryFrame, mkF, argsToLocals, Value.category]; done) | rfl
def Q_sidx (Z : State) (a : Addr) (b : Addr) (csz : Int32) (va : Addr) (wa : Addr) (kv : ClassId) (mm : Int32) (xs : List Int32) (kw : ClassId) (h0 : Heap) (n0 : Nat) (v : Option Value) (h : Heap) (L : List Loc) : Prop := ∃ (r : Int32), v = some (.int r) ∧ Fr n0 L ∧ h = h0 ∧ ((58 : Int32) ∈ xs → ¬ r < (0 : Int32)) ∧ (¬ (58 : Int32) ∈ xs → r < (0 : Int32))
set_option maxRecDepth 65536 in
set_option maxHeartbeats 40000000 in
theorem rm_sidx (l : Launch) (Z : State) (a0 : Array Value) (hw : ∀ d ∈ tables_1, d.before a0 Z = true) (ws : List Jvm.Cond) (a : Addr) (b : Addr) (csz : Int32) (va : Addr) (wa : Addr) (kv : ClassId) (mm : Int32) (xs : List Int32) (kw : ClassId) (h0 : Heap) (n0 : Nat) (O0 : Old Z n0 h0) (S_CS : Sta Z Z.heap "java/lang/String" "COMPACT_STRINGS" "Z" (.int csz)) (hcs : ¬ csz = (0 : Int32)) (Ea : Exa Z h0 a "java/lang/String") (Fv : Fld Z h0 a "java/lang/String" "value" "[B" (.ref va)) (Fc : Fld Z h0 a "java/lang/String" "coder" "B" (.int 0)) (Eb : Exa Z h0 b "java/lang/String") (Gv : Fld Z h0 b "java/lang/String" "value" "[B" (.ref wa)) (Gc : Fld Z h0 b "java/lang/String" "coder" "B" (.int 0)) (Av : Arv Z h0 va kv .byte mm (own_B xs) (.int 0)) (Aw : Arv Z h0 wa kw .byte (1 : Int32) (own_B [(58 : Int32)]) (.int 0)) (hL4 : own_L4 xs mm) :
    MetFree l own_y35 (head1 (Jvm.Cond.code own_y35 jdk_42_method_84_code 3 (some .int) :: ws) ({ frames := 2, cells := 0, slots := 0, locals := 35 } : Room)) (fun aq_ Uq_ => aq_ = #[(.ref a), (.ref b)] ∧ Z.Warmed39 Uq_.vm ∧ Uq_.heap = h0) (fun _ _ _ _ _ => True) (fun _ Uq_ oq_ Ur_ => ∃ vq_ Lq_, oq_ = .returned vq_ ∧ Q_sidx Z a b csz va wa kv mm xs kw h0 n0 vq_ Ur_.heap Lq_ ∧ FrameEnd Uq_ oq_ Ur_ Lq_ ({ frames := 2, cells := 0, slots := 0, locals := 35 } : Room).cells ({ frames := 2, cells := 0, slots := 0, locals := 35 } : Room).slots) := by
  refine MetFree.of_bodySF (plainFor_of_name pn_java_2flang_2fString) hisR ?_
  intro p e s m args below meth c s₁ Bd hml0 hP hK
  obtain ⟨rfl, hZ, hh⟩ := hP
  have W_ : ∀ {d : Jvm.Cond} (i : Nat), tables_1[i]? = some d → d.before a0 Z = true := fun i h => hw _ (List.mem_of_getElem? h)
  have hx := Bd.exec
  have hby := Bd.bytes
  have hml : c.maxLocals = 3 := hml0
  have hown : s.vm.findClass "java/lang/String" = some m.cls := findClass_of_methodNamed Bd.named
  have hnm := (name_of_methodNamed Bd.named Bd.method).1
  have X0 : Stand p l e ({ frames := 2, cells := 0, slots := 0, locals := 35 } : Room) s m #[(.ref a), (.ref b)] below meth c s₁ [] 0 0 := Stand.of_body Bd
  have e0 : s₁.heap = h0 := by rw [← hh, Bd.state]; rfl
  have N0 := Fr.nil n0
  have K0 := Keep.refl h0 []
  refine own_G.start (Q := Q_sidx Z a b csz va wa kv mm xs kw h0 n0) (ef_sidx m a b) ?_
  refine own_G.sk 1 [(.ref a)] (fun _ kq => XS.aloadN X0.here hx rfl (hb hby d15_0) rfl rfl kq) ?_
  obtain ⟨cq1, kq1, q1a, q1b, q1c⟩ := isOf hZ e0 Ea
  obtain ⟨_, _, ⟨T1, L1, k1, n1⟩, -, X1, ⟨Lc1, hQ1, l1, y1, z1⟩, st1⟩ := X0.virtualBack hx (y := own_y0) (z := own_y0) hown (mvT hZ (W_ 89 rfl)) (mvT hZ (W_ 90 rfl)) (notFace_of_selects (args := #[]) (mvT hZ (W_ 92 rfl))) (mvT hZ (W_ 92 rfl)) (mvT hZ (W_ 91 rfl)) (by decide) (backOf (W := 0) (rm_coder l Z a0 hw [] a csz h0 n0 O0 S_CS hcs Fc) hZ (W_ 93 rfl) (W_ 8 rfl) (by decide) (by decide)) q1a q1c (g := (mkF m 1 #[rv a, rv b, .unset] [(.ref a)])) rfl (by rw [hml]; rfl) (Steps.refl _) (argsL := []) (rest := []) (lenOf pd__28_29B rfl) rfl (by show 2 * 0 + _ ≤ _; exact Nat.le_of_eq rfl) (hb hby d15_1) (fun _ _ => ⟨rfl, e0, (by decide : 0 + 0 ≤ _), (by decide : 0 + 0 ≤ _)⟩)
  dsimp only [Pt.U, Pt.locs, Pt.cells, Pt.slots] at X1 l1 y1 z1 st1 hQ1
  subst l1 y1 z1
  obtain ⟨rfl, Nq1, P2⟩ := hQ1
  have N1 := Fr.app N0 Nq1
  refine own_G.st (T' := T1) 4 [(.int 0)] (fun _ kq => st1.trans kq) ?_
  refine own_G.si 5 [] (fun _ kq => XS.istoreN X1.here hx rfl (hb hby d15_4) rfl (l' := #[rv a, rv b, iv 0]) rfl kq) ?_
  refine own_G.sk 6 [(.int 0)] (fun _ kq => XS.iloadN X1.here hx rfl (hb hby d15_5) rfl kq) ?_
  refine own_G.sk 7 [(.ref b), (.int 0)] (fun _ kq => XS.aloadN X1.here hx rfl (hb hby d15_6) rfl rfl kq) ?_
  obtain ⟨cq3, kq3, q3a, q3b, q3c⟩ := isOf hZ P2 Eb
  obtain ⟨_, _, ⟨T3, L3, k3, n3⟩, -, X3, ⟨Lc3, hQ3, l3, y3, z3⟩, st3⟩ := X1.virtualBack hx (y := own_y0) (z := own_y0) hown (mvT hZ (W_ 89 rfl)) (mvT hZ (W_ 90 rfl)) (notFace_of_selects (args := #[]) (mvT hZ (W_ 92 rfl))) (mvT hZ (W_ 92 rfl)) (mvT hZ (W_ 91 rfl)) (by decide) (backOf (W := 1) (rm_coder l Z a0 hw [] b csz h0 n0 O0 S_CS hcs Gc) hZ (W_ 93 rfl) (W_ 8 rfl) (by decide) (by decide)) q3a q3c (g := (mkF m 7 #[rv a, rv b, iv 0] [(.ref b), (.int 0)])) rfl (by rw [hml]; rfl) (Steps.refl _) (argsL := []) (rest := [(.int 0)]) (lenOf pd__28_29B rfl) rfl (by show 2 * 0 + _ ≤ _; exact Nat.le_of_eq rfl) (hb hby d15_7) (fun _ _ => ⟨rfl, P2, (by decide : 0 + 0 ≤ _), (by decide : 0 + 0 ≤ _)⟩)
  dsimp only [Pt.U, Pt.locs, Pt.cells, Pt.slots] at X3 l3 y3 z3 st3 hQ3
  subst l3 y3 z3
  obtain ⟨rfl, Nq3, P4⟩ := hQ3
  have N3 := Fr.app N1 Nq3
  refine own_G.st (T' := T3) 10 [(.int 0), (.int 0)] (fun _ kq => st3.trans kq) ?_
  have hc10 : (0 : Int32) = (0 : Int32) := rfl
  refine own_G.sk 13 [] (fun _ kq => XS.icmpNo X3.here hx rfl (hb hby d15_10) rfl (teq hc10).2 kq) ?_
  refine own_G.sk 14 [(.ref a)] (fun _ kq => XS.aloadN X3.here hx rfl (hb hby d15_13) rfl rfl kq) ?_
  obtain ⟨cq5, kq5, q5a, q5b, q5c⟩ := isOf hZ P4 Ea
  obtain ⟨_, _, ⟨T5, L5, k5, n5⟩, -, X5, ⟨Lc5, hQ5, l5, y5, z5⟩, st5⟩ := X3.virtualBack hx (y := own_y1) (z := own_y1) hown (mvT hZ (W_ 94 rfl)) (mvT hZ (W_ 95 rfl)) (notFace_of_selects (args := #[]) (mvT hZ (W_ 97 rfl))) (mvT hZ (W_ 97 rfl)) (mvT hZ (W_ 96 rfl)) (by decide) (backOf (W := 0) (rm_isLat l Z a0 hw [] a csz h0 n0 O0 S_CS hcs Fc) hZ (W_ 98 rfl) (W_ 8 rfl) (by decide) (by decide)) q5a q5c (g := (mkF m 14 #[rv a, rv b, iv 0] [(.ref a)])) rfl (by rw [hml]; rfl) (Steps.refl _) (argsL := []) (rest := []) (lenOf pd__28_29Z rfl) rfl (by show 2 * 0 + _ ≤ _; exact Nat.le_of_eq rfl) (hb hby d15_14) (fun _ _ => ⟨rfl, P4, (by decide : 0 + 0 ≤ _), (by decide : 0 + 0 ≤ _)⟩)
  dsimp only [Pt.U, Pt.locs, Pt.cells, Pt.slots] at X5 l5 y5 z5 st5 hQ5
  subst l5 y5 z5
  obtain ⟨rfl, Nq5, P6⟩ := hQ5
  have N5 := Fr.app N3 Nq5
  refine own_G.st (T' := T5) 17 [(.int 1)] (fun _ kq => st5.trans kq) ?_
  have hc17 : ¬ ((1 : Int32) = (0 : Int32)) := (by decide)
  refine own_G.sk 20 [] (fun _ kq => XS.ifNo X5.here hx rfl (hb hby d15_17) rfl ((if0 _ _).trans (feq hc17).1) kq) ?_
  refine own_G.sk 21 [(.ref a)] (fun _ kq => XS.aloadN X5.here hx rfl (hb hby d15_20) rfl rfl kq) ?_
  obtain ⟨T7, X7, e7, st7⟩ := getF X5 hx hZ hown (host := "") (Or.inl (W_ 33 rfl)) Via.refl P6 Fv (g := (mkF m 21 #[rv a, rv b, iv 0] [(.ref a)])) rfl rfl (hb hby d15_21)
  refine own_G.st (T' := T7) 24 [(.ref va)] st7 ?_
  refine own_G.sk 25 [(.ref b), (.ref va)] (fun _ kq => XS.aloadN X7.here hx rfl (hb hby d15_24) rfl rfl kq) ?_
  obtain ⟨T8, X8, e8, st8⟩ := getF X7 hx hZ hown (host := "") (Or.inl (W_ 33 rfl)) Via.refl e7 Gv (g := (mkF m 25 #[rv a, rv b, iv 0] [(.ref b), (.ref va)])) rfl rfl (hb hby d15_25)
  refine own_G.st (T' := T8) 28 [(.ref wa), (.ref va)] st8 ?_
  obtain ⟨_, _, ⟨T9, L9, k9, n9⟩, -, X9, ⟨Lc9, hQ9, l9, y9, z9⟩, st9⟩ := Jvm.LawKit.callS X8 hx (y := own_y34) hown (mvT hZ (W_ 99 rfl)) (mvT hZ (W_ 100 rfl)) (mvT hZ (W_ 101 rfl)) (mvT hZ (W_ 102 rfl)) (by decide) (backOf (W := 0) (rm_idx2 l Z a0 hw [] va wa kv mm xs kw h0 n0 O0 Av Aw hL4) hZ (W_ 102 rfl) (W_ 101 rfl) (by decide) (by decide)) (g := (mkF m 28 #[rv a, rv b, iv 0] [(.ref wa), (.ref va)])) rfl (by rw [hml]; rfl) (argsL := [(.ref va), (.ref wa)]) (rest := []) (lenOf pd__28_5bB_5bB_29I rfl) rfl (by show 2 * 0 + _ ≤ _; exact Nat.le_of_eq rfl) (hb hby d15_28) (fun _ _ => ⟨rfl, e8, (by decide : 0 + 0 ≤ _), (by decide : 0 + 0 ≤ _)⟩)
  dsimp only [Pt.U, Pt.locs, Pt.cells, Pt.slots] at X9 l9 y9 z9 st9 hQ9
  subst l9 y9 z9
  obtain ⟨i10, rfl, Nq9, P11, P12, P13⟩ := hQ9
  have N9 := Fr.app N5 Nq9
  refine own_G.st (T' := T9) 31 [(.int i10)] (fun _ kq => st9 _ kq) ?_
  refine own_G.sk 45 [(.int i10)] (fun _ kq => XS.goto X9.here hx rfl (pc0 := 31) (pc' := 45) rfl (hb hby d15_31) (by decide) (by decide) kq) ?_
  exact own_ret X9 P11 (v := some (.int i10)) (fun h => by rw [Bd.returns] at h; cases h) Bd.notSynchronized ⟨i10, rfl, N9, rfl, P12, P13⟩ (by decide) (by decide) (fun fs hr => retI X9 hx Bd.returns (hb hby d15_45) hr)
theorem d14_0 : decode jdk_42_method_126_code 0 = .ok (.aload_n 0, 1) := by decide +kernel
theorem d14_1 : decode jdk_42_method_126_code 1 = .ok (.areturn, 1) := by decide +kernel
theorem ef_stos (m : MethodId) (a : Addr) : entryFrame m #[(.ref a)] 1 = mkF m 0 #[rv a] [] := by
  first | (simp [entryFrame, mkF, argsToLocals, Value.category]; done) | rfl
def Q_stos (Z : State) (a : Addr) (h0 : Heap) (n0 : Nat) (v : Option Value) (h : Heap) (L : List Loc) : Prop := v = some (.ref a) ∧ Fr n0 L ∧ h = h0
set_option maxRecDepth 65536 in
set_option maxHeartbeats 40000000 in
theorem rm_stos (l : Launch) (Z : State) (a0 : Array Value) (hw : ∀ d ∈ tables_1, d.before a0 Z = true) (ws : List Jvm.Cond) (a : Addr) (h0 : Heap) (n0 : Nat) (O0 : Old Z n0 h0) :
    MetFree l own_y36 (head1 (Jvm.Cond.code own_y36 jdk_42_method_126_code 1 (some (.object "java/lang/String")) :: ws) ({ frames := 0, cells := 0, slots := 0, locals := 0 } : Room)) (fun aq_ Uq_ => aq_ = #[(.ref a)] ∧ Z.Warmed39 Uq_.vm ∧ Uq_.heap = h0) (fun _ _ _ _ _ => True) (fun _ Uq_ oq_ Ur_ => ∃ vq_ Lq_, oq_ = .returned vq_ ∧ Q_stos Z a h0 n0 vq_ Ur_.heap Lq_ ∧ FrameEnd Uq_ oq_ Ur_ Lq_ ({ frames := 0, cells := 0, slots := 0, locals := 0 } : Room).cells ({ frames := 0, cells := 0, slots := 0, locals := 0 } : Room).slots) := by
  refine MetFree.of_bodySF (plainFor_of_name pn_java_2flang_2fString) hisR ?_
  intro p e s m args below meth c s₁ Bd hml0 hP hK
  obtain ⟨rfl, hZ, hh⟩ := hP
  have W_ : ∀ {d : Jvm.Cond} (i : Nat), tables_1[i]? = some d → d.before a0 Z = true := fun i h => hw _ (List.mem_of_getElem? h)
  have hx := Bd.exec
  have hby := Bd.bytes
  have hml : c.maxLocals = 1 := hml0
  have hown : s.vm.findClass "java/lang/String" = some m.cls := findClass_of_methodNamed Bd.named
  have hnm := (name_of_methodNamed Bd.named Bd.method).1
  have X0 : Stand p l e ({ frames := 0, cells := 0, slots := 0, locals := 0 } : Room) s m #[(.ref a)] below meth c s₁ [] 0 0 := Stand.of_body Bd
  have e0 : s₁.heap = h0 := by rw [← hh, Bd.state]; rfl
  have N0 := Fr.nil n0
  have K0 := Keep.refl h0 []
  refine own_G.start (Q := Q_stos Z a h0 n0) (ef_stos m a) ?_
  refine own_G.sk 1 [(.ref a)] (fun _ kq => XS.aloadN X0.here hx rfl (hb hby d14_0) rfl rfl kq) ?_
  exact own_ret X0 e0 (v := some (.ref a)) (fun h => by rw [Bd.returns] at h; cases h) Bd.notSynchronized ⟨rfl, N0, rfl⟩ (by decide) (by decide) (fun fs hr => own_retR X0 hx Bd.returns rfl rfl (hb hby d14_1) hr)
theorem pd__28_29Ljava_2flang_2fString_3b : parseMethodDescriptor "()Ljava/lang/String;" = some ⟨[], some (.object "java/lang/String")⟩ := by decide +kernel
theorem pd__28Ljava_2flang_2fString_3b_29I : parseMethodDescriptor "(Ljava/lang/String;)I" = some ⟨[(.object "java/lang/String")], some .int⟩ := by decide +kernel
theorem d13_0 : decode jdk_42_method_97_code 0 = .ok (.aload_n 0, 1) := by decide +kernel
theorem d13_1 : decode jdk_42_method_97_code 1 = .ok (.aload_n 1, 1) := by decide +kernel
theorem d13_2 : decode jdk_42_method_97_code 2 = .ok (.invokeinterface 710 1, 5) := by decide +kernel
theorem d13_7 : decode jdk_42_method_97_code 7 = .ok (.invokevirtual 711, 3) := by decide +kernel
theorem d13_10 : decode jdk_42_method_97_code 10 = .ok (.ifCond .lt 7, 3) := by decide +kernel
theorem d13_13 : decode jdk_42_method_97_code 13 = .ok (.iconst 1, 1) := by decide +kernel
theorem d13_14 : decode jdk_42_method_97_code 14 = .ok (.goto 4, 3) := by decide +kernel
theorem d13_17 : decode jdk_42_method_97_code 17 = .ok (.iconst 0, 1) := by decide +kernel
theorem d13_18 : decode jdk_42_method_97_code 18 = .ok (.ireturn, 1) := by decide +kernel
theorem ef_contains (m : MethodId) (a : Addr) (b : Addr) : entryFrame m #[(.ref a), (.ref b)] 2 = mkF m 0 #[rv a, rv b] [] := by
  first | (simp [entryFrame, mkF, argsToLocals, Value.category]; done) | rfl
def Q_contains (Z : State) (a : Addr) (b : Addr) (csz : Int32) (va : Addr) (wa : Addr) (kv : ClassId) (mm : Int32) (xs : List Int32) (kw : ClassId) (h0 : Heap) (n0 : Nat) (v : Option Value) (h : Heap) (L : List Loc) : Prop := v = some (.int (own_has xs)) ∧ Fr n0 L ∧ h = h0
set_option maxRecDepth 65536 in
set_option maxHeartbeats 40000000 in
theorem rm_contains (l : Launch) (Z : State) (a0 : Array Value) (hw : ∀ d ∈ tables_1, d.before a0 Z = true) (ws : List Jvm.Cond) (a : Addr) (b : Addr) (csz : Int32) (va : Addr) (wa : Addr) (kv : ClassId) (mm : Int32) (xs : List Int32) (kw : ClassId) (h0 : Heap) (n0 : Nat) (O0 : Old Z n0 h0) (S_CS : Sta Z Z.heap "java/lang/String" "COMPACT_STRINGS" "Z" (.int csz)) (hcs : ¬ csz = (0 : Int32)) (Ea : Exa Z h0 a "java/lang/String") (Fv : Fld Z h0 a "java/lang/String" "value" "[B" (.ref va)) (Fc : Fld Z h0 a "java/lang/String" "coder" "B" (.int 0)) (Eb : Exa Z h0 b "java/lang/String") (Gv : Fld Z h0 b "java/lang/String" "value" "[B" (.ref wa)) (Gc : Fld Z h0 b "java/lang/String" "coder" "B" (.int 0)) (Av : Arv Z h0 va kv .byte mm (own_B xs) (.int 0)) (Aw : Arv Z h0 wa kw .byte (1 : Int32) (own_B [(58 : Int32)]) (.int 0)) (hL4 : own_L4 xs mm) :
    MetFree l own_y37 (head1 (Jvm.Cond.code own_y37 jdk_42_method_97_code 2 (some .boolean) :: ws) ({ frames := 3, cells := 0, slots := 0, locals := 49 } : Room)) (fun aq_ Uq_ => aq_ = #[(.ref a), (.ref b)] ∧ Z.Warmed39 Uq_.vm ∧ Uq_.heap = h0) (fun _ _ _ _ _ => True) (fun _ Uq_ oq_ Ur_ => ∃ vq_ Lq_, oq_ = .returned vq_ ∧ Q_contains Z a b csz va wa kv mm xs kw h0 n0 vq_ Ur_.heap Lq_ ∧ FrameEnd Uq_ oq_ Ur_ Lq_ ({ frames := 3, cells := 0, slots := 0, locals := 49 } : Room).cells ({ frames := 3, cells := 0, slots := 0, locals := 49 } : Room).slots) := by
  refine MetFree.of_bodySF (plainFor_of_name pn_java_2flang_2fString) hisR ?_
  intro p e s m args below meth c s₁ Bd hml0 hP hK
  obtain ⟨rfl, hZ, hh⟩ := hP
  have W_ : ∀ {d : Jvm.Cond} (i : Nat), tables_1[i]? = some d → d.before a0 Z = true := fun i h => hw _ (List.mem_of_getElem? h)
  have hx := Bd.exec
  have hby := Bd.bytes
  have hml : c.maxLocals = 2 := hml0
  have hown : s.vm.findClass "java/lang/String" = some m.cls := findClass_of_methodNamed Bd.named
  have hnm := (name_of_methodNamed Bd.named Bd.method).1
  have X0 : Stand p l e ({ frames := 3, cells := 0, slots := 0, locals := 49 } : Room) s m #[(.ref a), (.ref b)] below meth c s₁ [] 0 0 := Stand.of_body Bd
  have e0 : s₁.heap = h0 := by rw [← hh, Bd.state]; rfl
  have N0 := Fr.nil n0
  have K0 := Keep.refl h0 []
  refine own_G.start (Q := Q_contains Z a b csz va wa kv mm xs kw h0 n0) (ef_contains m a b) ?_
  refine own_G.sk 1 [(.ref a)] (fun _ kq => XS.aloadN X0.here hx rfl (hb hby d13_0) rfl rfl kq) ?_
  refine own_G.sk 2 [(.ref b), (.ref a)] (fun _ kq => XS.aloadN X0.here hx rfl (hb hby d13_1) rfl rfl kq) ?_
  obtain ⟨cq1, kq1, q1a, q1b, q1c⟩ := isOf hZ e0 Eb
  obtain ⟨_, _, ⟨T1, L1, k1, n1⟩, -, X1, ⟨Lc1, hQ1, l1, y1, z1⟩, st1⟩ := X0.interfaceBack hx (xi := (⟨"java/lang/CharSequence", "toString", "()Ljava/lang/String;"⟩ : MethodName)) (y := own_y36) hown (mvT hZ (W_ 75 rfl)) (mvT hZ (W_ 76 rfl)) (mvT hZ (W_ 77 rfl)) (mvT hZ (W_ 78 rfl)) (mvT hZ (W_ 79 rfl)) (mvT hZ (W_ 80 rfl)) (mvT hZ (W_ 81 rfl)) (mvT hZ (W_ 82 rfl)) (by decide) (backOf (W := 1) (rm_stos l Z a0 hw [] b h0 n0 O0 ) hZ (W_ 83 rfl) (W_ 8 rfl) (by decide) (by decide)) q1a q1b q1c (g := (mkF m 2 #[rv a, rv b] [(.ref b), (.ref a)])) rfl (by rw [hml]; rfl) (Steps.refl _) (argsL := []) (rest := [(.ref a)]) (lenOf pd__28_29Ljava_2flang_2fString_3b rfl) rfl (by show 2 * 0 + _ ≤ _; exact Nat.le_of_eq rfl) (hb hby d13_2) (fun _ _ => ⟨rfl, e0, (by decide : 0 + 0 ≤ _), (by decide : 0 + 0 ≤ _)⟩)
  dsimp only [Pt.U, Pt.locs, Pt.cells, Pt.slots] at X1 l1 y1 z1 st1 hQ1
  subst l1 y1 z1
  obtain ⟨rfl, Nq1, P2⟩ := hQ1
  have N1 := Fr.app N0 Nq1
  refine own_G.st (T' := T1) 7 [(.ref b), (.ref a)] (fun _ kq => st1.trans kq) ?_
  obtain ⟨cq3, kq3, q3a, q3b, q3c⟩ := isOf hZ P2 Ea
  obtain ⟨_, _, ⟨T3, L3, k3, n3⟩, -, X3, ⟨Lc3, hQ3, l3, y3, z3⟩, st3⟩ := X1.virtualBack hx (y := own_y35) (z := own_y35) hown (mvT hZ (W_ 84 rfl)) (mvT hZ (W_ 85 rfl)) (notFace_of_selects (args := #[]) (mvT hZ (W_ 87 rfl))) (mvT hZ (W_ 87 rfl)) (mvT hZ (W_ 86 rfl)) (by decide) (backOf (W := 0) (rm_sidx l Z a0 hw [] a b csz va wa kv mm xs kw h0 n0 O0 S_CS hcs Ea Fv Fc Eb Gv Gc Av Aw hL4) hZ (W_ 88 rfl) (W_ 8 rfl) (by decide) (by decide)) q3a q3c (g := (mkF m 7 #[rv a, rv b] [(.ref b), (.ref a)])) rfl (by rw [hml]; rfl) (Steps.refl _) (argsL := [(.ref b)]) (rest := []) (lenOf pd__28Ljava_2flang_2fString_3b_29I rfl) rfl (by show 2 * 0 + _ ≤ _; exact Nat.le_of_eq rfl) (hb hby d13_7) (fun _ _ => ⟨rfl, P2, (by decide : 0 + 0 ≤ _), (by decide : 0 + 0 ≤ _)⟩)
  dsimp only [Pt.U, Pt.locs, Pt.cells, Pt.slots] at X3 l3 y3 z3 st3 hQ3
  subst l3 y3 z3
  obtain ⟨i4, rfl, Nq3, P5, P6, P7⟩ := hQ3
  have N3 := Fr.app N1 Nq3
  refine own_G.st (T' := T3) 10 [(.int i4)] (fun _ kq => st3.trans kq) ?_
  rcases Classical.em (i4 < (0 : Int32)) with hc10 | hc10
  · refine own_G.sk 17 [] (fun _ kq => XS.ifYes X3.here hx rfl (pc0 := 10) (pc' := 17) rfl (hb hby d13_10) rfl ((if0 _ _).trans (tlt hc10).1) (by decide) (by decide) kq) ?_
    refine own_G.sk 18 [(.int 0)] (fun _ kq => XS.iconst X3.here hx rfl (hb hby d13_17) kq) ?_
    exact own_ret X3 P5 (v := some (.int 0)) (fun h => by rw [Bd.returns] at h; cases h) Bd.notSynchronized ⟨(by rw [own_has0 (fun q => P6 q hc10)]), N3, rfl⟩ (by decide) (by decide) (fun fs hr => retN X3 hx (t := .boolean) Bd.returns (by simp) (hb hby d13_18) hr)
  · refine own_G.sk 13 [] (fun _ kq => XS.ifNo X3.here hx rfl (hb hby d13_10) rfl ((if0 _ _).trans (flt hc10).1) kq) ?_
    refine own_G.sk 14 [(.int 1)] (fun _ kq => XS.iconst X3.here hx rfl (hb hby d13_13) kq) ?_
    refine own_G.sk 18 [(.int 1)] (fun _ kq => XS.goto X3.here hx rfl (pc0 := 14) (pc' := 18) rfl (hb hby d13_14) (by decide) (by decide) kq) ?_
    exact own_ret X3 P5 (v := some (.int 1)) (fun h => by rw [Bd.returns] at h; cases h) Bd.notSynchronized ⟨(by rw [own_has1 (Classical.byContradiction fun q => hc10 (P7 q))]), N3, rfl⟩ (by decide) (by decide) (fun fs hr => retN X3 hx (t := .boolean) Bd.returns (by simp) (hb hby d13_18) hr)
theorem pd__28_29V : parseMethodDescriptor "()V" = some ⟨[], none⟩ := by decide +kernel
theorem pd__28Ljava_2flang_2fObject_3bLjava_2flang_2fString_3b_29Ljava_2flang_2fObject_3b : parseMethodDescriptor "(Ljava/lang/Object;Ljava/lang/String;)Ljava/lang/Object;" = some ⟨[(.object "java/lang/Object"), (.object "java/lang/String")], some (.object "java/lang/Object")⟩ := by decide +kernel
theorem d8_0 : decode prog_12_method_1_code 0 = .ok (.aload_n 0, 1) := by decide +kernel
theorem d8_1 : decode prog_12_method_1_code 1 = .ok (.invokespecial 1, 3) := by decide +kernel
theorem d8_4 : decode prog_12_method_1_code 4 = .ok (.aload_n 1, 1) := by decide +kernel
theorem d8_5 : decode prog_12_method_1_code 5 = .ok (.ldc 7, 2) := by decide +kernel
theorem d8_7 : decode prog_12_method_1_code 7 = .ok (.invokestatic 9, 3) := by decide +kernel
theorem d8_10 : decode prog_12_method_1_code 10 = .ok (.pop, 1) := by decide +kernel
theorem d8_11 : decode prog_12_method_1_code 11 = .ok (.aload_n 1, 1) := by decide +kernel
theorem d8_12 : decode prog_12_method_1_code 12 = .ok (.invokevirtual 15, 3) := by decide +kernel
theorem d8_15 : decode prog_12_method_1_code 15 = .ok (.ifCond .eq 13, 3) := by decide +kernel
theorem d8_28 : decode prog_12_method_1_code 28 = .ok (.iload_n 2, 1) := by decide +kernel
theorem d8_29 : decode prog_12_method_1_code 29 = .ok (.ifCond .lt 9, 3) := by decide +kernel
theorem d8_32 : decode prog_12_method_1_code 32 = .ok (.iload_n 2, 1) := by decide +kernel
theorem d8_33 : decode prog_12_method_1_code 33 = .ok (.ldc 28, 2) := by decide +kernel
theorem d8_35 : decode prog_12_method_1_code 35 = .ok (.if_icmp .le 30, 3) := by decide +kernel
theorem d8_65 : decode prog_12_method_1_code 65 = .ok (.aload_n 0, 1) := by decide +kernel
theorem d8_66 : decode prog_12_method_1_code 66 = .ok (.aload_n 1, 1) := by decide +kernel
theorem d8_67 : decode prog_12_method_1_code 67 = .ok (.putfield 45, 3) := by decide +kernel
theorem d8_70 : decode prog_12_method_1_code 70 = .ok (.aload_n 0, 1) := by decide +kernel
theorem d8_71 : decode prog_12_method_1_code 71 = .ok (.iload_n 2, 1) := by decide +kernel
theorem d8_72 : decode prog_12_method_1_code 72 = .ok (.putfield 50, 3) := by decide +kernel
theorem d8_75 : decode prog_12_method_1_code 75 = .ok (.return_, 1) := by decide +kernel
theorem own_wSm : ∀ d ∈ Bundle.stringAtoms, d ∈ tables_1 := by
  intro d hd
  have hd : d ∈ ([.initialized "java/lang/String", .instantiable "java/lang/String" 4, .arrayClass .byte, .laysFinal "java/lang/String" "java/lang/String" "value" "[B", .laysFinal "java/lang/String" "java/lang/String" "coder" "B", .soleField "java/lang/String" "value", .soleField "java/lang/String" "coder"] : List Jvm.Cond) := hd
  simp only [List.mem_cons, List.not_mem_nil, or_false] at hd
  rcases hd with rfl | rfl | rfl | rfl | rfl | rfl | rfl
  · exact List.mem_of_getElem? (i := 8) rfl
  · exact List.mem_of_getElem? (i := 7) rfl
  · exact List.mem_of_getElem? (i := 24) rfl
  · exact List.mem_of_getElem? (i := 34) rfl
  · exact List.mem_of_getElem? (i := 32) rfl
  · exact List.mem_of_getElem? (i := 48) rfl
  · exact List.mem_of_getElem? (i := 49) rfl
theorem pn_com_2fexample_2fredelivery_2fredelivery_2fsettings_2fListenAddress : plainName "com/example/redelivery/redelivery/settings/ListenAddress" = true := by first | (simp [plainName, overriddenIn]; done) | decide +kernel
theorem ef_lainit (m : MethodId) (a : Addr) (sr : Addr) (pp : Int32) : entryFrame m #[(.ref a), (.ref sr), (.int pp)] 3 = mkF m 0 #[rv a, rv sr, iv pp] [] := by
  first | (simp [entryFrame, mkF, argsToLocals, Value.category]; done) | rfl
def Q_lainit (Z : State) (a : Addr) (sr : Addr) (pp : Int32) (u : Addr) (ku : ClassId) (mm : Int32) (ys : List Int32) (h0 : Heap) (n0 : Nat) (v : Option Value) (h : Heap) (L : List Loc) : Prop := v = none ∧ Fr n0 L ∧ Keep h0 h [a] ∧ Exa Z h a "com/example/redelivery/redelivery/settings/ListenAddress" ∧ Fld Z h a "com/example/redelivery/redelivery/settings/ListenAddress" "host" "Ljava/lang/String;" (.ref sr) ∧ Fld Z h a "com/example/redelivery/redelivery/settings/ListenAddress" "port" "I" (.int pp)
set_option maxRecDepth 65536 in
set_option maxHeartbeats 40000000 in
theorem rm_lainit (l : Launch) (Z : State) (a0 : Array Value) (hw : ∀ d ∈ tables_1, d.before a0 Z = true) (ws : List Jvm.Cond) (a : Addr) (sr : Addr) (pp : Int32) (u : Addr) (ku : ClassId) (mm : Int32) (ys : List Int32) (h0 : Heap) (n0 : Nat) (O0 : Old Z n0 h0) (Ea : Exa Z h0 a "com/example/redelivery/redelivery/settings/ListenAddress") (F_host : Fld Z h0 a "com/example/redelivery/redelivery/settings/ListenAddress" "host" "Ljava/lang/String;" .null) (F_port : Fld Z h0 a "com/example/redelivery/redelivery/settings/ListenAddress" "port" "I" (.int 0)) (Es : Exa Z h0 sr "java/lang/String") (Sv : Fld Z h0 sr "java/lang/String" "value" "[B" (.ref u)) (Au : Arv Z h0 u ku .byte mm (own_B ys) (.int 0)) (ga : n0 ≤ a) (anu : a ≠ u) (hL4 : own_L4 ys mm) (hp0 : 0 ≤ pp.toInt) (hp1 : pp.toInt ≤ 65535) :
    MetFree l own_y39 (head1 (Jvm.Cond.code own_y39 prog_12_method_1_code 3 none :: ws) ({ frames := 2, cells := 2, slots := 20, locals := 24 } : Room)) (fun aq_ Uq_ => aq_ = #[(.ref a), (.ref sr), (.int pp)] ∧ Z.Warmed39 Uq_.vm ∧ Uq_.heap = h0 ∧ CHv Z own_EL Uq_.vm h0) (fun _ _ _ _ _ => True) (fun _ Uq_ oq_ Ur_ => ∃ vq_ Lq_, oq_ = .returned vq_ ∧ Q_lainit Z a sr pp u ku mm ys h0 n0 vq_ Ur_.heap Lq_ ∧ CHr Z own_EL Uq_.vm Uq_.heap Ur_.vm Ur_.heap ∧ ReturnedEndW Uq_ oq_ Ur_ Lq_ ({ frames := 2, cells := 2, slots := 20, locals := 24 } : Room).cells ({ frames := 2, cells := 2, slots := 20, locals := 24 } : Room).slots) := by
  refine MetFree.of_bodySF (plainFor_of_name pn_com_2fexample_2fredelivery_2fredelivery_2fsettings_2fListenAddress) hisR ?_
  intro p e s m args below meth c s₁ Bd hml0 hP hK
  obtain ⟨rfl, hZ, hh, hH⟩ := hP
  have W_ : ∀ {d : Jvm.Cond} (i : Nat), tables_1[i]? = some d → d.before a0 Z = true := fun i h => hw _ (List.mem_of_getElem? h)
  have hx := Bd.exec
  have hby := Bd.bytes
  have hml : c.maxLocals = 3 := hml0
  have hown : s.vm.findClass "com/example/redelivery/redelivery/settings/ListenAddress" = some m.cls := findClass_of_methodNamed Bd.named
  have hnm := (name_of_methodNamed Bd.named Bd.method).1
  have X0 : Stand p l e ({ frames := 2, cells := 2, slots := 20, locals := 24 } : Room) (s.setVm s.vm) m #[(.ref a), (.ref sr), (.int pp)] below meth c s₁ [] 0 0 := Stand.of_body Bd
  have e0 : s₁.heap = h0 := by rw [← hh, Bd.state]; rfl
  have N0 := Fr.nil n0
  have K0 := Keep.refl h0 [a]
  have hS : s.Since s.vm s.heap.size := (State.WarmedH.refl s).since _
  have hkS : s.heap.size ≤ h0.size := by rw [hh]; exact Nat.le_refl _
  have hZ : Z.Warmed39 (s.setVm s.vm).vm := hZ
  have hown : (s.setVm s.vm).vm.findClass "com/example/redelivery/redelivery/settings/ListenAddress" = some m.cls := hown
  have own_wS : ∀ a ∈ Bundle.stringAtoms, a.before a0 Z = true := fun d hd => hw d (own_wSm d hd)
  have ew := own_EW Z a0 hw
  have hR := CHr.refl hH
  refine own_GH.start (Q := Q_lainit Z a sr pp u ku mm ys h0 n0) (ef_lainit m a sr pp) ?_
  refine own_GH.sk 1 [(.ref a)] (fun _ kq => XS.aloadN X0.here hx rfl (hb hby d8_0) rfl rfl kq) ?_
  obtain ⟨_, _, ⟨T1, L1, k1, n1⟩, -, X1, ⟨Lc1, hQ1, l1, y1, z1⟩, st1⟩ := X0.specialBack hx (y := own_y8) rfl hown (mvT hZ (W_ 41 rfl)) (mvT hZ (W_ 42 rfl)) (mvT hZ (W_ 45 rfl)) (by decide) (backOf (W := 0) (rm_recinit l Z a0 hw [] a h0 n0 O0 ) hZ (W_ 45 rfl) (W_ 44 rfl) (by decide) (by decide)) (g := (mkF m 1 #[rv a, rv sr, iv pp] [(.ref a)])) rfl (by rw [hml]; rfl) (Steps.refl _) (a := a) (argsL := []) (rest := []) (lenOf pd__28_29V rfl) rfl (by show 2 * 0 + _ ≤ _; exact Nat.le_of_eq rfl) (hb hby d8_1) (fun _ _ => ⟨rfl, e0, (by decide : 0 + 0 ≤ _), (by decide : 0 + 0 ≤ _)⟩)
  dsimp only [Pt.U, Pt.locs, Pt.cells, Pt.slots] at X1 l1 y1 z1 st1 hQ1
  subst l1 y1 z1
  obtain ⟨rfl, Nq1, P2⟩ := hQ1
  have N1 := Fr.app N0 Nq1
  refine own_GH.st (T' := T1) 4 [] (fun _ kq => st1.trans kq) ?_
  refine own_GH.sk 5 [(.ref sr)] (fun _ kq => XS.aloadN X1.here hx rfl (hb hby d8_4) rfl rfl kq) ?_
  obtain ⟨a3, T3, h3, k3, X3, e3, E3, hS, hkS, hZ, hown, ch3, Li3, st3⟩ := ldcOH (vm0 := s.vm) X1 hx hZ hown (W_ 47 rfl) own_wS P2 hS hkS ew hH (g := (mkF m 5 #[rv a, rv sr, iv pp] [(.ref sr)])) rfl (hb hby d8_5) (n := 16) (by decide +kernel) (by decide) (by decide) (by decide)
  have hR := hR.trans ch3
  have hH := ch3.1
  have F4 := Ea.ext E3
  have F5 := F_host.ext E3
  have F6 := F_port.ext E3
  have F7 := Es.ext E3
  have F8 := Sv.ext E3
  have F9 := Au.ext E3
  have O10 := O0.ext E3
  have K11 := K0.ext E3
  refine own_GH.st (T' := T3) 7 [(.ref a3), (.ref sr)] st3 ?_
  obtain ⟨_, _, ⟨T12, L12, k12, n12⟩, -, X12, ⟨Lc12, hQ12, l12, y12, z12⟩, st12⟩ := Jvm.LawKit.callS X3 hx (y := own_y9) hown (mvT hZ (W_ 50 rfl)) (mvT hZ (W_ 51 rfl)) (mvT hZ (W_ 52 rfl)) (mvT hZ (W_ 53 rfl)) (by decide) (backOf (W := 0) (rm_rnn l Z a0 hw [] sr a3 h3 n0 O10 ) hZ (W_ 53 rfl) (W_ 52 rfl) (by decide) (by decide)) (g := (mkF m 7 #[rv a, rv sr, iv pp] [(.ref a3), (.ref sr)])) rfl (by rw [hml]; rfl) (argsL := [(.ref sr), (.ref a3)]) (rest := []) (lenOf pd__28Ljava_2flang_2fObject_3bLjava_2flang_2fString_3b_29Ljava_2flang_2fObject_3b rfl) rfl (by show 2 * 0 + _ ≤ _; exact Nat.le_of_eq rfl) (hb hby d8_7) (fun _ _ => ⟨rfl, e3, (by decide : 2 + 0 ≤ _), (by decide : 20 + 0 ≤ _)⟩)
  dsimp only [Pt.U, Pt.locs, Pt.cells, Pt.slots] at X12 l12 y12 z12 st12 hQ12
  subst l12 y12 z12
  obtain ⟨rfl, Nq12, P13⟩ := hQ12
  have N12 := Fr.app N1 Nq12
  refine own_GH.st (T' := T12) 10 [(.ref sr)] (fun _ kq => st12 _ kq) ?_
  refine own_GH.sk 11 [] (fun _ kq => XS.pop X12.here hx rfl (hb hby d8_10) rfl rfl kq) ?_
  refine own_GH.sk 12 [(.ref sr)] (fun _ kq => XS.aloadN X12.here hx rfl (hb hby d8_11) rfl rfl kq) ?_
  obtain ⟨cq14, kq14, q14a, q14b, q14c⟩ := isOf hZ P13 F7
  obtain ⟨_, _, ⟨T14, L14, k14, n14⟩, -, X14, ⟨Lc14, hQ14, l14, y14, z14⟩, st14⟩ := X12.virtualBack hx (y := own_y3) (z := own_y3) hown (mvT hZ (W_ 54 rfl)) (mvT hZ (W_ 55 rfl)) (notFace_of_selects (args := #[]) (mvT hZ (W_ 57 rfl))) (mvT hZ (W_ 57 rfl)) (mvT hZ (W_ 56 rfl)) (by decide) (backOf (W := 0) (rm_isEmp l Z a0 hw [] sr u mm h3 n0 O10 F8 (own_Len.arv F9)) hZ (W_ 58 rfl) (W_ 8 rfl) (by decide) (by decide)) q14a q14c (g := (mkF m 12 #[rv a, rv sr, iv pp] [(.ref sr)])) rfl (by rw [hml]; rfl) (Steps.refl _) (argsL := []) (rest := []) (lenOf pd__28_29Z rfl) rfl (by show 2 * 0 + _ ≤ _; exact Nat.le_of_eq rfl) (hb hby d8_12) (fun _ _ => ⟨rfl, P13, (by decide : 2 + 0 ≤ _), (by decide : 20 + 0 ≤ _)⟩)
  dsimp only [Pt.U, Pt.locs, Pt.cells, Pt.slots] at X14 l14 y14 z14 st14 hQ14
  subst l14 y14 z14
  obtain ⟨rfl, Nq14, P15⟩ := hQ14
  have N14 := Fr.app N12 Nq14
  refine own_GH.st (T' := T14) 15 [(.int (own_emp mm))] (fun _ kq => st14.trans kq) ?_
  have hc15 : (own_emp mm) = (0 : Int32) := (own_emp0 hL4.nz)
  refine own_GH.sk 28 [] (fun _ kq => XS.ifYes X14.here hx rfl (pc0 := 15) (pc' := 28) rfl (hb hby d8_15) rfl ((if0 _ _).trans (teq hc15).1) (by decide) (by decide) kq) ?_
  refine own_GH.sk 29 [(.int pp)] (fun _ kq => XS.iloadN X14.here hx rfl (hb hby d8_28) rfl kq) ?_
  have hc29 : ¬ (pp < (0 : Int32)) := (own_pn hp0)
  refine own_GH.sk 32 [] (fun _ kq => XS.ifNo X14.here hx rfl (hb hby d8_29) rfl ((if0 _ _).trans (flt hc29).1) kq) ?_
  refine own_GH.sk 33 [(.int pp)] (fun _ kq => XS.iloadN X14.here hx rfl (hb hby d8_32) rfl kq) ?_
  refine own_GH.sk 35 [(.int 65535), (.int pp)] (fun _ kq => X14.ldcInt hx hown (mvT hZ (W_ 59 rfl)) (g := (mkF m 33 #[rv a, rv sr, iv pp] [(.int pp)])) rfl (hb hby d8_33) _ kq) ?_
  have hc35 : ¬ ((65535 : Int32) < pp) := (own_pm hp1)
  refine own_GH.sk 65 [] (fun _ kq => XS.icmpYes X14.here hx rfl (pc0 := 35) (pc' := 65) rfl (hb hby d8_35) rfl (flt hc35).2.2.2 (by decide) (by decide) kq) ?_
  refine own_GH.sk 66 [(.ref a)] (fun _ kq => XS.aloadN X14.here hx rfl (hb hby d8_65) rfl rfl kq) ?_
  refine own_GH.sk 67 [(.ref sr), (.ref a)] (fun _ kq => XS.aloadN X14.here hx rfl (hb hby d8_66) rfl rfl kq) ?_
  obtain ⟨T16, h16, X16, e16, W16, st16⟩ := putF X14 hx hZ hown (host := "") (Or.inl (W_ 60 rfl)) Via.refl P15 F5 F4 (Or.inr ⟨(W_ 61 rfl), rfl, hnm⟩) (W_ 36 rfl) (ty := (.object "java/lang/String")) (by decide) rfl rfl (g := (mkF m 67 #[rv a, rv sr, iv pp] [(.ref sr), (.ref a)])) rfl rfl (hb hby d8_67)
  have N16 := Fr.snoc X16 N14 ga
  have hkS := Nat.le_trans hkS (Keep.of_wr W16).1
  have hR := hR.trans (CHr.wr W16 (Safe.exa hZ.alike F4 (by decide) (by decide)) hH)
  have hH := CHv.wr W16 (Safe.exa hZ.alike F4 (by decide) (by decide)) hH
  have F17 := F4.wr W16
  have F18 := F5.same W16
  have F19 := F6.other W16 (Or.inr (slot_ne (Or.inr (W_ 63 rfl)) (Or.inr (W_ 61 rfl)) (by decide) (t := .int) (t' := (.object "java/lang/String")) (by decide) (by decide)))
  have F20 := F7.wr W16
  have F21 := F8.other W16 (Or.inl (ne_exa F7 F4 (by decide)))
  have F22 := F9.other W16 (Ne.symm anu)
  have O23 := O10.wr W16 ga
  have K24 := K11.wr W16 (Or.inl (List.mem_of_getElem? (i := 0) rfl))
  refine own_GH.st (T' := T16) 70 [] st16 ?_
  refine own_GH.sk 71 [(.ref a)] (fun _ kq => XS.aloadN X16.here hx rfl (hb hby d8_70) rfl rfl kq) ?_
  refine own_GH.sk 72 [(.int pp), (.ref a)] (fun _ kq => XS.iloadN X16.here hx rfl (hb hby d8_71) rfl kq) ?_
  obtain ⟨T25, h25, X25, e25, W25, st25⟩ := putF X16 hx hZ hown (host := "") (Or.inl (W_ 62 rfl)) Via.refl e16 F19 F17 (Or.inr ⟨(W_ 63 rfl), rfl, hnm⟩) (W_ 36 rfl) (ty := .int) (by decide) rfl rfl (g := (mkF m 72 #[rv a, rv sr, iv pp] [(.int pp), (.ref a)])) rfl rfl (hb hby d8_72)
  have N25 := Fr.snoc X25 N16 ga
  have hkS := Nat.le_trans hkS (Keep.of_wr W25).1
  have hR := hR.trans (CHr.wr W25 (Safe.exa hZ.alike F17 (by decide) (by decide)) hH)
  have hH := CHv.wr W25 (Safe.exa hZ.alike F17 (by decide) (by decide)) hH
  have F26 := F17.wr W25
  have F27 := F18.other W25 (Or.inr (slot_ne (Or.inr (W_ 61 rfl)) (Or.inr (W_ 63 rfl)) (by decide) (t := (.object "java/lang/String")) (t' := .int) (by decide) (by decide)))
  have F28 := F19.same W25
  have F29 := F20.wr W25
  have F30 := F21.other W25 (Or.inl (ne_exa F20 F17 (by decide)))
  have F31 := F22.other W25 (Ne.symm anu)
  have O32 := O23.wr W25 ga
  have K33 := K24.wr W25 (Or.inl (List.mem_of_getElem? (i := 0) rfl))
  refine own_GH.st (T' := T25) 75 [] st25 ?_
  exact own_retH X25 hS e25 hkS hZ ew hH hh hR (v := none) (fun _ => rfl) Bd.notSynchronized ⟨rfl, N25, K33, F26, F27, F28⟩ (by decide) (by decide) (fun fs hr => X25.returnOut hx Bd.returns (hb hby d8_75) hr)
theorem pd__28Ljava_2flang_2fCharSequence_3b_29Z : parseMethodDescriptor "(Ljava/lang/CharSequence;)Z" = some ⟨[(.object "java/lang/CharSequence")], some .boolean⟩ := by decide +kernel
theorem pd__28Ljava_2flang_2fString_3b_29Ljava_2flang_2fStringBuilder_3b : parseMethodDescriptor "(Ljava/lang/String;)Ljava/lang/StringBuilder;" = some ⟨[(.object "java/lang/String")], some (.object "java/lang/StringBuilder")⟩ := by decide +kernel
theorem pd__28I_29Ljava_2flang_2fStringBuilder_3b : parseMethodDescriptor "(I)Ljava/lang/StringBuilder;" = some ⟨[.int], some (.object "java/lang/StringBuilder")⟩ := by decide +kernel
theorem d12_0 : decode prog_12_method_3_code 0 = .ok (.aload_n 0, 1) := by decide +kernel
theorem d12_1 : decode prog_12_method_3_code 1 = .ok (.getfield 45, 3) := by decide +kernel
theorem d12_4 : decode prog_12_method_3_code 4 = .ok (.ldc 81, 2) := by decide +kernel
theorem d12_6 : decode prog_12_method_3_code 6 = .ok (.invokevirtual 83, 3) := by decide +kernel
theorem d12_9 : decode prog_12_method_3_code 9 = .ok (.ifCond .eq 41, 3) := by decide +kernel
theorem d12_12 : decode prog_12_method_3_code 12 = .ok (.new 29, 3) := by decide +kernel
theorem d12_15 : decode prog_12_method_3_code 15 = .ok (.dup, 1) := by decide +kernel
theorem d12_16 : decode prog_12_method_3_code 16 = .ok (.invokespecial 31, 3) := by decide +kernel
theorem d12_19 : decode prog_12_method_3_code 19 = .ok (.ldc 66, 2) := by decide +kernel
theorem d12_21 : decode prog_12_method_3_code 21 = .ok (.invokevirtual 34, 3) := by decide +kernel
theorem d12_24 : decode prog_12_method_3_code 24 = .ok (.aload_n 0, 1) := by decide +kernel
theorem d12_25 : decode prog_12_method_3_code 25 = .ok (.getfield 45, 3) := by decide +kernel
theorem d12_28 : decode prog_12_method_3_code 28 = .ok (.invokevirtual 34, 3) := by decide +kernel
theorem d12_31 : decode prog_12_method_3_code 31 = .ok (.ldc 117, 2) := by decide +kernel
theorem d12_33 : decode prog_12_method_3_code 33 = .ok (.invokevirtual 34, 3) := by decide +kernel
theorem d12_36 : decode prog_12_method_3_code 36 = .ok (.aload_n 0, 1) := by decide +kernel
theorem d12_37 : decode prog_12_method_3_code 37 = .ok (.getfield 50, 3) := by decide +kernel
theorem d12_40 : decode prog_12_method_3_code 40 = .ok (.invokevirtual 38, 3) := by decide +kernel
theorem d12_43 : decode prog_12_method_3_code 43 = .ok (.invokevirtual 41, 3) := by decide +kernel
theorem d12_46 : decode prog_12_method_3_code 46 = .ok (.astore_n 1, 1) := by decide +kernel
theorem d12_47 : decode prog_12_method_3_code 47 = .ok (.goto 33, 3) := by decide +kernel
theorem d12_50 : decode prog_12_method_3_code 50 = .ok (.new 29, 3) := by decide +kernel
theorem d12_53 : decode prog_12_method_3_code 53 = .ok (.dup, 1) := by decide +kernel
theorem d12_54 : decode prog_12_method_3_code 54 = .ok (.invokespecial 31, 3) := by decide +kernel
theorem d12_57 : decode prog_12_method_3_code 57 = .ok (.aload_n 0, 1) := by decide +kernel
theorem d12_58 : decode prog_12_method_3_code 58 = .ok (.getfield 45, 3) := by decide +kernel
theorem d12_61 : decode prog_12_method_3_code 61 = .ok (.invokevirtual 34, 3) := by decide +kernel
theorem d12_64 : decode prog_12_method_3_code 64 = .ok (.ldc 81, 2) := by decide +kernel
theorem d12_66 : decode prog_12_method_3_code 66 = .ok (.invokevirtual 34, 3) := by decide +kernel
theorem d12_69 : decode prog_12_method_3_code 69 = .ok (.aload_n 0, 1) := by decide +kernel
theorem d12_70 : decode prog_12_method_3_code 70 = .ok (.getfield 50, 3) := by decide +kernel
theorem d12_73 : decode prog_12_method_3_code 73 = .ok (.invokevirtual 38, 3) := by decide +kernel
theorem d12_76 : decode prog_12_method_3_code 76 = .ok (.invokevirtual 41, 3) := by decide +kernel
theorem d12_79 : decode prog_12_method_3_code 79 = .ok (.astore_n 1, 1) := by decide +kernel
theorem d12_80 : decode prog_12_method_3_code 80 = .ok (.aload_n 1, 1) := by decide +kernel
theorem d12_81 : decode prog_12_method_3_code 81 = .ok (.areturn, 1) := by decide +kernel
theorem ef_latos (m : MethodId) (a : Addr) : entryFrame m #[(.ref a)] 2 = mkF m 0 #[rv a, .unset] [] := by
  first | (simp [entryFrame, mkF, argsToLocals, Value.category]; done) | rfl
def Q_latos (Z : State) (a : Addr) (csz : Int32) (dga : Addr) (cga : Cell) (dgb : Addr) (cgb : Cell) (sr : Addr) (pp : Int32) (u : Addr) (ku : ClassId) (mm : Int32) (ys : List Int32) (h0 : Heap) (n0 : Nat) (v : Option Value) (h : Heap) (L : List Loc) : Prop := ∃ (q : Addr), ∃ (r : Addr), ∃ (kr : ClassId), ∃ (n2 : Int32), v = some (.ref q) ∧ Fr n0 L ∧ Keep h0 h [] ∧ h0.size ≤ q ∧ h0.size ≤ r ∧ Exa Z h q "java/lang/String" ∧ Fld Z h q "java/lang/String" "value" "[B" (.ref r) ∧ Fld Z h q "java/lang/String" "coder" "B" (.int 0) ∧ Arv Z h r kr .byte n2 (own_B (own_pre ys ++ own_dig pp)) (.int 0) ∧ n2.toInt = ((own_pre ys ++ own_dig pp).length : Int)
set_option maxRecDepth 65536 in
set_option maxHeartbeats 40000000 in
theorem rm_latos (l : Launch) (Z : State) (a0 : Array Value) (hw : ∀ d ∈ tables_1, d.before a0 Z = true) (ws : List Jvm.Cond) (a : Addr) (csz : Int32) (dga : Addr) (cga : Cell) (dgb : Addr) (cgb : Cell) (sr : Addr) (pp : Int32) (u : Addr) (ku : ClassId) (mm : Int32) (ys : List Int32) (h0 : Heap) (n0 : Nat) (O0 : Old Z n0 h0) (S_CS : Sta Z Z.heap "java/lang/String" "COMPACT_STRINGS" "Z" (.int csz)) (hcs : ¬ csz = (0 : Int32)) (S_D1 : Sta Z Z.heap "java/lang/Integer" "DigitOnes" "[B" (.ref dga)) (TB1 : own_Tb Z dga cga (fun j => (48 : Int32) + (j % (10 : Int32)))) (S_D2 : Sta Z Z.heap "java/lang/Integer" "DigitTens" "[B" (.ref dgb)) (TB2 : own_Tb Z dgb cgb (fun j => (48 : Int32) + (j / (10 : Int32)))) (Ea : Exa Z h0 a "com/example/redelivery/redelivery/settings/ListenAddress") (Fh : Fld Z h0 a "com/example/redelivery/redelivery/settings/ListenAddress" "host" "Ljava/lang/String;" (.ref sr)) (Fp : Fld Z h0 a "com/example/redelivery/redelivery/settings/ListenAddress" "port" "I" (.int pp)) (Es : Exa Z h0 sr "java/lang/String") (Sv : Fld Z h0 sr "java/lang/String" "value" "[B" (.ref u)) (Sc : Fld Z h0 sr "java/lang/String" "coder" "B" (.int 0)) (Au : Arv Z h0 u ku .byte mm (own_B ys) (.int 0)) (hL4 : own_L4 ys mm) (hp0 : 0 ≤ pp.toInt) (hp1 : pp.toInt ≤ 65535) :
    MetFree l own_y40 (head1 (Jvm.Cond.code own_y40 prog_12_method_3_code 2 (some (.object "java/lang/String")) :: ws) ({ frames := 6, cells := 10, slots := 68, locals := 91 } : Room)) (fun aq_ Uq_ => aq_ = #[(.ref a)] ∧ Z.Warmed39 Uq_.vm ∧ Uq_.heap = h0 ∧ CHv Z own_EL Uq_.vm h0) (fun _ _ _ _ _ => True) (fun _ Uq_ oq_ Ur_ => ∃ vq_ Lq_, oq_ = .returned vq_ ∧ Q_latos Z a csz dga cga dgb cgb sr pp u ku mm ys h0 n0 vq_ Ur_.heap Lq_ ∧ CHr Z own_EL Uq_.vm Uq_.heap Ur_.vm Ur_.heap ∧ ReturnedEndW Uq_ oq_ Ur_ Lq_ ({ frames := 6, cells := 10, slots := 68, locals := 91 } : Room).cells ({ frames := 6, cells := 10, slots := 68, locals := 91 } : Room).slots) := by
  refine MetFree.of_bodySF (plainFor_of_name pn_com_2fexample_2fredelivery_2fredelivery_2fsettings_2fListenAddress) hisR ?_
  intro p e s m args below meth c s₁ Bd hml0 hP hK
  obtain ⟨rfl, hZ, hh, hH⟩ := hP
  have W_ : ∀ {d : Jvm.Cond} (i : Nat), tables_1[i]? = some d → d.before a0 Z = true := fun i h => hw _ (List.mem_of_getElem? h)
  have hx := Bd.exec
  have hby := Bd.bytes
  have hml : c.maxLocals = 2 := hml0
  have hown : s.vm.findClass "com/example/redelivery/redelivery/settings/ListenAddress" = some m.cls := findClass_of_methodNamed Bd.named
  have hnm := (name_of_methodNamed Bd.named Bd.method).1
  have X0 : Stand p l e ({ frames := 6, cells := 10, slots := 68, locals := 91 } : Room) (s.setVm s.vm) m #[(.ref a)] below meth c s₁ [] 0 0 := Stand.of_body Bd
  have e0 : s₁.heap = h0 := by rw [← hh, Bd.state]; rfl
  have N0 := Fr.nil n0
  have K0 := Keep.refl h0 []
  have hS : s.Since s.vm s.heap.size := (State.WarmedH.refl s).since _
  have hkS : s.heap.size ≤ h0.size := by rw [hh]; exact Nat.le_refl _
  have hZ : Z.Warmed39 (s.setVm s.vm).vm := hZ
  have hown : (s.setVm s.vm).vm.findClass "com/example/redelivery/redelivery/settings/ListenAddress" = some m.cls := hown
  have own_wS : ∀ a ∈ Bundle.stringAtoms, a.before a0 Z = true := fun d hd => hw d (own_wSm d hd)
  have ew := own_EW Z a0 hw
  have hR := CHr.refl hH
  refine own_GH.start (Q := Q_latos Z a csz dga cga dgb cgb sr pp u ku mm ys h0 n0) (ef_latos m a) ?_
  have hll := hL4.len
  have hd5 := (own_dlen pp).2.2.2.2.2.1
  refine own_GH.sk 1 [(.ref a)] (fun _ kq => XS.aloadN X0.here hx rfl (hb hby d12_0) rfl rfl kq) ?_
  obtain ⟨T1, X1, e1, st1⟩ := getF X0 hx hZ hown (host := "") (Or.inl (W_ 60 rfl)) Via.refl e0 Fh (g := (mkF m 1 #[rv a, .unset] [(.ref a)])) rfl rfl (hb hby d12_1)
  refine own_GH.st (T' := T1) 4 [(.ref sr)] st1 ?_
  obtain ⟨a2, T2, h2, k2, b2, kb2, X2, e2, E2, hS, hkS, hZ, hown, Es2, Fc2, Fv2, Av2, lta2, ltb2, ch2, Li2, nq2, st2⟩ := ldcCH (vm0 := s.vm) X1 hx hZ hown (W_ 69 rfl) own_wS e1 hS hkS ew (by decide) hH (vs := [(.int 58)]) (z := (1 : Int32)) (by decide +kernel) (by decide) (by decide) (g := (mkF m 4 #[rv a, .unset] [(.ref sr)])) rfl (hb hby d12_4) (n := 4) (by decide +kernel) (by decide) (by decide) (by decide)
  have hR := hR.trans ch2
  have hH := ch2.1
  have F3 := Ea.ext E2
  have F4 := Fh.ext E2
  have F5 := Fp.ext E2
  have F6 := Es.ext E2
  have F7 := Sv.ext E2
  have F8 := Sc.ext E2
  have F9 := Au.ext E2
  have O10 := O0.ext E2
  have K11 := K0.ext E2
  have ne12 : a ≠ a2 := (nq2 _ (Safe.exa hZ.alike F3 (by decide) (by decide))).1
  have ne13 : a ≠ b2 := (nq2 _ (Safe.exa hZ.alike F3 (by decide) (by decide))).2
  refine own_GH.st (T' := T2) 6 [(.ref a2), (.ref sr)] st2 ?_
  obtain ⟨cq18, kq18, q18a, q18b, q18c⟩ := isOf hZ e2 F6
  obtain ⟨_, _, ⟨T18, L18, k18, n18⟩, -, X18, ⟨Lc18, hQ18, l18, y18, z18⟩, st18⟩ := X2.virtualBack hx (y := own_y37) (z := own_y37) hown (mvT hZ (W_ 70 rfl)) (mvT hZ (W_ 71 rfl)) (notFace_of_selects (args := #[]) (mvT hZ (W_ 73 rfl))) (mvT hZ (W_ 73 rfl)) (mvT hZ (W_ 72 rfl)) (by decide) (backOf (W := 0) (rm_contains l Z a0 hw [] sr a2 csz u b2 ku mm ys kb2 h2 n0 O10 S_CS hcs F6 F7 F8 Es2 Fv2 Fc2 F9 Av2 hL4) hZ (W_ 74 rfl) (W_ 8 rfl) (by decide) (by decide)) q18a q18c (g := (mkF m 6 #[rv a, .unset] [(.ref a2), (.ref sr)])) rfl (by rw [hml]; rfl) (Steps.refl _) (argsL := [(.ref a2)]) (rest := []) (lenOf pd__28Ljava_2flang_2fCharSequence_3b_29Z rfl) rfl (by show 2 * 0 + _ ≤ _; exact Nat.le_of_eq rfl) (hb hby d12_6) (fun _ _ => ⟨rfl, e2, (by decide : 2 + 0 ≤ _), (by decide : 8 + 0 ≤ _)⟩)
  dsimp only [Pt.U, Pt.locs, Pt.cells, Pt.slots] at X18 l18 y18 z18 st18 hQ18
  subst l18 y18 z18
  obtain ⟨rfl, Nq18, P19⟩ := hQ18
  have N18 := Fr.app N0 Nq18
  refine own_GH.st (T' := T18) 9 [(.int (own_has ys))] (fun _ kq => st18.trans kq) ?_
  rcases Classical.em ((own_has ys) = (0 : Int32)) with hc9 | hc9
  · refine own_GH.sk 50 [] (fun _ kq => XS.ifYes X18.here hx rfl (pc0 := 9) (pc' := 50) rfl (hb hby d12_9) rfl ((if0 _ _).trans (teq hc9).1) (by decide) (by decide) kq) ?_
    obtain ⟨T20, h20, X20, e20, E20, A20, D20, -, st20⟩ := newO X18 hx hZ hown (W_ 106 rfl) (W_ 107 rfl) (W_ 108 rfl) P19 (g := (mkF m 50 #[rv a, .unset] [])) rfl (hb hby d12_50) (by decide) (by decide)
    obtain ⟨b20, g20⟩ : ∃ z, z = h2.size := ⟨_, rfl⟩
    rw [← g20] at A20 D20 st20
    have ne21 : a ≠ b20 := Nat.ne_of_lt (Nat.lt_of_lt_of_le F3.lt (Nat.le_of_eq g20.symm))
    have ne22 : sr ≠ b20 := Nat.ne_of_lt (Nat.lt_of_lt_of_le F6.lt (Nat.le_of_eq g20.symm))
    have ne23 : u ≠ b20 := Nat.ne_of_lt (Nat.lt_of_lt_of_le F9.lt (Nat.le_of_eq g20.symm))
    have ne24 : a2 ≠ b20 := Nat.ne_of_lt (Nat.lt_of_lt_of_le Es2.lt (Nat.le_of_eq g20.symm))
    have ne25 : b2 ≠ b20 := Nat.ne_of_lt (Nat.lt_of_lt_of_le Av2.lt (Nat.le_of_eq g20.symm))
    have g26 : n0 ≤ b20 := Nat.le_trans O10.le (Nat.le_of_eq g20.symm)
    have z27 : h0.size ≤ b20 := Nat.le_trans K11.1 (Nat.le_of_eq g20.symm)
    have sf28 : Safe Z own_EL T2.vm h2 b20 := Safe.new (Nat.le_of_eq g20.symm)
    have hkS := Nat.le_trans hkS E20.1
    have sf29 := Safe.ext E20 hH sf28
    have hR := hR.trans (CHr.ext E20 hH)
    have hH := CHv.ext E20 hH
    have F30 := F3.ext E20
    have F31 := F4.ext E20
    have F32 := F5.ext E20
    have F33 := F6.ext E20
    have F34 := F7.ext E20
    have F35 := F8.ext E20
    have F36 := F9.ext E20
    have F37 := Es2.ext E20
    have F38 := Fc2.ext E20
    have F39 := Fv2.ext E20
    have F40 := Av2.ext E20
    have O41 := O10.ext E20
    have K42 := K11.ext E20
    have F43 : Fld Z h20 b20 "java/lang/AbstractStringBuilder" "value" "[B" .null := D20 (Or.inl (W_ 121 rfl)) (ty := (.array .byte)) (by decide)
    have F44 : Fld Z h20 b20 "java/lang/AbstractStringBuilder" "coder" "B" (.int 0) := D20 (Or.inl (W_ 123 rfl)) (ty := .byte) (by decide)
    have F45 : Fld Z h20 b20 "java/lang/AbstractStringBuilder" "count" "I" (.int 0) := D20 (Or.inl (W_ 140 rfl)) (ty := .int) (by decide)
    refine own_GH.st (T' := T20) 53 [(.ref b20)] st20 ?_
    refine own_GH.sk 54 [(.ref b20), (.ref b20)] (fun _ kq => XS.dup X20.here hx rfl (hb hby d12_53) rfl rfl kq) ?_
    obtain ⟨_, _, ⟨T46, L46, k46, n46⟩, -, X46, ⟨Lc46, hQ46, l46, y46, z46⟩, st46⟩ := X20.specialBack hx (y := own_y11) rfl hown (mvT hZ (W_ 109 rfl)) (mvT hZ (W_ 110 rfl)) (mvT hZ (W_ 111 rfl)) (by decide) (backOf (W := 1) (rm_sbinit l Z a0 hw [] b20 csz h20 n0 O41 S_CS hcs A20 F43 F44 F45 g26) hZ (W_ 111 rfl) (W_ 108 rfl) (by decide) (by decide)) (g := (mkF m 54 #[rv a, .unset] [(.ref b20), (.ref b20)])) rfl (by rw [hml]; rfl) (Steps.refl _) (a := b20) (argsL := []) (rest := [(.ref b20)]) (lenOf pd__28_29V rfl) rfl (by show 2 * 0 + _ ≤ _; exact Nat.le_of_eq rfl) (hb hby d12_54) (fun _ _ => ⟨rfl, e20, (by decide : 3 + 1 ≤ _), (by decide : 12 + 16 ≤ _)⟩)
    dsimp only [Pt.U, Pt.locs, Pt.cells, Pt.slots] at X46 l46 y46 z46 st46 hQ46
    subst l46 y46 z46
    obtain ⟨b47, x48, rfl, Nq46, P49, P50, P51, P52, P53, P54, P55⟩ := hQ46
    have N46 := Fr.app N18 Nq46
    have ne56 : a ≠ b47 := Nat.ne_of_lt (Nat.lt_of_lt_of_le F30.lt P50)
    have ne57 : sr ≠ b47 := Nat.ne_of_lt (Nat.lt_of_lt_of_le F33.lt P50)
    have ne58 : u ≠ b47 := Nat.ne_of_lt (Nat.lt_of_lt_of_le F36.lt P50)
    have ne59 : a2 ≠ b47 := Nat.ne_of_lt (Nat.lt_of_lt_of_le F37.lt P50)
    have ne60 : b2 ≠ b47 := Nat.ne_of_lt (Nat.lt_of_lt_of_le F40.lt P50)
    have ne61 : b20 ≠ b47 := Nat.ne_of_lt (Nat.lt_of_lt_of_le A20.lt P50)
    have g62 : n0 ≤ b47 := Nat.le_trans O41.le P50
    have z63 : h0.size ≤ b47 := Nat.le_trans K42.1 P50
    have sf64 : Safe Z own_EL T2.vm h20 b47 := Safe.new P50
    have hkS := Nat.le_trans hkS P49.1
    have sf65 := Safe.keep P49 (sfS sf29 sf0) hH sf29
    have sf66 := Safe.keep P49 (sfS sf29 sf0) hH sf64
    have hR := hR.trans (CHr.keep P49 (sfS sf29 sf0) hH)
    have hH := CHv.keep P49 (sfS sf29 sf0) hH
    have F67 := F30.keep P49
    have F68 := F31.keep P49 (ninS ne21 nin0)
    have F69 := F32.keep P49 (ninS ne21 nin0)
    have F70 := F33.keep P49
    have F71 := F34.keep P49 (ninS ne22 nin0)
    have F72 := F35.keep P49 (ninS ne22 nin0)
    have F73 := F36.keep P49 (ninS ne23 nin0)
    have F74 := F37.keep P49
    have F75 := F38.keep P49 (ninS ne24 nin0)
    have F76 := F39.keep P49 (ninS ne24 nin0)
    have F77 := F40.keep P49 (ninS ne25 nin0)
    have F78 := A20.keep P49
    have O79 := O41.keep P49 (allS g26 all0)
    have K80 := K42.trans P49 (allS (Or.inr z27) all0)
    refine own_GH.st (T' := T46) 57 [(.ref b20)] (fun _ kq => st46.trans kq) ?_
    refine own_GH.sk 58 [(.ref a), (.ref b20)] (fun _ kq => XS.aloadN X46.here hx rfl (hb hby d12_57) rfl rfl kq) ?_
    obtain ⟨T81, X81, e81, st81⟩ := getF X46 hx hZ hown (host := "") (Or.inl (W_ 60 rfl)) Via.refl rfl F68 (g := (mkF m 58 #[rv a, .unset] [(.ref a), (.ref b20)])) rfl rfl (hb hby d12_58)
    refine own_GH.st (T' := T81) 61 [(.ref sr), (.ref b20)] st81 ?_
    obtain ⟨cq83, kq83, q83a, q83b, q83c⟩ := isOf hZ e81 P51
    obtain ⟨_, _, ⟨T83, L83, k83, n83⟩, -, X83, ⟨Lc83, hQ83, l83, y83, z83⟩, st83⟩ := X81.virtualBack hx (y := own_y25) (z := own_y25) hown (mvT hZ (W_ 124 rfl)) (mvT hZ (W_ 125 rfl)) (notFace_of_selects (args := #[]) (mvT hZ (W_ 127 rfl))) (mvT hZ (W_ 127 rfl)) (mvT hZ (W_ 126 rfl)) (by decide) (backOf (W := 0) (rm_sbapS l Z a0 hw [] b20 sr csz (0 : Int32) b47 x48 ([] : List Int32) u ku mm ys T46.heap n0 O79 S_CS hcs P51 P52 P53 P54 P55 F70 F71 F72 F73 g26 g62 ne58 ne57 ne61 (Ne.symm ne22) (Ne.symm ne23) (by decide) hll.1 (by first | omega | (simp only [List.length_append, List.length_cons, List.length_nil]; omega) | simp)) hZ (W_ 128 rfl) (W_ 108 rfl) (by decide) (by decide)) q83a q83c (g := (mkF m 61 #[rv a, .unset] [(.ref sr), (.ref b20)])) rfl (by rw [hml]; rfl) (Steps.refl _) (argsL := [(.ref sr)]) (rest := []) (lenOf pd__28Ljava_2flang_2fString_3b_29Ljava_2flang_2fStringBuilder_3b rfl) rfl (by show 2 * 0 + _ ≤ _; exact Nat.le_of_eq rfl) (hb hby d12_61) (fun _ _ => ⟨rfl, e81, (by decide : 4 + 0 ≤ _), (by decide : 28 + 0 ≤ _)⟩)
    dsimp only [Pt.U, Pt.locs, Pt.cells, Pt.slots] at X83 l83 y83 z83 st83 hQ83
    subst l83 y83 z83
    obtain ⟨rfl, Nq83, P84, P85, P86, P87, P88, P89⟩ := hQ83
    have N83 := Fr.app N46 Nq83
    have hkS := Nat.le_trans hkS P84.1
    have sf90 := Safe.keep P84 (sfS sf65 (sfS sf66 sf0)) hH sf65
    have sf91 := Safe.keep P84 (sfS sf65 (sfS sf66 sf0)) hH sf66
    have hR := hR.trans (CHr.keep P84 (sfS sf65 (sfS sf66 sf0)) hH)
    have hH := CHv.keep P84 (sfS sf65 (sfS sf66 sf0)) hH
    have F92 := F67.keep P84
    have F93 := F68.keep P84 (ninS ne21 (ninS ne56 nin0))
    have F94 := F69.keep P84 (ninS ne21 (ninS ne56 nin0))
    have F95 := F70.keep P84
    have F96 := F71.keep P84 (ninS ne22 (ninS ne57 nin0))
    have F97 := F72.keep P84 (ninS ne22 (ninS ne57 nin0))
    have F98 := F73.keep P84 (ninS ne23 (ninS ne58 nin0))
    have F99 := F74.keep P84
    have F100 := F75.keep P84 (ninS ne24 (ninS ne59 nin0))
    have F101 := F76.keep P84 (ninS ne24 (ninS ne59 nin0))
    have F102 := F77.keep P84 (ninS ne25 (ninS ne60 nin0))
    have F103 := P51.keep P84
    have O104 := O79.keep P84 (allS g26 (allS g62 all0))
    have K105 := K80.trans P84 (allS (Or.inr z27) (allS (Or.inr z63) all0))
    have hn82 : ((0 : Int32) + mm).toInt = ((([] : List Int32) ++ ys).length : Int) := own_cnt (by decide) hll.1 (by first | omega | (simp only [List.length_append, List.length_cons, List.length_nil]; omega) | simp)
    refine own_GH.st (T' := T83) 64 [(.ref b20)] (fun _ kq => st83.trans kq) ?_
    obtain ⟨a106, T106, h106, k106, b106, kb106, X106, e106, E106, hS, hkS, hZ, hown, Es106, Fc106, Fv106, Av106, lta106, ltb106, ch106, Li106, nq106, st106⟩ := ldcCH (vm0 := T2.vm) X83 hx hZ hown (W_ 69 rfl) own_wS rfl hS hkS ew (by decide) hH (vs := [(.int 58)]) (z := (1 : Int32)) (by decide +kernel) (by decide) (by decide) (g := (mkF m 64 #[rv a, .unset] [(.ref b20)])) rfl (hb hby d12_64) (n := 4) (by decide +kernel) (by decide) (by decide) (by decide)
    have sf107 := ch106.safe P85.lt sf90
    have sf108 := ch106.safe P89.lt sf91
    have hR := hR.trans ch106
    have hH := ch106.1
    have F109 := F92.ext E106
    have F110 := F93.ext E106
    have F111 := F94.ext E106
    have F112 := F95.ext E106
    have F113 := F96.ext E106
    have F114 := F97.ext E106
    have F115 := F98.ext E106
    have F116 := F99.ext E106
    have F117 := F100.ext E106
    have F118 := F101.ext E106
    have F119 := F102.ext E106
    have F120 := P85.ext E106
    have F121 := P86.ext E106
    have F122 := P87.ext E106
    have F123 := P88.ext E106
    have F124 := P89.ext E106
    have O125 := O104.ext E106
    have K126 := K105.ext E106
    have ne127 : a ≠ a106 := (nq106 _ (Safe.exa hZ.alike F109 (by decide) (by decide))).1
    have ne128 : a ≠ b106 := (nq106 _ (Safe.exa hZ.alike F109 (by decide) (by decide))).2
    refine own_GH.st (T' := T106) 66 [(.ref a106), (.ref b20)] st106 ?_
    obtain ⟨cq138, kq138, q138a, q138b, q138c⟩ := isOf hZ e106 F120
    obtain ⟨_, _, ⟨T138, L138, k138, n138⟩, -, X138, ⟨Lc138, hQ138, l138, y138, z138⟩, st138⟩ := X106.virtualBack hx (y := own_y25) (z := own_y25) hown (mvT hZ (W_ 124 rfl)) (mvT hZ (W_ 125 rfl)) (notFace_of_selects (args := #[]) (mvT hZ (W_ 127 rfl))) (mvT hZ (W_ 127 rfl)) (mvT hZ (W_ 126 rfl)) (by decide) (backOf (W := 0) (rm_sbapS l Z a0 hw [] b20 a106 csz ((0 : Int32) + mm) b47 x48 (([] : List Int32) ++ ys) b106 kb106 (1 : Int32) ([(58 : Int32)]) h106 n0 O125 S_CS hcs F120 F121 F122 F123 F124 Es106 Fv106 Fc106 Av106 g26 g62 (Ne.symm (nq106 _ sf108).2) (Ne.symm (nq106 _ sf108).1) ne61 (nq106 _ sf107).1 (nq106 _ sf107).2 hn82 (by decide) (by first | omega | (simp only [List.length_append, List.length_cons, List.length_nil]; omega) | simp)) hZ (W_ 128 rfl) (W_ 108 rfl) (by decide) (by decide)) q138a q138c (g := (mkF m 66 #[rv a, .unset] [(.ref a106), (.ref b20)])) rfl (by rw [hml]; rfl) (Steps.refl _) (argsL := [(.ref a106)]) (rest := []) (lenOf pd__28Ljava_2flang_2fString_3b_29Ljava_2flang_2fStringBuilder_3b rfl) rfl (by show 2 * 0 + _ ≤ _; exact Nat.le_of_eq rfl) (hb hby d12_66) (fun _ _ => ⟨rfl, e106, (by decide : 6 + 0 ≤ _), (by decide : 36 + 0 ≤ _)⟩)
    dsimp only [Pt.U, Pt.locs, Pt.cells, Pt.slots] at X138 l138 y138 z138 st138 hQ138
    subst l138 y138 z138
    obtain ⟨rfl, Nq138, P139, P140, P141, P142, P143, P144⟩ := hQ138
    have N138 := Fr.app N83 Nq138
    have hkS := Nat.le_trans hkS P139.1
    have sf145 := Safe.keep P139 (sfS sf107 (sfS sf108 sf0)) hH sf107
    have sf146 := Safe.keep P139 (sfS sf107 (sfS sf108 sf0)) hH sf108
    have hR := hR.trans (CHr.keep P139 (sfS sf107 (sfS sf108 sf0)) hH)
    have hH := CHv.keep P139 (sfS sf107 (sfS sf108 sf0)) hH
    have F147 := F109.keep P139
    have F148 := F110.keep P139 (ninS ne21 (ninS ne56 nin0))
    have F149 := F111.keep P139 (ninS ne21 (ninS ne56 nin0))
    have F150 := F112.keep P139
    have F151 := F113.keep P139 (ninS ne22 (ninS ne57 nin0))
    have F152 := F114.keep P139 (ninS ne22 (ninS ne57 nin0))
    have F153 := F115.keep P139 (ninS ne23 (ninS ne58 nin0))
    have F154 := F116.keep P139
    have F155 := F117.keep P139 (ninS ne24 (ninS ne59 nin0))
    have F156 := F118.keep P139 (ninS ne24 (ninS ne59 nin0))
    have F157 := F119.keep P139 (ninS ne25 (ninS ne60 nin0))
    have F158 := F120.keep P139
    have F159 := Es106.keep P139
    have F160 := Fc106.keep P139 (ninS (Ne.symm (nq106 _ sf107).1) (ninS (Ne.symm (nq106 _ sf108).1) nin0))
    have F161 := Fv106.keep P139 (ninS (Ne.symm (nq106 _ sf107).1) (ninS (Ne.symm (nq106 _ sf108).1) nin0))
    have F162 := Av106.keep P139 (ninS (Ne.symm (nq106 _ sf107).2) (ninS (Ne.symm (nq106 _ sf108).2) nin0))
    have O163 := O125.keep P139 (allS g26 (allS g62 all0))
    have K164 := K126.trans P139 (allS (Or.inr z27) (allS (Or.inr z63) all0))
    have hn137 : (((0 : Int32) + mm) + (1 : Int32)).toInt = (((([] : List Int32) ++ ys) ++ [(58 : Int32)]).length : Int) := own_cnt hn82 (by decide) (by first | omega | (simp only [List.length_append, List.length_cons, List.length_nil]; omega) | simp)
    refine own_GH.st (T' := T138) 69 [(.ref b20)] (fun _ kq => st138.trans kq) ?_
    refine own_GH.sk 70 [(.ref a), (.ref b20)] (fun _ kq => XS.aloadN X138.here hx rfl (hb hby d12_69) rfl rfl kq) ?_
    obtain ⟨T165, X165, e165, st165⟩ := getF X138 hx hZ hown (host := "") (Or.inl (W_ 62 rfl)) Via.refl rfl F149 (g := (mkF m 70 #[rv a, .unset] [(.ref a), (.ref b20)])) rfl rfl (hb hby d12_70)
    refine own_GH.st (T' := T165) 73 [(.int pp), (.ref b20)] st165 ?_
    obtain ⟨cq167, kq167, q167a, q167b, q167c⟩ := isOf hZ e165 P140
    obtain ⟨_, _, ⟨T167, L167, k167, n167⟩, -, X167, ⟨Lc167, hQ167, l167, y167, z167⟩, st167⟩ := X165.virtualBack hx (y := own_y27) (z := own_y27) hown (mvT hZ (W_ 166 rfl)) (mvT hZ (W_ 167 rfl)) (notFace_of_selects (args := #[]) (mvT hZ (W_ 169 rfl))) (mvT hZ (W_ 169 rfl)) (mvT hZ (W_ 168 rfl)) (by decide) (backOf (W := 0) (rm_sbapI l Z a0 hw [] b20 pp csz dga cga dgb cgb (((0 : Int32) + mm) + (1 : Int32)) b47 x48 ((([] : List Int32) ++ ys) ++ [(58 : Int32)]) T138.heap n0 O163 S_CS hcs S_D1 TB1 S_D2 TB2 P140 P141 P142 P143 P144 g26 g62 ne61 hp0 hp1 hn137 (by first | omega | (simp only [List.length_append, List.length_cons, List.length_nil]; omega) | simp)) hZ (W_ 170 rfl) (W_ 108 rfl) (by decide) (by decide)) q167a q167c (g := (mkF m 73 #[rv a, .unset] [(.int pp), (.ref b20)])) rfl (by rw [hml]; rfl) (Steps.refl _) (argsL := [(.int pp)]) (rest := []) (lenOf pd__28I_29Ljava_2flang_2fStringBuilder_3b rfl) rfl (by show 2 * 0 + _ ≤ _; exact Nat.le_of_eq rfl) (hb hby d12_73) (fun _ _ => ⟨rfl, e165, (by decide : 6 + 0 ≤ _), (by decide : 36 + 0 ≤ _)⟩)
    dsimp only [Pt.U, Pt.locs, Pt.cells, Pt.slots] at X167 l167 y167 z167 st167 hQ167
    subst l167 y167 z167
    obtain ⟨rfl, Nq167, P168, P169, P170, P171, P172, P173⟩ := hQ167
    have N167 := Fr.app N138 Nq167
    have hkS := Nat.le_trans hkS P168.1
    have sf174 := Safe.keep P168 (sfS sf145 (sfS sf146 sf0)) hH sf145
    have sf175 := Safe.keep P168 (sfS sf145 (sfS sf146 sf0)) hH sf146
    have hR := hR.trans (CHr.keep P168 (sfS sf145 (sfS sf146 sf0)) hH)
    have hH := CHv.keep P168 (sfS sf145 (sfS sf146 sf0)) hH
    have F176 := F147.keep P168
    have F177 := F148.keep P168 (ninS ne21 (ninS ne56 nin0))
    have F178 := F149.keep P168 (ninS ne21 (ninS ne56 nin0))
    have F179 := F150.keep P168
    have F180 := F151.keep P168 (ninS ne22 (ninS ne57 nin0))
    have F181 := F152.keep P168 (ninS ne22 (ninS ne57 nin0))
    have F182 := F153.keep P168 (ninS ne23 (ninS ne58 nin0))
    have F183 := F154.keep P168
    have F184 := F155.keep P168 (ninS ne24 (ninS ne59 nin0))
    have F185 := F156.keep P168 (ninS ne24 (ninS ne59 nin0))
    have F186 := F157.keep P168 (ninS ne25 (ninS ne60 nin0))
    have F187 := P140.keep P168
    have F188 := F159.keep P168
    have F189 := F160.keep P168 (ninS (Ne.symm (nq106 _ sf107).1) (ninS (Ne.symm (nq106 _ sf108).1) nin0))
    have F190 := F161.keep P168 (ninS (Ne.symm (nq106 _ sf107).1) (ninS (Ne.symm (nq106 _ sf108).1) nin0))
    have F191 := F162.keep P168 (ninS (Ne.symm (nq106 _ sf107).2) (ninS (Ne.symm (nq106 _ sf108).2) nin0))
    have O192 := O163.keep P168 (allS g26 (allS g62 all0))
    have K193 := K164.trans P168 (allS (Or.inr z27) (allS (Or.inr z63) all0))
    have hn166 : ((((0 : Int32) + mm) + (1 : Int32)) + (own_ss pp)).toInt = ((((([] : List Int32) ++ ys) ++ [(58 : Int32)]) ++ own_dig pp).length : Int) := own_cnt hn137 (own_dlen pp).2.2.2.2.2.2 (by first | omega | (simp only [List.length_append, List.length_cons, List.length_nil]; omega) | simp)
    refine own_GH.st (T' := T167) 76 [(.ref b20)] (fun _ kq => st167.trans kq) ?_
    obtain ⟨cq194, kq194, q194a, q194b, q194c⟩ := isOf hZ rfl P169
    obtain ⟨_, _, ⟨T194, L194, k194, n194⟩, -, X194, ⟨Lc194, hQ194, l194, y194, z194⟩, st194⟩ := X167.virtualBack hx (y := own_y32) (z := own_y32) hown (mvT hZ (W_ 188 rfl)) (mvT hZ (W_ 189 rfl)) (notFace_of_selects (args := #[]) (mvT hZ (W_ 191 rfl))) (mvT hZ (W_ 191 rfl)) (mvT hZ (W_ 190 rfl)) (by decide) (backOf (W := 0) (rm_sbstr l Z a0 hw [] b20 csz b47 ((((0 : Int32) + mm) + (1 : Int32)) + (own_ss pp)) x48 (((([] : List Int32) ++ ys) ++ [(58 : Int32)]) ++ own_dig pp) T167.heap n0 O192 S_CS hcs P169 P170 P171 P172 P173 hn166 (by first | omega | (simp only [List.length_append, List.length_cons, List.length_nil]; omega) | simp)) hZ (W_ 192 rfl) (W_ 108 rfl) (by decide) (by decide)) q194a q194c (g := (mkF m 76 #[rv a, .unset] [(.ref b20)])) rfl (by rw [hml]; rfl) (Steps.refl _) (argsL := []) (rest := []) (lenOf pd__28_29Ljava_2flang_2fString_3b rfl) rfl (by show 2 * 0 + _ ≤ _; exact Nat.le_of_eq rfl) (hb hby d12_76) (fun _ _ => ⟨rfl, rfl, (by decide : 6 + 2 ≤ _), (by decide : 36 + 20 ≤ _)⟩)
    dsimp only [Pt.U, Pt.locs, Pt.cells, Pt.slots] at X194 l194 y194 z194 st194 hQ194
    subst l194 y194 z194
    obtain ⟨b195, b196, x197, rfl, Nq194, P198, P199, P200, P201, P202, P203, P204⟩ := hQ194
    have N194 := Fr.app N167 Nq194
    have ne205 : a ≠ b195 := Nat.ne_of_lt (Nat.lt_of_lt_of_le F176.lt P199)
    have ne206 : sr ≠ b195 := Nat.ne_of_lt (Nat.lt_of_lt_of_le F179.lt P199)
    have ne207 : u ≠ b195 := Nat.ne_of_lt (Nat.lt_of_lt_of_le F182.lt P199)
    have ne208 : a2 ≠ b195 := Nat.ne_of_lt (Nat.lt_of_lt_of_le F183.lt P199)
    have ne209 : b2 ≠ b195 := Nat.ne_of_lt (Nat.lt_of_lt_of_le F186.lt P199)
    have ne210 : b20 ≠ b195 := Nat.ne_of_lt (Nat.lt_of_lt_of_le P169.lt P199)
    have ne211 : a106 ≠ b195 := Nat.ne_of_lt (Nat.lt_of_lt_of_le F188.lt P199)
    have ne212 : b106 ≠ b195 := Nat.ne_of_lt (Nat.lt_of_lt_of_le F191.lt P199)
    have ne213 : b47 ≠ b195 := Nat.ne_of_lt (Nat.lt_of_lt_of_le P173.lt P199)
    have g214 : n0 ≤ b195 := Nat.le_trans O192.le P199
    have z215 : h0.size ≤ b195 := Nat.le_trans K193.1 P199
    have sf216 : Safe Z own_EL T106.vm T167.heap b195 := Safe.new P199
    have ne217 : a ≠ b196 := Nat.ne_of_lt (Nat.lt_of_lt_of_le F176.lt P200)
    have ne218 : sr ≠ b196 := Nat.ne_of_lt (Nat.lt_of_lt_of_le F179.lt P200)
    have ne219 : u ≠ b196 := Nat.ne_of_lt (Nat.lt_of_lt_of_le F182.lt P200)
    have ne220 : a2 ≠ b196 := Nat.ne_of_lt (Nat.lt_of_lt_of_le F183.lt P200)
    have ne221 : b2 ≠ b196 := Nat.ne_of_lt (Nat.lt_of_lt_of_le F186.lt P200)
    have ne222 : b20 ≠ b196 := Nat.ne_of_lt (Nat.lt_of_lt_of_le P169.lt P200)
    have ne223 : a106 ≠ b196 := Nat.ne_of_lt (Nat.lt_of_lt_of_le F188.lt P200)
    have ne224 : b106 ≠ b196 := Nat.ne_of_lt (Nat.lt_of_lt_of_le F191.lt P200)
    have ne225 : b47 ≠ b196 := Nat.ne_of_lt (Nat.lt_of_lt_of_le P173.lt P200)
    have g226 : n0 ≤ b196 := Nat.le_trans O192.le P200
    have z227 : h0.size ≤ b196 := Nat.le_trans K193.1 P200
    have sf228 : Safe Z own_EL T106.vm T167.heap b196 := Safe.new P200
    have hkS := Nat.le_trans hkS P198.1
    have sf229 := Safe.keep P198 sf0 hH sf174
    have sf230 := Safe.keep P198 sf0 hH sf175
    have sf231 := Safe.keep P198 sf0 hH sf216
    have sf232 := Safe.keep P198 sf0 hH sf228
    have hR := hR.trans (CHr.keep P198 sf0 hH)
    have hH := CHv.keep P198 sf0 hH
    have F233 := F176.keep P198
    have F234 := F177.keep P198 nin0
    have F235 := F178.keep P198 nin0
    have F236 := F179.keep P198
    have F237 := F180.keep P198 nin0
    have F238 := F181.keep P198 nin0
    have F239 := F182.keep P198 nin0
    have F240 := F183.keep P198
    have F241 := F184.keep P198 nin0
    have F242 := F185.keep P198 nin0
    have F243 := F186.keep P198 nin0
    have F244 := P169.keep P198
    have F245 := F188.keep P198
    have F246 := F189.keep P198 nin0
    have F247 := F190.keep P198 nin0
    have F248 := F191.keep P198 nin0
    have F249 := P170.keep P198 nin0
    have F250 := P171.keep P198 nin0
    have F251 := P172.keep P198 nin0
    have F252 := P173.keep P198 nin0
    have O253 := O192.keep P198 all0
    have K254 := K193.trans P198 all0
    refine own_GH.st (T' := T194) 79 [(.ref b195)] (fun _ kq => st194.trans kq) ?_
    refine own_GH.si 80 [] (fun _ kq => XS.astoreN X194.here hx rfl (hb hby d12_79) rfl rfl (l' := #[rv a, rv b195]) rfl kq) ?_
    refine own_GH.sk 81 [(.ref b195)] (fun _ kq => XS.aloadN X194.here hx rfl (hb hby d12_80) rfl rfl kq) ?_
    exact own_retH X194 hS rfl hkS hZ ew hH hh hR (v := some (.ref b195)) (fun h => by rw [Bd.returns] at h; cases h) Bd.notSynchronized ⟨b195, b196, x197, ((((0 : Int32) + mm) + (1 : Int32)) + (own_ss pp)), rfl, N194, K254, z215, z227, P201, P202, P203, (by rw [own_pre0 (own_has_t hc9)]; exact P204), (by rw [own_pre0 (own_has_t hc9)]; exact hn166)⟩ (by decide) (by decide) (fun fs hr => own_retR X194 hx Bd.returns rfl rfl (hb hby d12_81) hr)
  · refine own_GH.sk 12 [] (fun _ kq => XS.ifNo X18.here hx rfl (hb hby d12_9) rfl ((if0 _ _).trans (feq hc9).1) kq) ?_
    obtain ⟨T255, h255, X255, e255, E255, A255, D255, -, st255⟩ := newO X18 hx hZ hown (W_ 106 rfl) (W_ 107 rfl) (W_ 108 rfl) P19 (g := (mkF m 12 #[rv a, .unset] [])) rfl (hb hby d12_12) (by decide) (by decide)
    obtain ⟨b255, g255⟩ : ∃ z, z = h2.size := ⟨_, rfl⟩
    rw [← g255] at A255 D255 st255
    have ne256 : a ≠ b255 := Nat.ne_of_lt (Nat.lt_of_lt_of_le F3.lt (Nat.le_of_eq g255.symm))
    have ne257 : sr ≠ b255 := Nat.ne_of_lt (Nat.lt_of_lt_of_le F6.lt (Nat.le_of_eq g255.symm))
    have ne258 : u ≠ b255 := Nat.ne_of_lt (Nat.lt_of_lt_of_le F9.lt (Nat.le_of_eq g255.symm))
    have ne259 : a2 ≠ b255 := Nat.ne_of_lt (Nat.lt_of_lt_of_le Es2.lt (Nat.le_of_eq g255.symm))
    have ne260 : b2 ≠ b255 := Nat.ne_of_lt (Nat.lt_of_lt_of_le Av2.lt (Nat.le_of_eq g255.symm))
    have g261 : n0 ≤ b255 := Nat.le_trans O10.le (Nat.le_of_eq g255.symm)
    have z262 : h0.size ≤ b255 := Nat.le_trans K11.1 (Nat.le_of_eq g255.symm)
    have sf263 : Safe Z own_EL T2.vm h2 b255 := Safe.new (Nat.le_of_eq g255.symm)
    have hkS := Nat.le_trans hkS E255.1
    have sf264 := Safe.ext E255 hH sf263
    have hR := hR.trans (CHr.ext E255 hH)
    have hH := CHv.ext E255 hH
    have F265 := F3.ext E255
    have F266 := F4.ext E255
    have F267 := F5.ext E255
    have F268 := F6.ext E255
    have F269 := F7.ext E255
    have F270 := F8.ext E255
    have F271 := F9.ext E255
    have F272 := Es2.ext E255
    have F273 := Fc2.ext E255
    have F274 := Fv2.ext E255
    have F275 := Av2.ext E255
    have O276 := O10.ext E255
    have K277 := K11.ext E255
    have F278 : Fld Z h255 b255 "java/lang/AbstractStringBuilder" "value" "[B" .null := D255 (Or.inl (W_ 121 rfl)) (ty := (.array .byte)) (by decide)
    have F279 : Fld Z h255 b255 "java/lang/AbstractStringBuilder" "coder" "B" (.int 0) := D255 (Or.inl (W_ 123 rfl)) (ty := .byte) (by decide)
    have F280 : Fld Z h255 b255 "java/lang/AbstractStringBuilder" "count" "I" (.int 0) := D255 (Or.inl (W_ 140 rfl)) (ty := .int) (by decide)
    refine own_GH.st (T' := T255) 15 [(.ref b255)] st255 ?_
    refine own_GH.sk 16 [(.ref b255), (.ref b255)] (fun _ kq => XS.dup X255.here hx rfl (hb hby d12_15) rfl rfl kq) ?_
    obtain ⟨_, _, ⟨T281, L281, k281, n281⟩, -, X281, ⟨Lc281, hQ281, l281, y281, z281⟩, st281⟩ := X255.specialBack hx (y := own_y11) rfl hown (mvT hZ (W_ 109 rfl)) (mvT hZ (W_ 110 rfl)) (mvT hZ (W_ 111 rfl)) (by decide) (backOf (W := 1) (rm_sbinit l Z a0 hw [] b255 csz h255 n0 O276 S_CS hcs A255 F278 F279 F280 g261) hZ (W_ 111 rfl) (W_ 108 rfl) (by decide) (by decide)) (g := (mkF m 16 #[rv a, .unset] [(.ref b255), (.ref b255)])) rfl (by rw [hml]; rfl) (Steps.refl _) (a := b255) (argsL := []) (rest := [(.ref b255)]) (lenOf pd__28_29V rfl) rfl (by show 2 * 0 + _ ≤ _; exact Nat.le_of_eq rfl) (hb hby d12_16) (fun _ _ => ⟨rfl, e255, (by decide : 3 + 1 ≤ _), (by decide : 12 + 16 ≤ _)⟩)
    dsimp only [Pt.U, Pt.locs, Pt.cells, Pt.slots] at X281 l281 y281 z281 st281 hQ281
    subst l281 y281 z281
    obtain ⟨b282, x283, rfl, Nq281, P284, P285, P286, P287, P288, P289, P290⟩ := hQ281
    have N281 := Fr.app N18 Nq281
    have ne291 : a ≠ b282 := Nat.ne_of_lt (Nat.lt_of_lt_of_le F265.lt P285)
    have ne292 : sr ≠ b282 := Nat.ne_of_lt (Nat.lt_of_lt_of_le F268.lt P285)
    have ne293 : u ≠ b282 := Nat.ne_of_lt (Nat.lt_of_lt_of_le F271.lt P285)
    have ne294 : a2 ≠ b282 := Nat.ne_of_lt (Nat.lt_of_lt_of_le F272.lt P285)
    have ne295 : b2 ≠ b282 := Nat.ne_of_lt (Nat.lt_of_lt_of_le F275.lt P285)
    have ne296 : b255 ≠ b282 := Nat.ne_of_lt (Nat.lt_of_lt_of_le A255.lt P285)
    have g297 : n0 ≤ b282 := Nat.le_trans O276.le P285
    have z298 : h0.size ≤ b282 := Nat.le_trans K277.1 P285
    have sf299 : Safe Z own_EL T2.vm h255 b282 := Safe.new P285
    have hkS := Nat.le_trans hkS P284.1
    have sf300 := Safe.keep P284 (sfS sf264 sf0) hH sf264
    have sf301 := Safe.keep P284 (sfS sf264 sf0) hH sf299
    have hR := hR.trans (CHr.keep P284 (sfS sf264 sf0) hH)
    have hH := CHv.keep P284 (sfS sf264 sf0) hH
    have F302 := F265.keep P284
    have F303 := F266.keep P284 (ninS ne256 nin0)
    have F304 := F267.keep P284 (ninS ne256 nin0)
    have F305 := F268.keep P284
    have F306 := F269.keep P284 (ninS ne257 nin0)
    have F307 := F270.keep P284 (ninS ne257 nin0)
    have F308 := F271.keep P284 (ninS ne258 nin0)
    have F309 := F272.keep P284
    have F310 := F273.keep P284 (ninS ne259 nin0)
    have F311 := F274.keep P284 (ninS ne259 nin0)
    have F312 := F275.keep P284 (ninS ne260 nin0)
    have F313 := A255.keep P284
    have O314 := O276.keep P284 (allS g261 all0)
    have K315 := K277.trans P284 (allS (Or.inr z262) all0)
    refine own_GH.st (T' := T281) 19 [(.ref b255)] (fun _ kq => st281.trans kq) ?_
    obtain ⟨a316, T316, h316, k316, b316, kb316, X316, e316, E316, hS, hkS, hZ, hown, Es316, Fc316, Fv316, Av316, lta316, ltb316, ch316, Li316, nq316, st316⟩ := ldcCH (vm0 := T2.vm) X281 hx hZ hown (W_ 250 rfl) own_wS rfl hS hkS ew (by decide) hH (vs := [(.int 91)]) (z := (1 : Int32)) (by decide +kernel) (by decide) (by decide) (g := (mkF m 19 #[rv a, .unset] [(.ref b255)])) rfl (hb hby d12_19) (n := 4) (by decide +kernel) (by decide) (by decide) (by decide)
    have sf317 := ch316.safe P286.lt sf300
    have sf318 := ch316.safe P290.lt sf301
    have hR := hR.trans ch316
    have hH := ch316.1
    have F319 := F302.ext E316
    have F320 := F303.ext E316
    have F321 := F304.ext E316
    have F322 := F305.ext E316
    have F323 := F306.ext E316
    have F324 := F307.ext E316
    have F325 := F308.ext E316
    have F326 := F309.ext E316
    have F327 := F310.ext E316
    have F328 := F311.ext E316
    have F329 := F312.ext E316
    have F330 := P286.ext E316
    have F331 := P287.ext E316
    have F332 := P288.ext E316
    have F333 := P289.ext E316
    have F334 := P290.ext E316
    have O335 := O314.ext E316
    have K336 := K315.ext E316
    have ne337 : a ≠ a316 := (nq316 _ (Safe.exa hZ.alike F319 (by decide) (by decide))).1
    have ne338 : a ≠ b316 := (nq316 _ (Safe.exa hZ.alike F319 (by decide) (by decide))).2
    refine own_GH.st (T' := T316) 21 [(.ref a316), (.ref b255)] st316 ?_
    obtain ⟨cq348, kq348, q348a, q348b, q348c⟩ := isOf hZ e316 F330
    obtain ⟨_, _, ⟨T348, L348, k348, n348⟩, -, X348, ⟨Lc348, hQ348, l348, y348, z348⟩, st348⟩ := X316.virtualBack hx (y := own_y25) (z := own_y25) hown (mvT hZ (W_ 124 rfl)) (mvT hZ (W_ 125 rfl)) (notFace_of_selects (args := #[]) (mvT hZ (W_ 127 rfl))) (mvT hZ (W_ 127 rfl)) (mvT hZ (W_ 126 rfl)) (by decide) (backOf (W := 0) (rm_sbapS l Z a0 hw [] b255 a316 csz (0 : Int32) b282 x283 ([] : List Int32) b316 kb316 (1 : Int32) ([(91 : Int32)]) h316 n0 O335 S_CS hcs F330 F331 F332 F333 F334 Es316 Fv316 Fc316 Av316 g261 g297 (Ne.symm (nq316 _ sf318).2) (Ne.symm (nq316 _ sf318).1) ne296 (nq316 _ sf317).1 (nq316 _ sf317).2 (by decide) (by decide) (by first | omega | (simp only [List.length_append, List.length_cons, List.length_nil]; omega) | simp)) hZ (W_ 128 rfl) (W_ 108 rfl) (by decide) (by decide)) q348a q348c (g := (mkF m 21 #[rv a, .unset] [(.ref a316), (.ref b255)])) rfl (by rw [hml]; rfl) (Steps.refl _) (argsL := [(.ref a316)]) (rest := []) (lenOf pd__28Ljava_2flang_2fString_3b_29Ljava_2flang_2fStringBuilder_3b rfl) rfl (by show 2 * 0 + _ ≤ _; exact Nat.le_of_eq rfl) (hb hby d12_21) (fun _ _ => ⟨rfl, e316, (by decide : 6 + 0 ≤ _), (by decide : 36 + 0 ≤ _)⟩)
    dsimp only [Pt.U, Pt.locs, Pt.cells, Pt.slots] at X348 l348 y348 z348 st348 hQ348
    subst l348 y348 z348
    obtain ⟨rfl, Nq348, P349, P350, P351, P352, P353, P354⟩ := hQ348
    have N348 := Fr.app N281 Nq348
    have hkS := Nat.le_trans hkS P349.1
    have sf355 := Safe.keep P349 (sfS sf317 (sfS sf318 sf0)) hH sf317
    have sf356 := Safe.keep P349 (sfS sf317 (sfS sf318 sf0)) hH sf318
    have hR := hR.trans (CHr.keep P349 (sfS sf317 (sfS sf318 sf0)) hH)
    have hH := CHv.keep P349 (sfS sf317 (sfS sf318 sf0)) hH
    have F357 := F319.keep P349
    have F358 := F320.keep P349 (ninS ne256 (ninS ne291 nin0))
    have F359 := F321.keep P349 (ninS ne256 (ninS ne291 nin0))
    have F360 := F322.keep P349
    have F361 := F323.keep P349 (ninS ne257 (ninS ne292 nin0))
    have F362 := F324.keep P349 (ninS ne257 (ninS ne292 nin0))
    have F363 := F325.keep P349 (ninS ne258 (ninS ne293 nin0))
    have F364 := F326.keep P349
    have F365 := F327.keep P349 (ninS ne259 (ninS ne294 nin0))
    have F366 := F328.keep P349 (ninS ne259 (ninS ne294 nin0))
    have F367 := F329.keep P349 (ninS ne260 (ninS ne295 nin0))
    have F368 := F330.keep P349
    have F369 := Es316.keep P349
    have F370 := Fc316.keep P349 (ninS (Ne.symm (nq316 _ sf317).1) (ninS (Ne.symm (nq316 _ sf318).1) nin0))
    have F371 := Fv316.keep P349 (ninS (Ne.symm (nq316 _ sf317).1) (ninS (Ne.symm (nq316 _ sf318).1) nin0))
    have F372 := Av316.keep P349 (ninS (Ne.symm (nq316 _ sf317).2) (ninS (Ne.symm (nq316 _ sf318).2) nin0))
    have O373 := O335.keep P349 (allS g261 (allS g297 all0))
    have K374 := K336.trans P349 (allS (Or.inr z262) (allS (Or.inr z298) all0))
    have hn347 : ((0 : Int32) + (1 : Int32)).toInt = ((([] : List Int32) ++ [(91 : Int32)]).length : Int) := own_cnt (by decide) (by decide) (by first | omega | (simp only [List.length_append, List.length_cons, List.length_nil]; omega) | simp)
    refine own_GH.st (T' := T348) 24 [(.ref b255)] (fun _ kq => st348.trans kq) ?_
    refine own_GH.sk 25 [(.ref a), (.ref b255)] (fun _ kq => XS.aloadN X348.here hx rfl (hb hby d12_24) rfl rfl kq) ?_
    obtain ⟨T375, X375, e375, st375⟩ := getF X348 hx hZ hown (host := "") (Or.inl (W_ 60 rfl)) Via.refl rfl F358 (g := (mkF m 25 #[rv a, .unset] [(.ref a), (.ref b255)])) rfl rfl (hb hby d12_25)
    refine own_GH.st (T' := T375) 28 [(.ref sr), (.ref b255)] st375 ?_
    obtain ⟨cq377, kq377, q377a, q377b, q377c⟩ := isOf hZ e375 P350
    obtain ⟨_, _, ⟨T377, L377, k377, n377⟩, -, X377, ⟨Lc377, hQ377, l377, y377, z377⟩, st377⟩ := X375.virtualBack hx (y := own_y25) (z := own_y25) hown (mvT hZ (W_ 124 rfl)) (mvT hZ (W_ 125 rfl)) (notFace_of_selects (args := #[]) (mvT hZ (W_ 127 rfl))) (mvT hZ (W_ 127 rfl)) (mvT hZ (W_ 126 rfl)) (by decide) (backOf (W := 0) (rm_sbapS l Z a0 hw [] b255 sr csz ((0 : Int32) + (1 : Int32)) b282 x283 (([] : List Int32) ++ [(91 : Int32)]) u ku mm ys T348.heap n0 O373 S_CS hcs P350 P351 P352 P353 P354 F360 F361 F362 F363 g261 g297 ne293 ne292 ne296 (Ne.symm ne257) (Ne.symm ne258) hn347 hll.1 (by first | omega | (simp only [List.length_append, List.length_cons, List.length_nil]; omega) | simp)) hZ (W_ 128 rfl) (W_ 108 rfl) (by decide) (by decide)) q377a q377c (g := (mkF m 28 #[rv a, .unset] [(.ref sr), (.ref b255)])) rfl (by rw [hml]; rfl) (Steps.refl _) (argsL := [(.ref sr)]) (rest := []) (lenOf pd__28Ljava_2flang_2fString_3b_29Ljava_2flang_2fStringBuilder_3b rfl) rfl (by show 2 * 0 + _ ≤ _; exact Nat.le_of_eq rfl) (hb hby d12_28) (fun _ _ => ⟨rfl, e375, (by decide : 6 + 0 ≤ _), (by decide : 36 + 0 ≤ _)⟩)
    dsimp only [Pt.U, Pt.locs, Pt.cells, Pt.slots] at X377 l377 y377 z377 st377 hQ377
    subst l377 y377 z377
    obtain ⟨rfl, Nq377, P378, P379, P380, P381, P382, P383⟩ := hQ377
    have N377 := Fr.app N348 Nq377
    have hkS := Nat.le_trans hkS P378.1
    have sf384 := Safe.keep P378 (sfS sf355 (sfS sf356 sf0)) hH sf355
    have sf385 := Safe.keep P378 (sfS sf355 (sfS sf356 sf0)) hH sf356
    have hR := hR.trans (CHr.keep P378 (sfS sf355 (sfS sf356 sf0)) hH)
    have hH := CHv.keep P378 (sfS sf355 (sfS sf356 sf0)) hH
    have F386 := F357.keep P378
    have F387 := F358.keep P378 (ninS ne256 (ninS ne291 nin0))
    have F388 := F359.keep P378 (ninS ne256 (ninS ne291 nin0))
    have F389 := F360.keep P378
    have F390 := F361.keep P378 (ninS ne257 (ninS ne292 nin0))
    have F391 := F362.keep P378 (ninS ne257 (ninS ne292 nin0))
    have F392 := F363.keep P378 (ninS ne258 (ninS ne293 nin0))
    have F393 := F364.keep P378
    have F394 := F365.keep P378 (ninS ne259 (ninS ne294 nin0))
    have F395 := F366.keep P378 (ninS ne259 (ninS ne294 nin0))
    have F396 := F367.keep P378 (ninS ne260 (ninS ne295 nin0))
    have F397 := P350.keep P378
    have F398 := F369.keep P378
    have F399 := F370.keep P378 (ninS (Ne.symm (nq316 _ sf317).1) (ninS (Ne.symm (nq316 _ sf318).1) nin0))
    have F400 := F371.keep P378 (ninS (Ne.symm (nq316 _ sf317).1) (ninS (Ne.symm (nq316 _ sf318).1) nin0))
    have F401 := F372.keep P378 (ninS (Ne.symm (nq316 _ sf317).2) (ninS (Ne.symm (nq316 _ sf318).2) nin0))
    have O402 := O373.keep P378 (allS g261 (allS g297 all0))
    have K403 := K374.trans P378 (allS (Or.inr z262) (allS (Or.inr z298) all0))
    have hn376 : (((0 : Int32) + (1 : Int32)) + mm).toInt = (((([] : List Int32) ++ [(91 : Int32)]) ++ ys).length : Int) := own_cnt hn347 hll.1 (by first | omega | (simp only [List.length_append, List.length_cons, List.length_nil]; omega) | simp)
    refine own_GH.st (T' := T377) 31 [(.ref b255)] (fun _ kq => st377.trans kq) ?_
    obtain ⟨a404, T404, h404, k404, b404, kb404, X404, e404, E404, hS, hkS, hZ, hown, Es404, Fc404, Fv404, Av404, lta404, ltb404, ch404, Li404, nq404, st404⟩ := ldcCH (vm0 := T316.vm) X377 hx hZ hown (W_ 251 rfl) own_wS rfl hS hkS ew (by decide) hH (vs := [(.int 93), (.int 58)]) (z := (2 : Int32)) (by decide +kernel) (by decide) (by decide) (g := (mkF m 31 #[rv a, .unset] [(.ref b255)])) rfl (hb hby d12_31) (n := 8) (by decide +kernel) (by decide) (by decide) (by decide)
    have sf405 := ch404.safe P379.lt sf384
    have sf406 := ch404.safe P383.lt sf385
    have hR := hR.trans ch404
    have hH := ch404.1
    have F407 := F386.ext E404
    have F408 := F387.ext E404
    have F409 := F388.ext E404
    have F410 := F389.ext E404
    have F411 := F390.ext E404
    have F412 := F391.ext E404
    have F413 := F392.ext E404
    have F414 := F393.ext E404
    have F415 := F394.ext E404
    have F416 := F395.ext E404
    have F417 := F396.ext E404
    have F418 := P379.ext E404
    have F419 := F398.ext E404
    have F420 := F399.ext E404
    have F421 := F400.ext E404
    have F422 := F401.ext E404
    have F423 := P380.ext E404
    have F424 := P381.ext E404
    have F425 := P382.ext E404
    have F426 := P383.ext E404
    have O427 := O402.ext E404
    have K428 := K403.ext E404
    have ne429 : a ≠ a404 := (nq404 _ (Safe.exa hZ.alike F407 (by decide) (by decide))).1
    have ne430 : a ≠ b404 := (nq404 _ (Safe.exa hZ.alike F407 (by decide) (by decide))).2
    refine own_GH.st (T' := T404) 33 [(.ref a404), (.ref b255)] st404 ?_
    obtain ⟨cq444, kq444, q444a, q444b, q444c⟩ := isOf hZ e404 F418
    obtain ⟨_, _, ⟨T444, L444, k444, n444⟩, -, X444, ⟨Lc444, hQ444, l444, y444, z444⟩, st444⟩ := X404.virtualBack hx (y := own_y25) (z := own_y25) hown (mvT hZ (W_ 124 rfl)) (mvT hZ (W_ 125 rfl)) (notFace_of_selects (args := #[]) (mvT hZ (W_ 127 rfl))) (mvT hZ (W_ 127 rfl)) (mvT hZ (W_ 126 rfl)) (by decide) (backOf (W := 0) (rm_sbapS l Z a0 hw [] b255 a404 csz (((0 : Int32) + (1 : Int32)) + mm) b282 x283 ((([] : List Int32) ++ [(91 : Int32)]) ++ ys) b404 kb404 (2 : Int32) ([(93 : Int32), (58 : Int32)]) h404 n0 O427 S_CS hcs F418 F423 F424 F425 F426 Es404 Fv404 Fc404 Av404 g261 g297 (Ne.symm (nq404 _ sf406).2) (Ne.symm (nq404 _ sf406).1) ne296 (nq404 _ sf405).1 (nq404 _ sf405).2 hn376 (by decide) (by first | omega | (simp only [List.length_append, List.length_cons, List.length_nil]; omega) | simp)) hZ (W_ 128 rfl) (W_ 108 rfl) (by decide) (by decide)) q444a q444c (g := (mkF m 33 #[rv a, .unset] [(.ref a404), (.ref b255)])) rfl (by rw [hml]; rfl) (Steps.refl _) (argsL := [(.ref a404)]) (rest := []) (lenOf pd__28Ljava_2flang_2fString_3b_29Ljava_2flang_2fStringBuilder_3b rfl) rfl (by show 2 * 0 + _ ≤ _; exact Nat.le_of_eq rfl) (hb hby d12_33) (fun _ _ => ⟨rfl, e404, (by decide : 8 + 0 ≤ _), (by decide : 48 + 0 ≤ _)⟩)
    dsimp only [Pt.U, Pt.locs, Pt.cells, Pt.slots] at X444 l444 y444 z444 st444 hQ444
    subst l444 y444 z444
    obtain ⟨rfl, Nq444, P445, P446, P447, P448, P449, P450⟩ := hQ444
    have N444 := Fr.app N377 Nq444
    have hkS := Nat.le_trans hkS P445.1
    have sf451 := Safe.keep P445 (sfS sf405 (sfS sf406 sf0)) hH sf405
    have sf452 := Safe.keep P445 (sfS sf405 (sfS sf406 sf0)) hH sf406
    have hR := hR.trans (CHr.keep P445 (sfS sf405 (sfS sf406 sf0)) hH)
    have hH := CHv.keep P445 (sfS sf405 (sfS sf406 sf0)) hH
    have F453 := F407.keep P445
    have F454 := F408.keep P445 (ninS ne256 (ninS ne291 nin0))
    have F455 := F409.keep P445 (ninS ne256 (ninS ne291 nin0))
    have F456 := F410.keep P445
    have F457 := F411.keep P445 (ninS ne257 (ninS ne292 nin0))
    have F458 := F412.keep P445 (ninS ne257 (ninS ne292 nin0))
    have F459 := F413.keep P445 (ninS ne258 (ninS ne293 nin0))
    have F460 := F414.keep P445
    have F461 := F415.keep P445 (ninS ne259 (ninS ne294 nin0))
    have F462 := F416.keep P445 (ninS ne259 (ninS ne294 nin0))
    have F463 := F417.keep P445 (ninS ne260 (ninS ne295 nin0))
    have F464 := F418.keep P445
    have F465 := F419.keep P445
    have F466 := F420.keep P445 (ninS (Ne.symm (nq316 _ sf317).1) (ninS (Ne.symm (nq316 _ sf318).1) nin0))
    have F467 := F421.keep P445 (ninS (Ne.symm (nq316 _ sf317).1) (ninS (Ne.symm (nq316 _ sf318).1) nin0))
    have F468 := F422.keep P445 (ninS (Ne.symm (nq316 _ sf317).2) (ninS (Ne.symm (nq316 _ sf318).2) nin0))
    have F469 := Es404.keep P445
    have F470 := Fc404.keep P445 (ninS (Ne.symm (nq404 _ sf405).1) (ninS (Ne.symm (nq404 _ sf406).1) nin0))
    have F471 := Fv404.keep P445 (ninS (Ne.symm (nq404 _ sf405).1) (ninS (Ne.symm (nq404 _ sf406).1) nin0))
    have F472 := Av404.keep P445 (ninS (Ne.symm (nq404 _ sf405).2) (ninS (Ne.symm (nq404 _ sf406).2) nin0))
    have O473 := O427.keep P445 (allS g261 (allS g297 all0))
    have K474 := K428.trans P445 (allS (Or.inr z262) (allS (Or.inr z298) all0))
    have hn443 : ((((0 : Int32) + (1 : Int32)) + mm) + (2 : Int32)).toInt = ((((([] : List Int32) ++ [(91 : Int32)]) ++ ys) ++ [(93 : Int32), (58 : Int32)]).length : Int) := own_cnt hn376 (by decide) (by first | omega | (simp only [List.length_append, List.length_cons, List.length_nil]; omega) | simp)
    refine own_GH.st (T' := T444) 36 [(.ref b255)] (fun _ kq => st444.trans kq) ?_
    refine own_GH.sk 37 [(.ref a), (.ref b255)] (fun _ kq => XS.aloadN X444.here hx rfl (hb hby d12_36) rfl rfl kq) ?_
    obtain ⟨T475, X475, e475, st475⟩ := getF X444 hx hZ hown (host := "") (Or.inl (W_ 62 rfl)) Via.refl rfl F455 (g := (mkF m 37 #[rv a, .unset] [(.ref a), (.ref b255)])) rfl rfl (hb hby d12_37)
    refine own_GH.st (T' := T475) 40 [(.int pp), (.ref b255)] st475 ?_
    obtain ⟨cq477, kq477, q477a, q477b, q477c⟩ := isOf hZ e475 P446
    obtain ⟨_, _, ⟨T477, L477, k477, n477⟩, -, X477, ⟨Lc477, hQ477, l477, y477, z477⟩, st477⟩ := X475.virtualBack hx (y := own_y27) (z := own_y27) hown (mvT hZ (W_ 166 rfl)) (mvT hZ (W_ 167 rfl)) (notFace_of_selects (args := #[]) (mvT hZ (W_ 169 rfl))) (mvT hZ (W_ 169 rfl)) (mvT hZ (W_ 168 rfl)) (by decide) (backOf (W := 0) (rm_sbapI l Z a0 hw [] b255 pp csz dga cga dgb cgb ((((0 : Int32) + (1 : Int32)) + mm) + (2 : Int32)) b282 x283 (((([] : List Int32) ++ [(91 : Int32)]) ++ ys) ++ [(93 : Int32), (58 : Int32)]) T444.heap n0 O473 S_CS hcs S_D1 TB1 S_D2 TB2 P446 P447 P448 P449 P450 g261 g297 ne296 hp0 hp1 hn443 (by first | omega | (simp only [List.length_append, List.length_cons, List.length_nil]; omega) | simp)) hZ (W_ 170 rfl) (W_ 108 rfl) (by decide) (by decide)) q477a q477c (g := (mkF m 40 #[rv a, .unset] [(.int pp), (.ref b255)])) rfl (by rw [hml]; rfl) (Steps.refl _) (argsL := [(.int pp)]) (rest := []) (lenOf pd__28I_29Ljava_2flang_2fStringBuilder_3b rfl) rfl (by show 2 * 0 + _ ≤ _; exact Nat.le_of_eq rfl) (hb hby d12_40) (fun _ _ => ⟨rfl, e475, (by decide : 8 + 0 ≤ _), (by decide : 48 + 0 ≤ _)⟩)
    dsimp only [Pt.U, Pt.locs, Pt.cells, Pt.slots] at X477 l477 y477 z477 st477 hQ477
    subst l477 y477 z477
    obtain ⟨rfl, Nq477, P478, P479, P480, P481, P482, P483⟩ := hQ477
    have N477 := Fr.app N444 Nq477
    have hkS := Nat.le_trans hkS P478.1
    have sf484 := Safe.keep P478 (sfS sf451 (sfS sf452 sf0)) hH sf451
    have sf485 := Safe.keep P478 (sfS sf451 (sfS sf452 sf0)) hH sf452
    have hR := hR.trans (CHr.keep P478 (sfS sf451 (sfS sf452 sf0)) hH)
    have hH := CHv.keep P478 (sfS sf451 (sfS sf452 sf0)) hH
    have F486 := F453.keep P478
    have F487 := F454.keep P478 (ninS ne256 (ninS ne291 nin0))
    have F488 := F455.keep P478 (ninS ne256 (ninS ne291 nin0))
    have F489 := F456.keep P478
    have F490 := F457.keep P478 (ninS ne257 (ninS ne292 nin0))
    have F491 := F458.keep P478 (ninS ne257 (ninS ne292 nin0))
    have F492 := F459.keep P478 (ninS ne258 (ninS ne293 nin0))
    have F493 := F460.keep P478
    have F494 := F461.keep P478 (ninS ne259 (ninS ne294 nin0))
    have F495 := F462.keep P478 (ninS ne259 (ninS ne294 nin0))
    have F496 := F463.keep P478 (ninS ne260 (ninS ne295 nin0))
    have F497 := P446.keep P478
    have F498 := F465.keep P478
    have F499 := F466.keep P478 (ninS (Ne.symm (nq316 _ sf317).1) (ninS (Ne.symm (nq316 _ sf318).1) nin0))
    have F500 := F467.keep P478 (ninS (Ne.symm (nq316 _ sf317).1) (ninS (Ne.symm (nq316 _ sf318).1) nin0))
    have F501 := F468.keep P478 (ninS (Ne.symm (nq316 _ sf317).2) (ninS (Ne.symm (nq316 _ sf318).2) nin0))
    have F502 := F469.keep P478
    have F503 := F470.keep P478 (ninS (Ne.symm (nq404 _ sf405).1) (ninS (Ne.symm (nq404 _ sf406).1) nin0))
    have F504 := F471.keep P478 (ninS (Ne.symm (nq404 _ sf405).1) (ninS (Ne.symm (nq404 _ sf406).1) nin0))
    have F505 := F472.keep P478 (ninS (Ne.symm (nq404 _ sf405).2) (ninS (Ne.symm (nq404 _ sf406).2) nin0))
    have O506 := O473.keep P478 (allS g261 (allS g297 all0))
    have K507 := K474.trans P478 (allS (Or.inr z262) (allS (Or.inr z298) all0))
    have hn476 : (((((0 : Int32) + (1 : Int32)) + mm) + (2 : Int32)) + (own_ss pp)).toInt = (((((([] : List Int32) ++ [(91 : Int32)]) ++ ys) ++ [(93 : Int32), (58 : Int32)]) ++ own_dig pp).length : Int) := own_cnt hn443 (own_dlen pp).2.2.2.2.2.2 (by first | omega | (simp only [List.length_append, List.length_cons, List.length_nil]; omega) | simp)
    refine own_GH.st (T' := T477) 43 [(.ref b255)] (fun _ kq => st477.trans kq) ?_
    obtain ⟨cq508, kq508, q508a, q508b, q508c⟩ := isOf hZ rfl P479
    obtain ⟨_, _, ⟨T508, L508, k508, n508⟩, -, X508, ⟨Lc508, hQ508, l508, y508, z508⟩, st508⟩ := X477.virtualBack hx (y := own_y32) (z := own_y32) hown (mvT hZ (W_ 188 rfl)) (mvT hZ (W_ 189 rfl)) (notFace_of_selects (args := #[]) (mvT hZ (W_ 191 rfl))) (mvT hZ (W_ 191 rfl)) (mvT hZ (W_ 190 rfl)) (by decide) (backOf (W := 0) (rm_sbstr l Z a0 hw [] b255 csz b282 (((((0 : Int32) + (1 : Int32)) + mm) + (2 : Int32)) + (own_ss pp)) x283 ((((([] : List Int32) ++ [(91 : Int32)]) ++ ys) ++ [(93 : Int32), (58 : Int32)]) ++ own_dig pp) T477.heap n0 O506 S_CS hcs P479 P480 P481 P482 P483 hn476 (by first | omega | (simp only [List.length_append, List.length_cons, List.length_nil]; omega) | simp)) hZ (W_ 192 rfl) (W_ 108 rfl) (by decide) (by decide)) q508a q508c (g := (mkF m 43 #[rv a, .unset] [(.ref b255)])) rfl (by rw [hml]; rfl) (Steps.refl _) (argsL := []) (rest := []) (lenOf pd__28_29Ljava_2flang_2fString_3b rfl) rfl (by show 2 * 0 + _ ≤ _; exact Nat.le_of_eq rfl) (hb hby d12_43) (fun _ _ => ⟨rfl, rfl, (by decide : 8 + 2 ≤ _), (by decide : 48 + 20 ≤ _)⟩)
    dsimp only [Pt.U, Pt.locs, Pt.cells, Pt.slots] at X508 l508 y508 z508 st508 hQ508
    subst l508 y508 z508
    obtain ⟨b509, b510, x511, rfl, Nq508, P512, P513, P514, P515, P516, P517, P518⟩ := hQ508
    have N508 := Fr.app N477 Nq508
    have ne519 : a ≠ b509 := Nat.ne_of_lt (Nat.lt_of_lt_of_le F486.lt P513)
    have ne520 : sr ≠ b509 := Nat.ne_of_lt (Nat.lt_of_lt_of_le F489.lt P513)
    have ne521 : u ≠ b509 := Nat.ne_of_lt (Nat.lt_of_lt_of_le F492.lt P513)
    have ne522 : a2 ≠ b509 := Nat.ne_of_lt (Nat.lt_of_lt_of_le F493.lt P513)
    have ne523 : b2 ≠ b509 := Nat.ne_of_lt (Nat.lt_of_lt_of_le F496.lt P513)
    have ne524 : b255 ≠ b509 := Nat.ne_of_lt (Nat.lt_of_lt_of_le P479.lt P513)
    have ne525 : a316 ≠ b509 := Nat.ne_of_lt (Nat.lt_of_lt_of_le F498.lt P513)
    have ne526 : b316 ≠ b509 := Nat.ne_of_lt (Nat.lt_of_lt_of_le F501.lt P513)
    have ne527 : a404 ≠ b509 := Nat.ne_of_lt (Nat.lt_of_lt_of_le F502.lt P513)
    have ne528 : b404 ≠ b509 := Nat.ne_of_lt (Nat.lt_of_lt_of_le F505.lt P513)
    have ne529 : b282 ≠ b509 := Nat.ne_of_lt (Nat.lt_of_lt_of_le P483.lt P513)
    have g530 : n0 ≤ b509 := Nat.le_trans O506.le P513
    have z531 : h0.size ≤ b509 := Nat.le_trans K507.1 P513
    have sf532 : Safe Z own_EL T404.vm T477.heap b509 := Safe.new P513
    have ne533 : a ≠ b510 := Nat.ne_of_lt (Nat.lt_of_lt_of_le F486.lt P514)
    have ne534 : sr ≠ b510 := Nat.ne_of_lt (Nat.lt_of_lt_of_le F489.lt P514)
    have ne535 : u ≠ b510 := Nat.ne_of_lt (Nat.lt_of_lt_of_le F492.lt P514)
    have ne536 : a2 ≠ b510 := Nat.ne_of_lt (Nat.lt_of_lt_of_le F493.lt P514)
    have ne537 : b2 ≠ b510 := Nat.ne_of_lt (Nat.lt_of_lt_of_le F496.lt P514)
    have ne538 : b255 ≠ b510 := Nat.ne_of_lt (Nat.lt_of_lt_of_le P479.lt P514)
    have ne539 : a316 ≠ b510 := Nat.ne_of_lt (Nat.lt_of_lt_of_le F498.lt P514)
    have ne540 : b316 ≠ b510 := Nat.ne_of_lt (Nat.lt_of_lt_of_le F501.lt P514)
    have ne541 : a404 ≠ b510 := Nat.ne_of_lt (Nat.lt_of_lt_of_le F502.lt P514)
    have ne542 : b404 ≠ b510 := Nat.ne_of_lt (Nat.lt_of_lt_of_le F505.lt P514)
    have ne543 : b282 ≠ b510 := Nat.ne_of_lt (Nat.lt_of_lt_of_le P483.lt P514)
    have g544 : n0 ≤ b510 := Nat.le_trans O506.le P514
    have z545 : h0.size ≤ b510 := Nat.le_trans K507.1 P514
    have sf546 : Safe Z own_EL T404.vm T477.heap b510 := Safe.new P514
    have hkS := Nat.le_trans hkS P512.1
    have sf547 := Safe.keep P512 sf0 hH sf484
    have sf548 := Safe.keep P512 sf0 hH sf485
    have sf549 := Safe.keep P512 sf0 hH sf532
    have sf550 := Safe.keep P512 sf0 hH sf546
    have hR := hR.trans (CHr.keep P512 sf0 hH)
    have hH := CHv.keep P512 sf0 hH
    have F551 := F486.keep P512
    have F552 := F487.keep P512 nin0
    have F553 := F488.keep P512 nin0
    have F554 := F489.keep P512
    have F555 := F490.keep P512 nin0
    have F556 := F491.keep P512 nin0
    have F557 := F492.keep P512 nin0
    have F558 := F493.keep P512
    have F559 := F494.keep P512 nin0
    have F560 := F495.keep P512 nin0
    have F561 := F496.keep P512 nin0
    have F562 := P479.keep P512
    have F563 := F498.keep P512
    have F564 := F499.keep P512 nin0
    have F565 := F500.keep P512 nin0
    have F566 := F501.keep P512 nin0
    have F567 := F502.keep P512
    have F568 := F503.keep P512 nin0
    have F569 := F504.keep P512 nin0
    have F570 := F505.keep P512 nin0
    have F571 := P480.keep P512 nin0
    have F572 := P481.keep P512 nin0
    have F573 := P482.keep P512 nin0
    have F574 := P483.keep P512 nin0
    have O575 := O506.keep P512 all0
    have K576 := K507.trans P512 all0
    refine own_GH.st (T' := T508) 46 [(.ref b509)] (fun _ kq => st508.trans kq) ?_
    refine own_GH.si 47 [] (fun _ kq => XS.astoreN X508.here hx rfl (hb hby d12_46) rfl rfl (l' := #[rv a, rv b509]) rfl kq) ?_
    refine own_GH.sk 80 [] (fun _ kq => XS.goto X508.here hx rfl (pc0 := 47) (pc' := 80) rfl (hb hby d12_47) (by decide) (by decide) kq) ?_
    refine own_GH.sk 81 [(.ref b509)] (fun _ kq => XS.aloadN X508.here hx rfl (hb hby d12_80) rfl rfl kq) ?_
    exact own_retH X508 hS rfl hkS hZ ew hH hh hR (v := some (.ref b509)) (fun h => by rw [Bd.returns] at h; cases h) Bd.notSynchronized ⟨b509, b510, x511, (((((0 : Int32) + (1 : Int32)) + mm) + (2 : Int32)) + (own_ss pp)), rfl, N508, K576, z531, z545, P515, P516, P517, (by rw [own_pre1 (own_has_f hc9)]; exact P518), (by rw [own_pre1 (own_has_f hc9)]; exact hn476)⟩ (by decide) (by decide) (fun fs hr => own_retR X508 hx Bd.returns rfl rfl (hb hby d12_81) hr)
theorem d1_0 : decode method_2_code 0 = .ok (.iload_n 0, 1) := by decide +kernel
theorem d1_1 : decode method_2_code 1 = .ok (.sipush 256, 3) := by decide +kernel
theorem d1_4 : decode method_2_code 4 = .ok (.iand, 1) := by decide +kernel
theorem d1_5 : decode method_2_code 5 = .ok (.ifCond .eq 6, 3) := by decide +kernel
theorem d1_8 : decode method_2_code 8 = .ok (.bipush 58, 2) := by decide +kernel
theorem d1_10 : decode method_2_code 10 = .ok (.ireturn, 1) := by decide +kernel
theorem d1_11 : decode method_2_code 11 = .ok (.iload_n 0, 1) := by decide +kernel
theorem d1_12 : decode method_2_code 12 = .ok (.sipush 255, 3) := by decide +kernel
theorem d1_15 : decode method_2_code 15 = .ok (.iand, 1) := by decide +kernel
theorem d1_16 : decode method_2_code 16 = .ok (.i2c, 1) := by decide +kernel
theorem d1_17 : decode method_2_code 17 = .ok (.ireturn, 1) := by decide +kernel
theorem pn_com_2fexample_2fredelivery_2fredelivery_2fsettings_2fListenAddressToStringPinLaw : plainName "com/example/redelivery/redelivery/settings/ListenAddressToStringPinLaw" = true := by first | (simp [plainName, overriddenIn]; done) | decide +kernel
theorem ef_ch (m : MethodId) (x : Int32) : entryFrame m #[(.int x)] 1 = mkF m 0 #[iv x] [] := by
  first | (simp [entryFrame, mkF, argsToLocals, Value.category]; done) | rfl
def Q_ch (Z : State) (x : Int32) (h0 : Heap) (n0 : Nat) (v : Option Value) (h : Heap) (L : List Loc) : Prop := ∃ (rr : Int32), v = some (.int rr) ∧ Fr n0 L ∧ h = h0 ∧ (¬ rr < (0 : Int32) ∧ ¬ (255 : Int32) < rr)
set_option maxRecDepth 65536 in
set_option maxHeartbeats 40000000 in
theorem rm_ch (l : Launch) (Z : State) (a0 : Array Value) (hw : ∀ d ∈ tables_1, d.before a0 Z = true) (ws : List Jvm.Cond) (x : Int32) (h0 : Heap) (n0 : Nat) (O0 : Old Z n0 h0) :
    MetFree l own_y41 (head1 (Jvm.Cond.code own_y41 method_2_code 1 (some .char) :: ws) ({ frames := 0, cells := 0, slots := 0, locals := 0 } : Room)) (fun aq_ Uq_ => aq_ = #[(.int x)] ∧ Z.Warmed39 Uq_.vm ∧ Uq_.heap = h0) (fun _ _ _ _ _ => True) (fun _ Uq_ oq_ Ur_ => ∃ vq_ Lq_, oq_ = .returned vq_ ∧ Q_ch Z x h0 n0 vq_ Ur_.heap Lq_ ∧ FrameEnd Uq_ oq_ Ur_ Lq_ ({ frames := 0, cells := 0, slots := 0, locals := 0 } : Room).cells ({ frames := 0, cells := 0, slots := 0, locals := 0 } : Room).slots) := by
  refine MetFree.of_bodySF (plainFor_of_name pn_com_2fexample_2fredelivery_2fredelivery_2fsettings_2fListenAddressToStringPinLaw) hisR ?_
  intro p e s m args below meth c s₁ Bd hml0 hP hK
  obtain ⟨rfl, hZ, hh⟩ := hP
  have W_ : ∀ {d : Jvm.Cond} (i : Nat), tables_1[i]? = some d → d.before a0 Z = true := fun i h => hw _ (List.mem_of_getElem? h)
  have hx := Bd.exec
  have hby := Bd.bytes
  have hml : c.maxLocals = 1 := hml0
  have hown : s.vm.findClass "com/example/redelivery/redelivery/settings/ListenAddressToStringPinLaw" = some m.cls := findClass_of_methodNamed Bd.named
  have hnm := (name_of_methodNamed Bd.named Bd.method).1
  have X0 : Stand p l e ({ frames := 0, cells := 0, slots := 0, locals := 0 } : Room) s m #[(.int x)] below meth c s₁ [] 0 0 := Stand.of_body Bd
  have e0 : s₁.heap = h0 := by rw [← hh, Bd.state]; rfl
  have N0 := Fr.nil n0
  have K0 := Keep.refl h0 []
  refine own_G.start (Q := Q_ch Z x h0 n0) (ef_ch m x) ?_
  refine own_G.sk 1 [(.int x)] (fun _ kq => XS.iloadN X0.here hx rfl (hb hby d1_0) rfl kq) ?_
  refine own_G.sk 4 [(.int 256), (.int x)] (fun _ kq => XS.sipush X0.here hx rfl (hb hby d1_1) kq) ?_
  refine own_G.sk 5 [(.int (x &&& (256 : Int32)))] (fun _ kq => XS.iand X0.here hx rfl (hb hby d1_4) rfl kq) ?_
  rcases Classical.em ((x &&& (256 : Int32)) = (0 : Int32)) with hc5 | hc5
  · refine own_G.sk 11 [] (fun _ kq => XS.ifYes X0.here hx rfl (pc0 := 5) (pc' := 11) rfl (hb hby d1_5) rfl ((if0 _ _).trans (teq hc5).1) (by decide) (by decide) kq) ?_
    refine own_G.sk 12 [(.int x)] (fun _ kq => XS.iloadN X0.here hx rfl (hb hby d1_11) rfl kq) ?_
    refine own_G.sk 15 [(.int 255), (.int x)] (fun _ kq => XS.sipush X0.here hx rfl (hb hby d1_12) kq) ?_
    refine own_G.sk 16 [(.int (x &&& (255 : Int32)))] (fun _ kq => XS.iand X0.here hx rfl (hb hby d1_15) rfl kq) ?_
    refine own_G.sk 17 [(.int ((x &&& (255 : Int32)).toUInt32.toUInt16.toUInt32.toInt32))] (fun _ kq => XS.i2c X0.here hx rfl (hb hby d1_16) rfl kq) ?_
    exact own_ret X0 e0 (v := some (.int (nar .char ((x &&& (255 : Int32)).toUInt32.toUInt16.toUInt32.toInt32)))) (fun h => by rw [Bd.returns] at h; cases h) Bd.notSynchronized ⟨(nar .char ((x &&& (255 : Int32)).toUInt32.toUInt16.toUInt32.toInt32)), rfl, N0, rfl, (own_ch255 x)⟩ (by decide) (by decide) (fun fs hr => retN X0 hx (t := .char) Bd.returns (by simp) (hb hby d1_17) hr)
  · refine own_G.sk 8 [] (fun _ kq => XS.ifNo X0.here hx rfl (hb hby d1_5) rfl ((if0 _ _).trans (feq hc5).1) kq) ?_
    refine own_G.sk 10 [(.int 58)] (fun _ kq => XS.bipush X0.here hx rfl (hb hby d1_8) kq) ?_
    exact own_ret X0 e0 (v := some (.int (nar .char (58 : Int32)))) (fun h => by rw [Bd.returns] at h; cases h) Bd.notSynchronized ⟨(nar .char (58 : Int32)), rfl, N0, rfl, ⟨by decide, by decide⟩⟩ (by decide) (by decide) (fun fs hr => retN X0 hx (t := .char) Bd.returns (by simp) (hb hby d1_10) hr)
theorem pd__28I_29C : parseMethodDescriptor "(I)C" = some ⟨[.int], some .char⟩ := by decide +kernel
theorem d44_0 : decode method_3_code 0 = .ok (.iload_n 3, 1) := by decide +kernel
theorem d44_1 : decode method_3_code 1 = .ok (.iload_n 2, 1) := by decide +kernel
theorem d44_2 : decode method_3_code 2 = .ok (.if_icmp .ge 14, 3) := by decide +kernel
theorem d44_5 : decode method_3_code 5 = .ok (.aload_n 0, 1) := by decide +kernel
theorem d44_6 : decode method_3_code 6 = .ok (.iload_n 3, 1) := by decide +kernel
theorem d44_7 : decode method_3_code 7 = .ok (.invokevirtual 7, 3) := by decide +kernel
theorem d44_10 : decode method_3_code 10 = .ok (.aload_n 1, 1) := by decide +kernel
theorem d44_11 : decode method_3_code 11 = .ok (.iload_n 3, 1) := by decide +kernel
theorem d44_12 : decode method_3_code 12 = .ok (.caload, 1) := by decide +kernel
theorem d44_13 : decode method_3_code 13 = .ok (.if_icmp .ne 7, 3) := by decide +kernel
theorem d44_16 : decode method_3_code 16 = .ok (.iconst 1, 1) := by decide +kernel
theorem d44_17 : decode method_3_code 17 = .ok (.goto 4, 3) := by decide +kernel
theorem d44_21 : decode method_3_code 21 = .ok (.ireturn, 1) := by decide +kernel
theorem ef_at (m : MethodId) (sr : Addr) (o : Addr) (kk : Int32) (i : Int32) : entryFrame m #[(.ref sr), (.ref o), (.int kk), (.int i)] 4 = mkF m 0 #[rv sr, rv o, iv kk, iv i] [] := by
  first | (simp [entryFrame, mkF, argsToLocals, Value.category]; done) | rfl
def Q_at (Z : State) (sr : Addr) (o : Addr) (kk : Int32) (i : Int32) (csz : Int32) (fm : Value) (u : Addr) (ku : ClassId) (ko : ClassId) (cs : List Int32) (h0 : Heap) (n0 : Nat) (v : Option Value) (h : Heap) (L : List Loc) : Prop := v = some (.int 1) ∧ Fr n0 L ∧ h = h0
set_option maxRecDepth 65536 in
set_option maxHeartbeats 40000000 in
theorem rm_at (l : Launch) (Z : State) (a0 : Array Value) (hw : ∀ d ∈ tables_1, d.before a0 Z = true) (ws : List Jvm.Cond) (sr : Addr) (o : Addr) (kk : Int32) (i : Int32) (csz : Int32) (fm : Value) (u : Addr) (ku : ClassId) (ko : ClassId) (cs : List Int32) (h0 : Heap) (n0 : Nat) (O0 : Old Z n0 h0) (S_CS : Sta Z Z.heap "java/lang/String" "COMPACT_STRINGS" "Z" (.int csz)) (hcs : ¬ csz = (0 : Int32)) (S_IO : Sta Z Z.heap "jdk/internal/util/Preconditions" "SIOOBE_FORMATTER" "Ljava/util/function/BiFunction;" fm) (hio : fm.isRef = true) (Es : Exa Z h0 sr "java/lang/String") (Sv : Fld Z h0 sr "java/lang/String" "value" "[B" (.ref u)) (Sc : Fld Z h0 sr "java/lang/String" "coder" "B" (.int 0)) (Ab : Arv Z h0 u ku .byte kk (own_B (cs.map own_by)) (.int 0)) (Ao : Arv Z h0 o ko .char (12 : Int32) (own_B cs) (.int 0)) (hk : kk.toInt = (cs.length : Int)) (hk12 : cs.length ≤ 12) (hcb : ∀ c ∈ cs, ¬ c < (0 : Int32) ∧ ¬ (255 : Int32) < c) (hi0 : ¬ i < (0 : Int32)) :
    MetFree l own_y42 (head1 (Jvm.Cond.code own_y42 method_3_code 4 (some .boolean) :: ws) ({ frames := 4, cells := 0, slots := 0, locals := 53 } : Room)) (fun aq_ Uq_ => aq_ = #[(.ref sr), (.ref o), (.int kk), (.int i)] ∧ Z.Warmed39 Uq_.vm ∧ Uq_.heap = h0) (fun _ _ _ _ _ => True) (fun _ Uq_ oq_ Ur_ => ∃ vq_ Lq_, oq_ = .returned vq_ ∧ Q_at Z sr o kk i csz fm u ku ko cs h0 n0 vq_ Ur_.heap Lq_ ∧ FrameEnd Uq_ oq_ Ur_ Lq_ ({ frames := 4, cells := 0, slots := 0, locals := 53 } : Room).cells ({ frames := 4, cells := 0, slots := 0, locals := 53 } : Room).slots) := by
  refine MetFree.of_bodySF (plainFor_of_name pn_com_2fexample_2fredelivery_2fredelivery_2fsettings_2fListenAddressToStringPinLaw) hisR ?_
  intro p e s m args below meth c s₁ Bd hml0 hP hK
  obtain ⟨rfl, hZ, hh⟩ := hP
  have W_ : ∀ {d : Jvm.Cond} (i : Nat), tables_1[i]? = some d → d.before a0 Z = true := fun i h => hw _ (List.mem_of_getElem? h)
  have hx := Bd.exec
  have hby := Bd.bytes
  have hml : c.maxLocals = 4 := hml0
  have hown : s.vm.findClass "com/example/redelivery/redelivery/settings/ListenAddressToStringPinLaw" = some m.cls := findClass_of_methodNamed Bd.named
  have hnm := (name_of_methodNamed Bd.named Bd.method).1
  have X0 : Stand p l e ({ frames := 4, cells := 0, slots := 0, locals := 53 } : Room) s m #[(.ref sr), (.ref o), (.int kk), (.int i)] below meth c s₁ [] 0 0 := Stand.of_body Bd
  have e0 : s₁.heap = h0 := by rw [← hh, Bd.state]; rfl
  have N0 := Fr.nil n0
  have K0 := Keep.refl h0 []
  refine own_G.start (Q := Q_at Z sr o kk i csz fm u ku ko cs h0 n0) (ef_at m sr o kk i) ?_
  refine own_G.sk 1 [(.int i)] (fun _ kq => XS.iloadN X0.here hx rfl (hb hby d44_0) rfl kq) ?_
  refine own_G.sk 2 [(.int kk), (.int i)] (fun _ kq => XS.iloadN X0.here hx rfl (hb hby d44_1) rfl kq) ?_
  rcases Classical.em (i < kk) with hc2 | hc2
  · refine own_G.sk 5 [] (fun _ kq => XS.icmpNo X0.here hx rfl (hb hby d44_2) rfl (tlt hc2).2.1 kq) ?_
    refine own_G.sk 6 [(.ref sr)] (fun _ kq => XS.aloadN X0.here hx rfl (hb hby d44_5) rfl rfl kq) ?_
    refine own_G.sk 7 [(.int i), (.ref sr)] (fun _ kq => XS.iloadN X0.here hx rfl (hb hby d44_6) rfl kq) ?_
    obtain ⟨cq1, kq1, q1a, q1b, q1c⟩ := isOf hZ e0 Es
    obtain ⟨_, _, ⟨T1, L1, k1, n1⟩, -, X1, ⟨Lc1, hQ1, l1, y1, z1⟩, st1⟩ := X0.virtualBack hx (y := own_y7) (z := own_y7) hown (mvT hZ (W_ 233 rfl)) (mvT hZ (W_ 234 rfl)) (notFace_of_selects (args := #[]) (mvT hZ (W_ 236 rfl))) (mvT hZ (W_ 236 rfl)) (mvT hZ (W_ 235 rfl)) (by decide) (backOf (W := 0) (rm_charAt l Z a0 hw [] sr i csz fm u kk ((cs.map own_by).getD i.toNatClampNeg 0) h0 n0 O0 S_CS hcs S_IO hio Es Sv Sc (own_Len.arv Ab) (own_At.arv Ab ⟨hi0, hc2⟩ (own_getD _ _)) hi0 hc2) hZ (W_ 237 rfl) (W_ 8 rfl) (by decide) (by decide)) q1a q1c (g := (mkF m 7 #[rv sr, rv o, iv kk, iv i] [(.int i), (.ref sr)])) rfl (by rw [hml]; rfl) (Steps.refl _) (argsL := [(.int i)]) (rest := []) (lenOf pd__28I_29C rfl) rfl (by show 2 * 0 + _ ≤ _; exact Nat.le_of_eq rfl) (hb hby d44_7) (fun _ _ => ⟨rfl, e0, (by decide : 0 + 0 ≤ _), (by decide : 0 + 0 ≤ _)⟩)
    dsimp only [Pt.U, Pt.locs, Pt.cells, Pt.slots] at X1 l1 y1 z1 st1 hQ1
    subst l1 y1 z1
    obtain ⟨rfl, Nq1, P2⟩ := hQ1
    have N1 := Fr.app N0 Nq1
    refine own_G.st (T' := T1) 10 [(.int (own_chr ((cs.map own_by).getD i.toNatClampNeg 0)))] (fun _ kq => st1.trans kq) ?_
    refine own_G.sk 11 [(.ref o), (.int (own_chr ((cs.map own_by).getD i.toNatClampNeg 0)))] (fun _ kq => XS.aloadN X1.here hx rfl (hb hby d44_10) rfl rfl kq) ?_
    refine own_G.sk 12 [(.int i), (.ref o), (.int (own_chr ((cs.map own_by).getD i.toNatClampNeg 0)))] (fun _ kq => XS.iloadN X1.here hx rfl (hb hby d44_11) rfl kq) ?_
    obtain ⟨cl3, Ar3, hin3, hat3⟩ := id (own_AtC.arv Ao (own_lt12 hi0 hc2 hk hk12) (own_getD cs _))
    refine own_G.sk 13 [(.int (cs.getD i.toNatClampNeg 0)), (.int (own_chr ((cs.map own_by).getD i.toNatClampNeg 0)))] (fun _ kq => X1.caload hx (j := i) (v := (.int (cs.getD i.toNatClampNeg 0))) (by rw [P2]; exact Ar3.1) (State.isArrayOf_alike hZ.alike Ar3.2.1) Ar3.2.2 hin3 hat3 (g := (mkF m 12 #[rv sr, rv o, iv kk, iv i] [(.int i), (.ref o), (.int (own_chr ((cs.map own_by).getD i.toNatClampNeg 0)))])) rfl rfl (hb hby d44_12) _ kq) ?_
    have hc13 : (own_chr ((cs.map own_by).getD i.toNatClampNeg 0)) = (cs.getD i.toNatClampNeg 0) := (own_at_b hcb _)
    refine own_G.sk 16 [] (fun _ kq => XS.icmpNo X1.here hx rfl (hb hby d44_13) rfl (teq hc13).2 kq) ?_
    refine own_G.sk 17 [(.int 1)] (fun _ kq => XS.iconst X1.here hx rfl (hb hby d44_16) kq) ?_
    refine own_G.sk 21 [(.int 1)] (fun _ kq => XS.goto X1.here hx rfl (pc0 := 17) (pc' := 21) rfl (hb hby d44_17) (by decide) (by decide) kq) ?_
    exact own_ret X1 P2 (v := some (.int 1)) (fun h => by rw [Bd.returns] at h; cases h) Bd.notSynchronized ⟨rfl, N1, rfl⟩ (by decide) (by decide) (fun fs hr => retN X1 hx (t := .boolean) Bd.returns (by simp) (hb hby d44_21) hr)
  · refine own_G.sk 16 [] (fun _ kq => XS.icmpYes X0.here hx rfl (pc0 := 2) (pc' := 16) rfl (hb hby d44_2) rfl (flt hc2).2.1 (by decide) (by decide) kq) ?_
    refine own_G.sk 17 [(.int 1)] (fun _ kq => XS.iconst X0.here hx rfl (hb hby d44_16) kq) ?_
    refine own_G.sk 21 [(.int 1)] (fun _ kq => XS.goto X0.here hx rfl (pc0 := 17) (pc' := 21) rfl (hb hby d44_17) (by decide) (by decide) kq) ?_
    exact own_ret X0 e0 (v := some (.int 1)) (fun h => by rw [Bd.returns] at h; cases h) Bd.notSynchronized ⟨rfl, N0, rfl⟩ (by decide) (by decide) (fun fs hr => retN X0 hx (t := .boolean) Bd.returns (by simp) (hb hby d44_21) hr)
theorem own_f1 {cs ps : List Int32} {x d : Int32} (h : cs.map own_by = ps) (hx : own_by x = d) : (cs ++ [x]).map own_by = ps ++ [d] := by
  rw [List.map_append, h, List.map_cons, List.map_nil, hx]
theorem own_m58 {x : Int32} (h : ¬ x < (0 : Int32) ∧ ¬ (255 : Int32) < x) (q : x = (58 : Int32)) : own_by (nar .char x) = (58 : Int32) := (own_by58 h).mpr q
theorem own_lti {x k : Int32} {b : Int} (hk : k.toInt = b) : x < k ↔ x.toInt < b := by rw [Int32.lt_iff_toInt_lt, hk]
theorem own_e1 {n : Int32} (h0 : 0 ≤ n.toInt) (h1 : n.toInt ≤ 65535) : ((48 : Int32) + (n % (10 : Int32))).toInt = 48 + n.toInt % 10 := by
  have a := (c_irem n (10 : Int32) 10 (by decide)).1 h0
  have b := c_iadd (48 : Int32) (n % (10 : Int32))
  have r := rng32 ((48 : Int32) + (n % (10 : Int32)))
  have e : (48 : Int32).toInt = 48 := by decide
  omega
theorem own_e5 {n : Int32} (h0 : 0 ≤ n.toInt) (h1 : n.toInt ≤ 65535) : ((48 : Int32) + (n / (10000 : Int32))).toInt = 48 + n.toInt / 10000 := by
  have a := (c_idiv n (10000 : Int32) 10000 (by decide) (by decide)).1 h0
  have b := c_iadd (48 : Int32) (n / (10000 : Int32))
  have r := rng32 ((48 : Int32) + (n / (10000 : Int32)))
  have e : (48 : Int32).toInt = 48 := by decide
  omega
theorem own_e2 {n : Int32} (h0 : 0 ≤ n.toInt) (h1 : n.toInt ≤ 65535) : ((48 : Int32) + ((n / (10 : Int32)) % (10 : Int32))).toInt = 48 + n.toInt / 10 % 10 := by
  have a := (c_idiv n (10 : Int32) 10 (by decide) (by decide)).1 h0
  have a2 := (c_irem (n / (10 : Int32)) (10 : Int32) 10 (by decide)).1 (by omega)
  have b := c_iadd (48 : Int32) ((n / (10 : Int32)) % (10 : Int32))
  have r := rng32 ((48 : Int32) + ((n / (10 : Int32)) % (10 : Int32)))
  have e : (48 : Int32).toInt = 48 := by decide
  omega
theorem own_e3 {n : Int32} (h0 : 0 ≤ n.toInt) (h1 : n.toInt ≤ 65535) : ((48 : Int32) + ((n / (100 : Int32)) % (10 : Int32))).toInt = 48 + n.toInt / 100 % 10 := by
  have a := (c_idiv n (100 : Int32) 100 (by decide) (by decide)).1 h0
  have a2 := (c_irem (n / (100 : Int32)) (10 : Int32) 10 (by decide)).1 (by omega)
  have b := c_iadd (48 : Int32) ((n / (100 : Int32)) % (10 : Int32))
  have r := rng32 ((48 : Int32) + ((n / (100 : Int32)) % (10 : Int32)))
  have e : (48 : Int32).toInt = 48 := by decide
  omega
theorem own_e4 {n : Int32} (h0 : 0 ≤ n.toInt) (h1 : n.toInt ≤ 65535) : ((48 : Int32) + ((n / (1000 : Int32)) % (10 : Int32))).toInt = 48 + n.toInt / 1000 % 10 := by
  have a := (c_idiv n (1000 : Int32) 1000 (by decide) (by decide)).1 h0
  have a2 := (c_irem (n / (1000 : Int32)) (10 : Int32) 10 (by decide)).1 (by omega)
  have b := c_iadd (48 : Int32) ((n / (1000 : Int32)) % (10 : Int32))
  have r := rng32 ((48 : Int32) + ((n / (1000 : Int32)) % (10 : Int32)))
  have e : (48 : Int32).toInt = 48 := by decide
  omega
theorem pd__28Ljava_2flang_2fString_3bI_29V : parseMethodDescriptor "(Ljava/lang/String;I)V" = some ⟨[(.object "java/lang/String"), .int], none⟩ := by decide +kernel
theorem pd__28Ljava_2flang_2fString_3b_5bCII_29Z : parseMethodDescriptor "(Ljava/lang/String;[CII)Z" = some ⟨[(.object "java/lang/String"), (.array .char), .int, .int], some .boolean⟩ := by decide +kernel
theorem pd__28_5bC_29V : parseMethodDescriptor "([C)V" = some ⟨[(.array .char)], none⟩ := by decide +kernel
theorem ef_law (m : MethodId) (ln : Int32) (xa : Int32) (xb : Int32) (xc : Int32) (xd : Int32) (po : Int32) : entryFrame m #[(.int ln), (.int xa), (.int xb), (.int xc), (.int xd), (.int po)] maxLocals = mkF m 0 #[iv ln, iv xa, iv xb, iv xc, iv xd, iv po, .unset, .unset, .unset, .unset, .unset, .unset, .unset, .unset, .unset, .unset, .unset, .unset] [] := by
  first | (simp [entryFrame, mkF, argsToLocals, Value.category, maxLocals]; done) | rfl
def Q_law (Z : State) (ln : Int32) (xa : Int32) (xb : Int32) (xc : Int32) (xd : Int32) (po : Int32) (csz : Int32) (fm : Value) (dga : Addr) (cga : Cell) (dgb : Addr) (cgb : Cell) (h0 : Heap) (n0 : Nat) (v : Option Value) (h : Heap) (L : List Loc) : Prop := v = some (.int 1) ∧ Fr n0 L
def own_Cx_law (l : Launch) (Z : State) (a0 : Array Value) (ws : List Jvm.Cond) (ln : Int32) (xa : Int32) (xb : Int32) (xc : Int32) (xd : Int32) (po : Int32) (csz : Int32) (fm : Value) (dga : Addr) (cga : Cell) (dgb : Addr) (cgb : Cell) (h0 : Heap) (n0 : Nat) (p : Program) (e : Env) (s : State) (m : MethodId) (below : List Frame) (meth : Method) (c : Code) (s₁ : State) : Prop := (∀ d ∈ tables_1, d.before a0 Z = true) ∧ (Old Z n0 h0) ∧ (Sta Z Z.heap "java/lang/String" "COMPACT_STRINGS" "Z" (.int csz)) ∧ (¬ csz = (0 : Int32)) ∧ (Sta Z Z.heap "jdk/internal/util/Preconditions" "SIOOBE_FORMATTER" "Ljava/util/function/BiFunction;" fm) ∧ (fm.isRef = true) ∧ (Sta Z Z.heap "java/lang/Integer" "DigitOnes" "[B" (.ref dga)) ∧ (own_Tb Z dga cga (fun j => (48 : Int32) + (j % (10 : Int32)))) ∧ (Sta Z Z.heap "java/lang/Integer" "DigitTens" "[B" (.ref dgb)) ∧ (own_Tb Z dgb cgb (fun j => (48 : Int32) + (j / (10 : Int32)))) ∧ (BodyLoose p l x (head1 (Jvm.Cond.code x code maxLocals ret :: ws) room_1) code maxLocals ret e s m #[(.int ln), (.int xa), (.int xb), (.int xc), (.int xd), (.int po)] below meth c s₁) ∧ (c.maxLocals = 18) ∧ (s.heap = h0)
section Tops
variable {l : Launch} {Z : State} {a0 : Array Value} {ws : List Jvm.Cond} {ln : Int32} {xa : Int32} {xb : Int32} {xc : Int32} {xd : Int32} {po : Int32} {csz : Int32} {fm : Value} {dga : Addr} {cga : Cell} {dgb : Addr} {cgb : Cell} {h0 : Heap} {n0 : Nat} {p : Program} {e : Env} {s : State} {m : MethodId} {below : List Frame} {meth : Method} {c : Code} {s₁ : State}
set_option maxRecDepth 65536 in
set_option maxHeartbeats 40000000 in
theorem rm_law_te (cx : own_Cx_law l Z a0 ws ln xa xb xc xd po csz fm dga cga dgb cgb h0 n0 p e s m below meth c s₁) :
    ∀ (te_T : State) (te_h : Heap) (te_L : List Loc) (te_vm : Vm) (te_k : Nat) (nv : Int32) (ya : Int32) (yb : Int32) (yc : Int32) (yd : Int32) (pp : Int32) (ha : Addr) (sr : Addr) (co : Int32) (o : Addr) (kk : Int32) (u : Addr) (ku : ClassId) (mm : Int32) (ys : List Int32) (ko : ClassId) (cs : List Int32), (Stand p l e room_1 (s.setVm te_vm) m #[(.int ln), (.int xa), (.int xb), (.int xc), (.int xd), (.int po)] below meth c te_T te_L 8 60) → (te_T.heap = te_h) → (s.Since te_vm te_k) → (te_k ≤ te_h.size) → (Z.Warmed39 (s.setVm te_vm).vm) → ((s.setVm te_vm).vm.findClass "com/example/redelivery/redelivery/settings/ListenAddressToStringPinLaw" = some m.cls) → (CHv Z own_EL te_vm te_h) → (CHr Z own_EL s.vm h0 te_vm te_h) → (Old Z n0 te_h) → (Keep h0 te_h []) → (Fr n0 te_L) → (Exa Z te_h sr "java/lang/String") → (Fld Z te_h sr "java/lang/String" "value" "[B" (.ref u)) → (Fld Z te_h sr "java/lang/String" "coder" "B" (.int 0)) → (Arv Z te_h u ku .byte mm (own_B ys) (.int 0)) → (Arv Z te_h o ko .char (12 : Int32) (own_B cs) (.int 0)) → (own_L4 ys mm) → (0 ≤ pp.toInt) → (pp.toInt ≤ 65535) → (kk.toInt = (cs.length : Int)) → (cs.length ≤ 12) → (∀ c ∈ cs, ¬ c < (0 : Int32) ∧ ¬ (255 : Int32) < c) → (cs.map own_by = (own_pre ys ++ own_dig pp)) → own_GH Z own_EL p e below s 21 150 (Q_law Z ln xa xb xc xd po csz fm dga cga dgb cgb h0 n0) te_T (mkF m 469 #[iv ln, iv xa, iv xb, iv xc, iv xd, iv po, iv nv, iv ya, iv yb, iv yc, iv yd, iv pp, rv ha, rv sr, iv co, rv o, iv kk, .unset] []) := by
  obtain ⟨hw, O0, S_CS, hcs, S_IO, hio, S_D1, TB1, S_D2, TB2, Bd, hml, hh⟩ := id cx
  have W_ : ∀ {d : Jvm.Cond} (i : Nat), tables_1[i]? = some d → d.before a0 Z = true := fun i h => hw _ (List.mem_of_getElem? h)
  have hx := Bd.exec
  have hby := Bd.bytes
  have hnm := (name_of_methodNamed Bd.named Bd.method).1
  have ew := own_EW Z a0 hw
  have hws : ∀ d ∈ StrChars.Road.words, d.before a0 Z = true := fun d hd => hw d (own_hws d hd)
  intro te_T te_h te_L te_vm te_k nv ya yb yc yd pp ha sr co o kk u ku mm ys ko cs te_X te_e hS hkS hZ hown hH hR te_O te_K te_N te_F0 te_F1 te_F2 te_F3 te_F4 hL4 hp0 hp1 hk hk12 hcb hfull
  obtain ⟨T1, h1, X1, e1, E1, A1, D1, -, st1⟩ := newO te_X hx hZ hown (W_ 35 rfl) (W_ 36 rfl) (W_ 37 rfl) te_e (g := (mkF m 469 #[iv ln, iv xa, iv xb, iv xc, iv xd, iv po, iv nv, iv ya, iv yb, iv yc, iv yd, iv pp, rv ha, rv sr, iv co, rv o, iv kk, .unset] [])) rfl (hb hby at_469) (by decide) (by decide)
  obtain ⟨b1, g1⟩ : ∃ z, z = te_h.size := ⟨_, rfl⟩
  rw [← g1] at A1 D1 st1
  have ne2 : sr ≠ b1 := Nat.ne_of_lt (Nat.lt_of_lt_of_le te_F0.lt (Nat.le_of_eq g1.symm))
  have ne3 : u ≠ b1 := Nat.ne_of_lt (Nat.lt_of_lt_of_le te_F3.lt (Nat.le_of_eq g1.symm))
  have ne4 : o ≠ b1 := Nat.ne_of_lt (Nat.lt_of_lt_of_le te_F4.lt (Nat.le_of_eq g1.symm))
  have g5 : n0 ≤ b1 := Nat.le_trans te_O.le (Nat.le_of_eq g1.symm)
  have z6 : h0.size ≤ b1 := Nat.le_trans te_K.1 (Nat.le_of_eq g1.symm)
  have sf7 : Safe Z own_EL te_vm te_h b1 := Safe.new (Nat.le_of_eq g1.symm)
  have hkS := Nat.le_trans hkS E1.1
  have sf8 := Safe.ext E1 hH sf7
  have hR := hR.trans (CHr.ext E1 hH)
  have hH := CHv.ext E1 hH
  have F9 := te_F0.ext E1
  have F10 := te_F1.ext E1
  have F11 := te_F2.ext E1
  have F12 := te_F3.ext E1
  have F13 := te_F4.ext E1
  have O14 := te_O.ext E1
  have K15 := te_K.ext E1
  have F16 : Fld Z h1 b1 "com/example/redelivery/redelivery/settings/ListenAddress" "host" "Ljava/lang/String;" .null := D1 (Or.inr (W_ 61 rfl)) (ty := (.object "java/lang/String")) (by decide)
  have F17 : Fld Z h1 b1 "com/example/redelivery/redelivery/settings/ListenAddress" "port" "I" (.int 0) := D1 (Or.inr (W_ 63 rfl)) (ty := .int) (by decide)
  refine own_GH.st (T' := T1) 472 [(.ref b1)] st1 ?_
  refine own_GH.sk 473 [(.ref b1), (.ref b1)] (fun _ kq => XS.dup X1.here hx rfl (hb hby at_472) rfl rfl kq) ?_
  refine own_GH.sk 475 [(.ref sr), (.ref b1), (.ref b1)] (fun _ kq => XS.aload X1.here hx rfl (hb hby at_473) rfl rfl kq) ?_
  refine own_GH.sk 477 [(.int pp), (.ref sr), (.ref b1), (.ref b1)] (fun _ kq => XS.iload X1.here hx rfl (hb hby at_475) rfl kq) ?_
  obtain ⟨_, _, ⟨T18, L18, k18, n18⟩, -, X18, sS18, gS18, ⟨Lc18, hQ18, l18, y18, z18, ch18⟩, st18⟩ := X1.specialBackS hx (y := own_y39) rfl hown (mvT hZ (W_ 38 rfl)) (mvT hZ (W_ 39 rfl)) (mvT hZ (W_ 40 rfl)) (by decide) (backOfSH (vm0 := te_vm) (W := 1) (rm_lainit l Z a0 hw [] b1 sr pp u ku mm ys h1 n0 O14 A1 F16 F17 F9 F10 F12 g5 (Ne.symm ne3) hL4 hp0 hp1) hZ (W_ 40 rfl) (W_ 37 rfl) (by decide) (by decide) ew hH) (g := (mkF m 477 #[iv ln, iv xa, iv xb, iv xc, iv xd, iv po, iv nv, iv ya, iv yb, iv yc, iv yd, iv pp, rv ha, rv sr, iv co, rv o, iv kk, .unset] [(.int pp), (.ref sr), (.ref b1), (.ref b1)])) rfl (by rw [hml]; rfl) (Steps.refl _) (a := b1) (argsL := [(.ref sr), (.int pp)]) (rest := [(.ref b1)]) (lenOf pd__28Ljava_2flang_2fString_3bI_29V rfl) rfl (by show 2 * 0 + _ ≤ _; exact Nat.le_of_eq rfl) (hb hby at_477) (fun _ _ => ⟨rfl, e1, (by decide : 9 + 2 ≤ _), (by decide : 62 + 20 ≤ _)⟩)
  dsimp only [Pt.U, Pt.locs, Pt.cells, Pt.slots] at X18 l18 y18 z18 st18 hQ18 sS18 gS18 ch18
  subst l18 y18 z18
  obtain ⟨X18, hS, hZ, hown⟩ := rebS (vm0 := te_vm) hS (by rw [e1]; exact hkS) X18 sS18 gS18 hZ hown
  have sf19 := ch18.safe A1.lt sf8
  have hR := hR.trans ch18
  have hH := ch18.1
  obtain ⟨rfl, Nq18, P20, P21, P22, P23⟩ := hQ18
  have N18 := Fr.app te_N Nq18
  have hkS := Nat.le_trans hkS P20.1
  have F24 := F9.keep P20
  have F25 := F10.keep P20 (ninS ne2 nin0)
  have F26 := F11.keep P20 (ninS ne2 nin0)
  have F27 := F12.keep P20 (ninS ne3 nin0)
  have F28 := F13.keep P20 (ninS ne4 nin0)
  have F29 := A1.keep P20
  have O30 := O14.keep P20 (allS g5 all0)
  have K31 := K15.trans P20 (allS (Or.inr z6) all0)
  have hkS : T18.heap.size ≤ T18.heap.size := Nat.le_refl _
  refine own_GH.st (T' := T18) 480 [(.ref b1)] (fun _ kq => st18.trans kq) ?_
  obtain ⟨cq32, kq32, q32a, q32b, q32c⟩ := isOf hZ rfl P21
  obtain ⟨_, _, ⟨T32, L32, k32, n32⟩, -, X32, sS32, gS32, ⟨Lc32, hQ32, l32, y32, z32, ch32⟩, st32⟩ := X18.virtualBackS hx (y := own_y40) (z := own_y40) hown (mvT hZ (W_ 64 rfl)) (mvT hZ (W_ 65 rfl)) (notFace_of_selects (args := #[]) (mvT hZ (W_ 67 rfl))) (mvT hZ (W_ 67 rfl)) (mvT hZ (W_ 66 rfl)) (by decide) (backOfSH (vm0 := T18.vm) (W := 0) (rm_latos l Z a0 hw [] b1 csz dga cga dgb cgb sr pp u ku mm ys T18.heap n0 O30 S_CS hcs S_D1 TB1 S_D2 TB2 P21 P22 P23 F24 F25 F26 F27 hL4 hp0 hp1) hZ (W_ 68 rfl) (W_ 37 rfl) (by decide) (by decide) ew hH) q32a q32c (g := (mkF m 480 #[iv ln, iv xa, iv xb, iv xc, iv xd, iv po, iv nv, iv ya, iv yb, iv yc, iv yd, iv pp, rv ha, rv sr, iv co, rv o, iv kk, .unset] [(.ref b1)])) rfl (by rw [hml]; rfl) (Steps.refl _) (argsL := []) (rest := []) (lenOf pd__28_29Ljava_2flang_2fString_3b rfl) rfl (by show 2 * 0 + _ ≤ _; exact Nat.le_of_eq rfl) (hb hby at_480) (fun _ _ => ⟨rfl, rfl, (by decide : 11 + 10 ≤ _), (by decide : 82 + 68 ≤ _)⟩)
  dsimp only [Pt.U, Pt.locs, Pt.cells, Pt.slots] at X32 l32 y32 z32 st32 hQ32 sS32 gS32 ch32
  subst l32 y32 z32
  obtain ⟨X32, hS, hZ, hown⟩ := rebS (vm0 := T18.vm) hS hkS X32 sS32 gS32 hZ hown
  have sf33 := ch32.safe P21.lt sf19
  have hR := hR.trans ch32
  have hH := ch32.1
  obtain ⟨b34, b35, x36, i37, rfl, Nq32, P38, P39, P40, P41, P42, P43, P44, P45⟩ := hQ32
  have N32 := Fr.app N18 Nq32
  have ne46 : sr ≠ b34 := Nat.ne_of_lt (Nat.lt_of_lt_of_le F24.lt P39)
  have ne47 : u ≠ b34 := Nat.ne_of_lt (Nat.lt_of_lt_of_le F27.lt P39)
  have ne48 : o ≠ b34 := Nat.ne_of_lt (Nat.lt_of_lt_of_le F28.lt P39)
  have ne49 : b1 ≠ b34 := Nat.ne_of_lt (Nat.lt_of_lt_of_le P21.lt P39)
  have g50 : n0 ≤ b34 := Nat.le_trans O30.le P39
  have z51 : h0.size ≤ b34 := Nat.le_trans K31.1 P39
  have ne52 : sr ≠ b35 := Nat.ne_of_lt (Nat.lt_of_lt_of_le F24.lt P40)
  have ne53 : u ≠ b35 := Nat.ne_of_lt (Nat.lt_of_lt_of_le F27.lt P40)
  have ne54 : o ≠ b35 := Nat.ne_of_lt (Nat.lt_of_lt_of_le F28.lt P40)
  have ne55 : b1 ≠ b35 := Nat.ne_of_lt (Nat.lt_of_lt_of_le P21.lt P40)
  have g56 : n0 ≤ b35 := Nat.le_trans O30.le P40
  have z57 : h0.size ≤ b35 := Nat.le_trans K31.1 P40
  have hkS := Nat.le_trans hkS P38.1
  have F58 := F24.keep P38
  have F59 := F25.keep P38 nin0
  have F60 := F26.keep P38 nin0
  have F61 := F27.keep P38 nin0
  have F62 := F28.keep P38 nin0
  have F63 := P21.keep P38
  have F64 := P22.keep P38 nin0
  have F65 := P23.keep P38 nin0
  have O66 := O30.keep P38 all0
  have K67 := K31.trans P38 all0
  have hkS : T32.heap.size ≤ T32.heap.size := Nat.le_refl _
  refine own_GH.st (T' := T32) 483 [(.ref b34)] (fun _ kq => st32.trans kq) ?_
  refine own_GH.si 485 [] (fun _ kq => XS.astore X32.here hx rfl (hb hby at_483) rfl rfl (l' := #[iv ln, iv xa, iv xb, iv xc, iv xd, iv po, iv nv, iv ya, iv yb, iv yc, iv yd, iv pp, rv ha, rv sr, iv co, rv o, iv kk, rv b34]) rfl kq) ?_
  refine own_GH.sk 487 [(.ref b34)] (fun _ kq => XS.aload X32.here hx rfl (hb hby at_485) rfl rfl kq) ?_
  obtain ⟨cq68, kq68, q68a, q68b, q68c⟩ := isOf hZ rfl P41
  obtain ⟨_, _, ⟨T68, L68, k68, n68⟩, -, X68, ⟨Lc68, hQ68, l68, y68, z68⟩, st68⟩ := X32.virtualBack hx (y := own_y2) (z := own_y2) hown (mvT hZ (W_ 229 rfl)) (mvT hZ (W_ 135 rfl)) (notFace_of_selects (args := #[]) (mvT hZ (W_ 137 rfl))) (mvT hZ (W_ 137 rfl)) (mvT hZ (W_ 136 rfl)) (by decide) (backOf (W := 0) (rm_strlen l Z a0 hw [] b34 csz b35 i37 T32.heap n0 O66 S_CS hcs P43 P42 (own_Len.arv P44) P41) hZ (W_ 138 rfl) (W_ 8 rfl) (by decide) (by decide)) q68a q68c (g := (mkF m 487 #[iv ln, iv xa, iv xb, iv xc, iv xd, iv po, iv nv, iv ya, iv yb, iv yc, iv yd, iv pp, rv ha, rv sr, iv co, rv o, iv kk, rv b34] [(.ref b34)])) rfl (by rw [hml]; rfl) (Steps.refl _) (argsL := []) (rest := []) (lenOf pd__28_29I rfl) rfl (by show 2 * 0 + _ ≤ _; exact Nat.le_of_eq rfl) (hb hby at_487) (fun _ _ => ⟨rfl, rfl, (by decide : 21 + 0 ≤ _), (by decide : 150 + 0 ≤ _)⟩)
  dsimp only [Pt.U, Pt.locs, Pt.cells, Pt.slots] at X68 l68 y68 z68 st68 hQ68
  subst l68 y68 z68
  obtain ⟨rfl, Nq68, P69⟩ := hQ68
  have N68 := Fr.app N32 Nq68
  refine own_GH.st (T' := T68) 490 [(.int i37)] (fun _ kq => st68.trans kq) ?_
  refine own_GH.sk 492 [(.int kk), (.int i37)] (fun _ kq => XS.iload X68.here hx rfl (hb hby at_490) rfl kq) ?_
  have hc492 : i37 = kk := (own_toInt (by rw [P45, hk, ← hfull, List.length_map]))
  refine own_GH.sk 497 [] (fun _ kq => XS.icmpYes X68.here hx rfl (pc0 := 492) (pc' := 497) rfl (hb hby at_492) rfl (teq hc492).1 (by decide) (by decide) kq) ?_
  have F70 : Arv Z T32.heap b35 x36 .byte kk (own_B (cs.map own_by)) (.int 0) := by rw [hfull, ← hc492]; exact P44
  refine own_GH.sk 499 [(.ref b34)] (fun _ kq => XS.aload X68.here hx rfl (hb hby at_497) rfl rfl kq) ?_
  refine own_GH.sk 501 [(.ref o), (.ref b34)] (fun _ kq => XS.aload X68.here hx rfl (hb hby at_499) rfl rfl kq) ?_
  refine own_GH.sk 503 [(.int kk), (.ref o), (.ref b34)] (fun _ kq => XS.iload X68.here hx rfl (hb hby at_501) rfl kq) ?_
  refine own_GH.sk 504 [(.int 0), (.int kk), (.ref o), (.ref b34)] (fun _ kq => XS.iconst X68.here hx rfl (hb hby at_503) kq) ?_
  obtain ⟨_, _, ⟨T71, L71, k71, n71⟩, -, X71, ⟨Lc71, hQ71, l71, y71, z71⟩, st71⟩ := Jvm.LawKit.callS X68 hx (y := own_y42) hown (mvT hZ (W_ 230 rfl)) (mvT hZ (W_ 231 rfl)) (mvT hZ (W_ 2 rfl)) (mvT hZ (W_ 232 rfl)) (by decide) (backOf (W := 0) (rm_at l Z a0 hw [] b34 o kk (0 : Int32) csz fm b35 x36 ko cs T32.heap n0 O66 S_CS hcs S_IO hio P41 P42 P43 F70 F62 hk hk12 hcb (by decide)) hZ (W_ 232 rfl) (W_ 2 rfl) (by decide) (by decide)) (g := (mkF m 504 #[iv ln, iv xa, iv xb, iv xc, iv xd, iv po, iv nv, iv ya, iv yb, iv yc, iv yd, iv pp, rv ha, rv sr, iv co, rv o, iv kk, rv b34] [(.int 0), (.int kk), (.ref o), (.ref b34)])) rfl (by rw [hml]; rfl) (argsL := [(.ref b34), (.ref o), (.int kk), (.int 0)]) (rest := []) (lenOf pd__28Ljava_2flang_2fString_3b_5bCII_29Z rfl) rfl (by show 2 * 0 + _ ≤ _; exact Nat.le_of_eq rfl) (hb hby at_504) (fun _ _ => ⟨rfl, P69, (by decide : 21 + 0 ≤ _), (by decide : 150 + 0 ≤ _)⟩)
  dsimp only [Pt.U, Pt.locs, Pt.cells, Pt.slots] at X71 l71 y71 z71 st71 hQ71
  subst l71 y71 z71
  obtain ⟨rfl, Nq71, P72⟩ := hQ71
  have N71 := Fr.app N68 Nq71
  refine own_GH.st (T' := T71) 507 [(.int 1)] (fun _ kq => st71 _ kq) ?_
  have hc507 : ¬ ((1 : Int32) = (0 : Int32)) := (by decide)
  refine own_GH.sk 510 [] (fun _ kq => XS.ifNo X71.here hx rfl (hb hby at_507) rfl ((if0 _ _).trans (feq hc507).1) kq) ?_
  refine own_GH.sk 512 [(.ref b34)] (fun _ kq => XS.aload X71.here hx rfl (hb hby at_510) rfl rfl kq) ?_
  refine own_GH.sk 514 [(.ref o), (.ref b34)] (fun _ kq => XS.aload X71.here hx rfl (hb hby at_512) rfl rfl kq) ?_
  refine own_GH.sk 516 [(.int kk), (.ref o), (.ref b34)] (fun _ kq => XS.iload X71.here hx rfl (hb hby at_514) rfl kq) ?_
  refine own_GH.sk 517 [(.int 1), (.int kk), (.ref o), (.ref b34)] (fun _ kq => XS.iconst X71.here hx rfl (hb hby at_516) kq) ?_
  obtain ⟨_, _, ⟨T73, L73, k73, n73⟩, -, X73, ⟨Lc73, hQ73, l73, y73, z73⟩, st73⟩ := Jvm.LawKit.callS X71 hx (y := own_y42) hown (mvT hZ (W_ 230 rfl)) (mvT hZ (W_ 231 rfl)) (mvT hZ (W_ 2 rfl)) (mvT hZ (W_ 232 rfl)) (by decide) (backOf (W := 0) (rm_at l Z a0 hw [] b34 o kk (1 : Int32) csz fm b35 x36 ko cs T32.heap n0 O66 S_CS hcs S_IO hio P41 P42 P43 F70 F62 hk hk12 hcb (by decide)) hZ (W_ 232 rfl) (W_ 2 rfl) (by decide) (by decide)) (g := (mkF m 517 #[iv ln, iv xa, iv xb, iv xc, iv xd, iv po, iv nv, iv ya, iv yb, iv yc, iv yd, iv pp, rv ha, rv sr, iv co, rv o, iv kk, rv b34] [(.int 1), (.int kk), (.ref o), (.ref b34)])) rfl (by rw [hml]; rfl) (argsL := [(.ref b34), (.ref o), (.int kk), (.int 1)]) (rest := []) (lenOf pd__28Ljava_2flang_2fString_3b_5bCII_29Z rfl) rfl (by show 2 * 0 + _ ≤ _; exact Nat.le_of_eq rfl) (hb hby at_517) (fun _ _ => ⟨rfl, P72, (by decide : 21 + 0 ≤ _), (by decide : 150 + 0 ≤ _)⟩)
  dsimp only [Pt.U, Pt.locs, Pt.cells, Pt.slots] at X73 l73 y73 z73 st73 hQ73
  subst l73 y73 z73
  obtain ⟨rfl, Nq73, P74⟩ := hQ73
  have N73 := Fr.app N71 Nq73
  refine own_GH.st (T' := T73) 520 [(.int 1)] (fun _ kq => st73 _ kq) ?_
  have hc520 : ¬ ((1 : Int32) = (0 : Int32)) := (by decide)
  refine own_GH.sk 523 [] (fun _ kq => XS.ifNo X73.here hx rfl (hb hby at_520) rfl ((if0 _ _).trans (feq hc520).1) kq) ?_
  refine own_GH.sk 525 [(.ref b34)] (fun _ kq => XS.aload X73.here hx rfl (hb hby at_523) rfl rfl kq) ?_
  refine own_GH.sk 527 [(.ref o), (.ref b34)] (fun _ kq => XS.aload X73.here hx rfl (hb hby at_525) rfl rfl kq) ?_
  refine own_GH.sk 529 [(.int kk), (.ref o), (.ref b34)] (fun _ kq => XS.iload X73.here hx rfl (hb hby at_527) rfl kq) ?_
  refine own_GH.sk 530 [(.int 2), (.int kk), (.ref o), (.ref b34)] (fun _ kq => XS.iconst X73.here hx rfl (hb hby at_529) kq) ?_
  obtain ⟨_, _, ⟨T75, L75, k75, n75⟩, -, X75, ⟨Lc75, hQ75, l75, y75, z75⟩, st75⟩ := Jvm.LawKit.callS X73 hx (y := own_y42) hown (mvT hZ (W_ 230 rfl)) (mvT hZ (W_ 231 rfl)) (mvT hZ (W_ 2 rfl)) (mvT hZ (W_ 232 rfl)) (by decide) (backOf (W := 0) (rm_at l Z a0 hw [] b34 o kk (2 : Int32) csz fm b35 x36 ko cs T32.heap n0 O66 S_CS hcs S_IO hio P41 P42 P43 F70 F62 hk hk12 hcb (by decide)) hZ (W_ 232 rfl) (W_ 2 rfl) (by decide) (by decide)) (g := (mkF m 530 #[iv ln, iv xa, iv xb, iv xc, iv xd, iv po, iv nv, iv ya, iv yb, iv yc, iv yd, iv pp, rv ha, rv sr, iv co, rv o, iv kk, rv b34] [(.int 2), (.int kk), (.ref o), (.ref b34)])) rfl (by rw [hml]; rfl) (argsL := [(.ref b34), (.ref o), (.int kk), (.int 2)]) (rest := []) (lenOf pd__28Ljava_2flang_2fString_3b_5bCII_29Z rfl) rfl (by show 2 * 0 + _ ≤ _; exact Nat.le_of_eq rfl) (hb hby at_530) (fun _ _ => ⟨rfl, P74, (by decide : 21 + 0 ≤ _), (by decide : 150 + 0 ≤ _)⟩)
  dsimp only [Pt.U, Pt.locs, Pt.cells, Pt.slots] at X75 l75 y75 z75 st75 hQ75
  subst l75 y75 z75
  obtain ⟨rfl, Nq75, P76⟩ := hQ75
  have N75 := Fr.app N73 Nq75
  refine own_GH.st (T' := T75) 533 [(.int 1)] (fun _ kq => st75 _ kq) ?_
  have hc533 : ¬ ((1 : Int32) = (0 : Int32)) := (by decide)
  refine own_GH.sk 536 [] (fun _ kq => XS.ifNo X75.here hx rfl (hb hby at_533) rfl ((if0 _ _).trans (feq hc533).1) kq) ?_
  refine own_GH.sk 538 [(.ref b34)] (fun _ kq => XS.aload X75.here hx rfl (hb hby at_536) rfl rfl kq) ?_
  refine own_GH.sk 540 [(.ref o), (.ref b34)] (fun _ kq => XS.aload X75.here hx rfl (hb hby at_538) rfl rfl kq) ?_
  refine own_GH.sk 542 [(.int kk), (.ref o), (.ref b34)] (fun _ kq => XS.iload X75.here hx rfl (hb hby at_540) rfl kq) ?_
  refine own_GH.sk 543 [(.int 3), (.int kk), (.ref o), (.ref b34)] (fun _ kq => XS.iconst X75.here hx rfl (hb hby at_542) kq) ?_
  obtain ⟨_, _, ⟨T77, L77, k77, n77⟩, -, X77, ⟨Lc77, hQ77, l77, y77, z77⟩, st77⟩ := Jvm.LawKit.callS X75 hx (y := own_y42) hown (mvT hZ (W_ 230 rfl)) (mvT hZ (W_ 231 rfl)) (mvT hZ (W_ 2 rfl)) (mvT hZ (W_ 232 rfl)) (by decide) (backOf (W := 0) (rm_at l Z a0 hw [] b34 o kk (3 : Int32) csz fm b35 x36 ko cs T32.heap n0 O66 S_CS hcs S_IO hio P41 P42 P43 F70 F62 hk hk12 hcb (by decide)) hZ (W_ 232 rfl) (W_ 2 rfl) (by decide) (by decide)) (g := (mkF m 543 #[iv ln, iv xa, iv xb, iv xc, iv xd, iv po, iv nv, iv ya, iv yb, iv yc, iv yd, iv pp, rv ha, rv sr, iv co, rv o, iv kk, rv b34] [(.int 3), (.int kk), (.ref o), (.ref b34)])) rfl (by rw [hml]; rfl) (argsL := [(.ref b34), (.ref o), (.int kk), (.int 3)]) (rest := []) (lenOf pd__28Ljava_2flang_2fString_3b_5bCII_29Z rfl) rfl (by show 2 * 0 + _ ≤ _; exact Nat.le_of_eq rfl) (hb hby at_543) (fun _ _ => ⟨rfl, P76, (by decide : 21 + 0 ≤ _), (by decide : 150 + 0 ≤ _)⟩)
  dsimp only [Pt.U, Pt.locs, Pt.cells, Pt.slots] at X77 l77 y77 z77 st77 hQ77
  subst l77 y77 z77
  obtain ⟨rfl, Nq77, P78⟩ := hQ77
  have N77 := Fr.app N75 Nq77
  refine own_GH.st (T' := T77) 546 [(.int 1)] (fun _ kq => st77 _ kq) ?_
  have hc546 : ¬ ((1 : Int32) = (0 : Int32)) := (by decide)
  refine own_GH.sk 549 [] (fun _ kq => XS.ifNo X77.here hx rfl (hb hby at_546) rfl ((if0 _ _).trans (feq hc546).1) kq) ?_
  refine own_GH.sk 551 [(.ref b34)] (fun _ kq => XS.aload X77.here hx rfl (hb hby at_549) rfl rfl kq) ?_
  refine own_GH.sk 553 [(.ref o), (.ref b34)] (fun _ kq => XS.aload X77.here hx rfl (hb hby at_551) rfl rfl kq) ?_
  refine own_GH.sk 555 [(.int kk), (.ref o), (.ref b34)] (fun _ kq => XS.iload X77.here hx rfl (hb hby at_553) rfl kq) ?_
  refine own_GH.sk 556 [(.int 4), (.int kk), (.ref o), (.ref b34)] (fun _ kq => XS.iconst X77.here hx rfl (hb hby at_555) kq) ?_
  obtain ⟨_, _, ⟨T79, L79, k79, n79⟩, -, X79, ⟨Lc79, hQ79, l79, y79, z79⟩, st79⟩ := Jvm.LawKit.callS X77 hx (y := own_y42) hown (mvT hZ (W_ 230 rfl)) (mvT hZ (W_ 231 rfl)) (mvT hZ (W_ 2 rfl)) (mvT hZ (W_ 232 rfl)) (by decide) (backOf (W := 0) (rm_at l Z a0 hw [] b34 o kk (4 : Int32) csz fm b35 x36 ko cs T32.heap n0 O66 S_CS hcs S_IO hio P41 P42 P43 F70 F62 hk hk12 hcb (by decide)) hZ (W_ 232 rfl) (W_ 2 rfl) (by decide) (by decide)) (g := (mkF m 556 #[iv ln, iv xa, iv xb, iv xc, iv xd, iv po, iv nv, iv ya, iv yb, iv yc, iv yd, iv pp, rv ha, rv sr, iv co, rv o, iv kk, rv b34] [(.int 4), (.int kk), (.ref o), (.ref b34)])) rfl (by rw [hml]; rfl) (argsL := [(.ref b34), (.ref o), (.int kk), (.int 4)]) (rest := []) (lenOf pd__28Ljava_2flang_2fString_3b_5bCII_29Z rfl) rfl (by show 2 * 0 + _ ≤ _; exact Nat.le_of_eq rfl) (hb hby at_556) (fun _ _ => ⟨rfl, P78, (by decide : 21 + 0 ≤ _), (by decide : 150 + 0 ≤ _)⟩)
  dsimp only [Pt.U, Pt.locs, Pt.cells, Pt.slots] at X79 l79 y79 z79 st79 hQ79
  subst l79 y79 z79
  obtain ⟨rfl, Nq79, P80⟩ := hQ79
  have N79 := Fr.app N77 Nq79
  refine own_GH.st (T' := T79) 559 [(.int 1)] (fun _ kq => st79 _ kq) ?_
  have hc559 : ¬ ((1 : Int32) = (0 : Int32)) := (by decide)
  refine own_GH.sk 562 [] (fun _ kq => XS.ifNo X79.here hx rfl (hb hby at_559) rfl ((if0 _ _).trans (feq hc559).1) kq) ?_
  refine own_GH.sk 564 [(.ref b34)] (fun _ kq => XS.aload X79.here hx rfl (hb hby at_562) rfl rfl kq) ?_
  refine own_GH.sk 566 [(.ref o), (.ref b34)] (fun _ kq => XS.aload X79.here hx rfl (hb hby at_564) rfl rfl kq) ?_
  refine own_GH.sk 568 [(.int kk), (.ref o), (.ref b34)] (fun _ kq => XS.iload X79.here hx rfl (hb hby at_566) rfl kq) ?_
  refine own_GH.sk 569 [(.int 5), (.int kk), (.ref o), (.ref b34)] (fun _ kq => XS.iconst X79.here hx rfl (hb hby at_568) kq) ?_
  obtain ⟨_, _, ⟨T81, L81, k81, n81⟩, -, X81, ⟨Lc81, hQ81, l81, y81, z81⟩, st81⟩ := Jvm.LawKit.callS X79 hx (y := own_y42) hown (mvT hZ (W_ 230 rfl)) (mvT hZ (W_ 231 rfl)) (mvT hZ (W_ 2 rfl)) (mvT hZ (W_ 232 rfl)) (by decide) (backOf (W := 0) (rm_at l Z a0 hw [] b34 o kk (5 : Int32) csz fm b35 x36 ko cs T32.heap n0 O66 S_CS hcs S_IO hio P41 P42 P43 F70 F62 hk hk12 hcb (by decide)) hZ (W_ 232 rfl) (W_ 2 rfl) (by decide) (by decide)) (g := (mkF m 569 #[iv ln, iv xa, iv xb, iv xc, iv xd, iv po, iv nv, iv ya, iv yb, iv yc, iv yd, iv pp, rv ha, rv sr, iv co, rv o, iv kk, rv b34] [(.int 5), (.int kk), (.ref o), (.ref b34)])) rfl (by rw [hml]; rfl) (argsL := [(.ref b34), (.ref o), (.int kk), (.int 5)]) (rest := []) (lenOf pd__28Ljava_2flang_2fString_3b_5bCII_29Z rfl) rfl (by show 2 * 0 + _ ≤ _; exact Nat.le_of_eq rfl) (hb hby at_569) (fun _ _ => ⟨rfl, P80, (by decide : 21 + 0 ≤ _), (by decide : 150 + 0 ≤ _)⟩)
  dsimp only [Pt.U, Pt.locs, Pt.cells, Pt.slots] at X81 l81 y81 z81 st81 hQ81
  subst l81 y81 z81
  obtain ⟨rfl, Nq81, P82⟩ := hQ81
  have N81 := Fr.app N79 Nq81
  refine own_GH.st (T' := T81) 572 [(.int 1)] (fun _ kq => st81 _ kq) ?_
  have hc572 : ¬ ((1 : Int32) = (0 : Int32)) := (by decide)
  refine own_GH.sk 575 [] (fun _ kq => XS.ifNo X81.here hx rfl (hb hby at_572) rfl ((if0 _ _).trans (feq hc572).1) kq) ?_
  refine own_GH.sk 577 [(.ref b34)] (fun _ kq => XS.aload X81.here hx rfl (hb hby at_575) rfl rfl kq) ?_
  refine own_GH.sk 579 [(.ref o), (.ref b34)] (fun _ kq => XS.aload X81.here hx rfl (hb hby at_577) rfl rfl kq) ?_
  refine own_GH.sk 581 [(.int kk), (.ref o), (.ref b34)] (fun _ kq => XS.iload X81.here hx rfl (hb hby at_579) rfl kq) ?_
  refine own_GH.sk 583 [(.int 6), (.int kk), (.ref o), (.ref b34)] (fun _ kq => XS.bipush X81.here hx rfl (hb hby at_581) kq) ?_
  obtain ⟨_, _, ⟨T83, L83, k83, n83⟩, -, X83, ⟨Lc83, hQ83, l83, y83, z83⟩, st83⟩ := Jvm.LawKit.callS X81 hx (y := own_y42) hown (mvT hZ (W_ 230 rfl)) (mvT hZ (W_ 231 rfl)) (mvT hZ (W_ 2 rfl)) (mvT hZ (W_ 232 rfl)) (by decide) (backOf (W := 0) (rm_at l Z a0 hw [] b34 o kk (6 : Int32) csz fm b35 x36 ko cs T32.heap n0 O66 S_CS hcs S_IO hio P41 P42 P43 F70 F62 hk hk12 hcb (by decide)) hZ (W_ 232 rfl) (W_ 2 rfl) (by decide) (by decide)) (g := (mkF m 583 #[iv ln, iv xa, iv xb, iv xc, iv xd, iv po, iv nv, iv ya, iv yb, iv yc, iv yd, iv pp, rv ha, rv sr, iv co, rv o, iv kk, rv b34] [(.int 6), (.int kk), (.ref o), (.ref b34)])) rfl (by rw [hml]; rfl) (argsL := [(.ref b34), (.ref o), (.int kk), (.int 6)]) (rest := []) (lenOf pd__28Ljava_2flang_2fString_3b_5bCII_29Z rfl) rfl (by show 2 * 0 + _ ≤ _; exact Nat.le_of_eq rfl) (hb hby at_583) (fun _ _ => ⟨rfl, P82, (by decide : 21 + 0 ≤ _), (by decide : 150 + 0 ≤ _)⟩)
  dsimp only [Pt.U, Pt.locs, Pt.cells, Pt.slots] at X83 l83 y83 z83 st83 hQ83
  subst l83 y83 z83
  obtain ⟨rfl, Nq83, P84⟩ := hQ83
  have N83 := Fr.app N81 Nq83
  refine own_GH.st (T' := T83) 586 [(.int 1)] (fun _ kq => st83 _ kq) ?_
  have hc586 : ¬ ((1 : Int32) = (0 : Int32)) := (by decide)
  refine own_GH.sk 589 [] (fun _ kq => XS.ifNo X83.here hx rfl (hb hby at_586) rfl ((if0 _ _).trans (feq hc586).1) kq) ?_
  refine own_GH.sk 591 [(.ref b34)] (fun _ kq => XS.aload X83.here hx rfl (hb hby at_589) rfl rfl kq) ?_
  refine own_GH.sk 593 [(.ref o), (.ref b34)] (fun _ kq => XS.aload X83.here hx rfl (hb hby at_591) rfl rfl kq) ?_
  refine own_GH.sk 595 [(.int kk), (.ref o), (.ref b34)] (fun _ kq => XS.iload X83.here hx rfl (hb hby at_593) rfl kq) ?_
  refine own_GH.sk 597 [(.int 7), (.int kk), (.ref o), (.ref b34)] (fun _ kq => XS.bipush X83.here hx rfl (hb hby at_595) kq) ?_
  obtain ⟨_, _, ⟨T85, L85, k85, n85⟩, -, X85, ⟨Lc85, hQ85, l85, y85, z85⟩, st85⟩ := Jvm.LawKit.callS X83 hx (y := own_y42) hown (mvT hZ (W_ 230 rfl)) (mvT hZ (W_ 231 rfl)) (mvT hZ (W_ 2 rfl)) (mvT hZ (W_ 232 rfl)) (by decide) (backOf (W := 0) (rm_at l Z a0 hw [] b34 o kk (7 : Int32) csz fm b35 x36 ko cs T32.heap n0 O66 S_CS hcs S_IO hio P41 P42 P43 F70 F62 hk hk12 hcb (by decide)) hZ (W_ 232 rfl) (W_ 2 rfl) (by decide) (by decide)) (g := (mkF m 597 #[iv ln, iv xa, iv xb, iv xc, iv xd, iv po, iv nv, iv ya, iv yb, iv yc, iv yd, iv pp, rv ha, rv sr, iv co, rv o, iv kk, rv b34] [(.int 7), (.int kk), (.ref o), (.ref b34)])) rfl (by rw [hml]; rfl) (argsL := [(.ref b34), (.ref o), (.int kk), (.int 7)]) (rest := []) (lenOf pd__28Ljava_2flang_2fString_3b_5bCII_29Z rfl) rfl (by show 2 * 0 + _ ≤ _; exact Nat.le_of_eq rfl) (hb hby at_597) (fun _ _ => ⟨rfl, P84, (by decide : 21 + 0 ≤ _), (by decide : 150 + 0 ≤ _)⟩)
  dsimp only [Pt.U, Pt.locs, Pt.cells, Pt.slots] at X85 l85 y85 z85 st85 hQ85
  subst l85 y85 z85
  obtain ⟨rfl, Nq85, P86⟩ := hQ85
  have N85 := Fr.app N83 Nq85
  refine own_GH.st (T' := T85) 600 [(.int 1)] (fun _ kq => st85 _ kq) ?_
  have hc600 : ¬ ((1 : Int32) = (0 : Int32)) := (by decide)
  refine own_GH.sk 603 [] (fun _ kq => XS.ifNo X85.here hx rfl (hb hby at_600) rfl ((if0 _ _).trans (feq hc600).1) kq) ?_
  refine own_GH.sk 605 [(.ref b34)] (fun _ kq => XS.aload X85.here hx rfl (hb hby at_603) rfl rfl kq) ?_
  refine own_GH.sk 607 [(.ref o), (.ref b34)] (fun _ kq => XS.aload X85.here hx rfl (hb hby at_605) rfl rfl kq) ?_
  refine own_GH.sk 609 [(.int kk), (.ref o), (.ref b34)] (fun _ kq => XS.iload X85.here hx rfl (hb hby at_607) rfl kq) ?_
  refine own_GH.sk 611 [(.int 8), (.int kk), (.ref o), (.ref b34)] (fun _ kq => XS.bipush X85.here hx rfl (hb hby at_609) kq) ?_
  obtain ⟨_, _, ⟨T87, L87, k87, n87⟩, -, X87, ⟨Lc87, hQ87, l87, y87, z87⟩, st87⟩ := Jvm.LawKit.callS X85 hx (y := own_y42) hown (mvT hZ (W_ 230 rfl)) (mvT hZ (W_ 231 rfl)) (mvT hZ (W_ 2 rfl)) (mvT hZ (W_ 232 rfl)) (by decide) (backOf (W := 0) (rm_at l Z a0 hw [] b34 o kk (8 : Int32) csz fm b35 x36 ko cs T32.heap n0 O66 S_CS hcs S_IO hio P41 P42 P43 F70 F62 hk hk12 hcb (by decide)) hZ (W_ 232 rfl) (W_ 2 rfl) (by decide) (by decide)) (g := (mkF m 611 #[iv ln, iv xa, iv xb, iv xc, iv xd, iv po, iv nv, iv ya, iv yb, iv yc, iv yd, iv pp, rv ha, rv sr, iv co, rv o, iv kk, rv b34] [(.int 8), (.int kk), (.ref o), (.ref b34)])) rfl (by rw [hml]; rfl) (argsL := [(.ref b34), (.ref o), (.int kk), (.int 8)]) (rest := []) (lenOf pd__28Ljava_2flang_2fString_3b_5bCII_29Z rfl) rfl (by show 2 * 0 + _ ≤ _; exact Nat.le_of_eq rfl) (hb hby at_611) (fun _ _ => ⟨rfl, P86, (by decide : 21 + 0 ≤ _), (by decide : 150 + 0 ≤ _)⟩)
  dsimp only [Pt.U, Pt.locs, Pt.cells, Pt.slots] at X87 l87 y87 z87 st87 hQ87
  subst l87 y87 z87
  obtain ⟨rfl, Nq87, P88⟩ := hQ87
  have N87 := Fr.app N85 Nq87
  refine own_GH.st (T' := T87) 614 [(.int 1)] (fun _ kq => st87 _ kq) ?_
  have hc614 : ¬ ((1 : Int32) = (0 : Int32)) := (by decide)
  refine own_GH.sk 617 [] (fun _ kq => XS.ifNo X87.here hx rfl (hb hby at_614) rfl ((if0 _ _).trans (feq hc614).1) kq) ?_
  refine own_GH.sk 619 [(.ref b34)] (fun _ kq => XS.aload X87.here hx rfl (hb hby at_617) rfl rfl kq) ?_
  refine own_GH.sk 621 [(.ref o), (.ref b34)] (fun _ kq => XS.aload X87.here hx rfl (hb hby at_619) rfl rfl kq) ?_
  refine own_GH.sk 623 [(.int kk), (.ref o), (.ref b34)] (fun _ kq => XS.iload X87.here hx rfl (hb hby at_621) rfl kq) ?_
  refine own_GH.sk 625 [(.int 9), (.int kk), (.ref o), (.ref b34)] (fun _ kq => XS.bipush X87.here hx rfl (hb hby at_623) kq) ?_
  obtain ⟨_, _, ⟨T89, L89, k89, n89⟩, -, X89, ⟨Lc89, hQ89, l89, y89, z89⟩, st89⟩ := Jvm.LawKit.callS X87 hx (y := own_y42) hown (mvT hZ (W_ 230 rfl)) (mvT hZ (W_ 231 rfl)) (mvT hZ (W_ 2 rfl)) (mvT hZ (W_ 232 rfl)) (by decide) (backOf (W := 0) (rm_at l Z a0 hw [] b34 o kk (9 : Int32) csz fm b35 x36 ko cs T32.heap n0 O66 S_CS hcs S_IO hio P41 P42 P43 F70 F62 hk hk12 hcb (by decide)) hZ (W_ 232 rfl) (W_ 2 rfl) (by decide) (by decide)) (g := (mkF m 625 #[iv ln, iv xa, iv xb, iv xc, iv xd, iv po, iv nv, iv ya, iv yb, iv yc, iv yd, iv pp, rv ha, rv sr, iv co, rv o, iv kk, rv b34] [(.int 9), (.int kk), (.ref o), (.ref b34)])) rfl (by rw [hml]; rfl) (argsL := [(.ref b34), (.ref o), (.int kk), (.int 9)]) (rest := []) (lenOf pd__28Ljava_2flang_2fString_3b_5bCII_29Z rfl) rfl (by show 2 * 0 + _ ≤ _; exact Nat.le_of_eq rfl) (hb hby at_625) (fun _ _ => ⟨rfl, P88, (by decide : 21 + 0 ≤ _), (by decide : 150 + 0 ≤ _)⟩)
  dsimp only [Pt.U, Pt.locs, Pt.cells, Pt.slots] at X89 l89 y89 z89 st89 hQ89
  subst l89 y89 z89
  obtain ⟨rfl, Nq89, P90⟩ := hQ89
  have N89 := Fr.app N87 Nq89
  refine own_GH.st (T' := T89) 628 [(.int 1)] (fun _ kq => st89 _ kq) ?_
  have hc628 : ¬ ((1 : Int32) = (0 : Int32)) := (by decide)
  refine own_GH.sk 631 [] (fun _ kq => XS.ifNo X89.here hx rfl (hb hby at_628) rfl ((if0 _ _).trans (feq hc628).1) kq) ?_
  refine own_GH.sk 633 [(.ref b34)] (fun _ kq => XS.aload X89.here hx rfl (hb hby at_631) rfl rfl kq) ?_
  refine own_GH.sk 635 [(.ref o), (.ref b34)] (fun _ kq => XS.aload X89.here hx rfl (hb hby at_633) rfl rfl kq) ?_
  refine own_GH.sk 637 [(.int kk), (.ref o), (.ref b34)] (fun _ kq => XS.iload X89.here hx rfl (hb hby at_635) rfl kq) ?_
  refine own_GH.sk 639 [(.int 10), (.int kk), (.ref o), (.ref b34)] (fun _ kq => XS.bipush X89.here hx rfl (hb hby at_637) kq) ?_
  obtain ⟨_, _, ⟨T91, L91, k91, n91⟩, -, X91, ⟨Lc91, hQ91, l91, y91, z91⟩, st91⟩ := Jvm.LawKit.callS X89 hx (y := own_y42) hown (mvT hZ (W_ 230 rfl)) (mvT hZ (W_ 231 rfl)) (mvT hZ (W_ 2 rfl)) (mvT hZ (W_ 232 rfl)) (by decide) (backOf (W := 0) (rm_at l Z a0 hw [] b34 o kk (10 : Int32) csz fm b35 x36 ko cs T32.heap n0 O66 S_CS hcs S_IO hio P41 P42 P43 F70 F62 hk hk12 hcb (by decide)) hZ (W_ 232 rfl) (W_ 2 rfl) (by decide) (by decide)) (g := (mkF m 639 #[iv ln, iv xa, iv xb, iv xc, iv xd, iv po, iv nv, iv ya, iv yb, iv yc, iv yd, iv pp, rv ha, rv sr, iv co, rv o, iv kk, rv b34] [(.int 10), (.int kk), (.ref o), (.ref b34)])) rfl (by rw [hml]; rfl) (argsL := [(.ref b34), (.ref o), (.int kk), (.int 10)]) (rest := []) (lenOf pd__28Ljava_2flang_2fString_3b_5bCII_29Z rfl) rfl (by show 2 * 0 + _ ≤ _; exact Nat.le_of_eq rfl) (hb hby at_639) (fun _ _ => ⟨rfl, P90, (by decide : 21 + 0 ≤ _), (by decide : 150 + 0 ≤ _)⟩)
  dsimp only [Pt.U, Pt.locs, Pt.cells, Pt.slots] at X91 l91 y91 z91 st91 hQ91
  subst l91 y91 z91
  obtain ⟨rfl, Nq91, P92⟩ := hQ91
  have N91 := Fr.app N89 Nq91
  refine own_GH.st (T' := T91) 642 [(.int 1)] (fun _ kq => st91 _ kq) ?_
  have hc642 : ¬ ((1 : Int32) = (0 : Int32)) := (by decide)
  refine own_GH.sk 645 [] (fun _ kq => XS.ifNo X91.here hx rfl (hb hby at_642) rfl ((if0 _ _).trans (feq hc642).1) kq) ?_
  refine own_GH.sk 647 [(.ref b34)] (fun _ kq => XS.aload X91.here hx rfl (hb hby at_645) rfl rfl kq) ?_
  refine own_GH.sk 649 [(.ref o), (.ref b34)] (fun _ kq => XS.aload X91.here hx rfl (hb hby at_647) rfl rfl kq) ?_
  refine own_GH.sk 651 [(.int kk), (.ref o), (.ref b34)] (fun _ kq => XS.iload X91.here hx rfl (hb hby at_649) rfl kq) ?_
  refine own_GH.sk 653 [(.int 11), (.int kk), (.ref o), (.ref b34)] (fun _ kq => XS.bipush X91.here hx rfl (hb hby at_651) kq) ?_
  obtain ⟨_, _, ⟨T93, L93, k93, n93⟩, -, X93, ⟨Lc93, hQ93, l93, y93, z93⟩, st93⟩ := Jvm.LawKit.callS X91 hx (y := own_y42) hown (mvT hZ (W_ 230 rfl)) (mvT hZ (W_ 231 rfl)) (mvT hZ (W_ 2 rfl)) (mvT hZ (W_ 232 rfl)) (by decide) (backOf (W := 0) (rm_at l Z a0 hw [] b34 o kk (11 : Int32) csz fm b35 x36 ko cs T32.heap n0 O66 S_CS hcs S_IO hio P41 P42 P43 F70 F62 hk hk12 hcb (by decide)) hZ (W_ 232 rfl) (W_ 2 rfl) (by decide) (by decide)) (g := (mkF m 653 #[iv ln, iv xa, iv xb, iv xc, iv xd, iv po, iv nv, iv ya, iv yb, iv yc, iv yd, iv pp, rv ha, rv sr, iv co, rv o, iv kk, rv b34] [(.int 11), (.int kk), (.ref o), (.ref b34)])) rfl (by rw [hml]; rfl) (argsL := [(.ref b34), (.ref o), (.int kk), (.int 11)]) (rest := []) (lenOf pd__28Ljava_2flang_2fString_3b_5bCII_29Z rfl) rfl (by show 2 * 0 + _ ≤ _; exact Nat.le_of_eq rfl) (hb hby at_653) (fun _ _ => ⟨rfl, P92, (by decide : 21 + 0 ≤ _), (by decide : 150 + 0 ≤ _)⟩)
  dsimp only [Pt.U, Pt.locs, Pt.cells, Pt.slots] at X93 l93 y93 z93 st93 hQ93
  subst l93 y93 z93
  obtain ⟨rfl, Nq93, P94⟩ := hQ93
  have N93 := Fr.app N91 Nq93
  refine own_GH.st (T' := T93) 656 [(.int 1)] (fun _ kq => st93 _ kq) ?_
  have hc656 : ¬ ((1 : Int32) = (0 : Int32)) := (by decide)
  refine own_GH.sk 659 [] (fun _ kq => XS.ifNo X93.here hx rfl (hb hby at_656) rfl ((if0 _ _).trans (feq hc656).1) kq) ?_
  refine own_GH.sk 660 [(.int 1)] (fun _ kq => XS.iconst X93.here hx rfl (hb hby at_659) kq) ?_
  refine own_GH.sk 664 [(.int 1)] (fun _ kq => XS.goto X93.here hx rfl (pc0 := 660) (pc' := 664) rfl (hb hby at_660) (by decide) (by decide) kq) ?_
  exact own_retH X93 hS P94 hkS hZ ew hH hh hR (v := some (.int 1)) (fun h => by rw [Bd.returns] at h; cases h) Bd.notSynchronized ⟨rfl, N93⟩ (by decide) (by decide) (fun fs hr => retN X93 hx (t := .boolean) Bd.returns (by simp) (hb hby at_664) hr)
set_option maxRecDepth 65536 in
set_option maxHeartbeats 40000000 in
theorem rm_law_td (cx : own_Cx_law l Z a0 ws ln xa xb xc xd po csz fm dga cga dgb cgb h0 n0 p e s m below meth c s₁) :
    ∀ (td_T : State) (td_h : Heap) (td_L : List Loc) (td_vm : Vm) (td_k : Nat) (nv : Int32) (ya : Int32) (yb : Int32) (yc : Int32) (yd : Int32) (pp : Int32) (ha : Addr) (sr : Addr) (co : Int32) (o : Addr) (kk : Int32) (u : Addr) (ku : ClassId) (mm : Int32) (ys : List Int32) (ko : ClassId) (cs : List Int32), (Stand p l e room_1 (s.setVm td_vm) m #[(.int ln), (.int xa), (.int xb), (.int xc), (.int xd), (.int po)] below meth c td_T td_L 8 60) → (td_T.heap = td_h) → (s.Since td_vm td_k) → (td_k ≤ td_h.size) → (Z.Warmed39 (s.setVm td_vm).vm) → ((s.setVm td_vm).vm.findClass "com/example/redelivery/redelivery/settings/ListenAddressToStringPinLaw" = some m.cls) → (CHv Z own_EL td_vm td_h) → (CHr Z own_EL s.vm h0 td_vm td_h) → (Old Z n0 td_h) → (Keep h0 td_h []) → (Fr n0 td_L) → (Exa Z td_h sr "java/lang/String") → (Fld Z td_h sr "java/lang/String" "value" "[B" (.ref u)) → (Fld Z td_h sr "java/lang/String" "coder" "B" (.int 0)) → (Arv Z td_h u ku .byte mm (own_B ys) (.int 0)) → (Arv Z td_h o ko .char (12 : Int32) (own_B cs) (.int 0)) → (own_L4 ys mm) → (0 ≤ pp.toInt) → (pp.toInt ≤ 65535) → (kk.toInt = (cs.length : Int)) → (cs.length ≤ 7) → (∀ c ∈ cs, ¬ c < (0 : Int32) ∧ ¬ (255 : Int32) < c) → (cs.map own_by = own_pre ys) → (n0 ≤ o) → (h0.size ≤ o) → (u ≠ o) → (sr ≠ o) → own_GH Z own_EL p e below s 21 150 (Q_law Z ln xa xb xc xd po csz fm dga cga dgb cgb h0 n0) td_T (mkF m 328 #[iv ln, iv xa, iv xb, iv xc, iv xd, iv po, iv nv, iv ya, iv yb, iv yc, iv yd, iv pp, rv ha, rv sr, iv co, rv o, iv kk, .unset] []) := by
  obtain ⟨hw, O0, S_CS, hcs, S_IO, hio, S_D1, TB1, S_D2, TB2, Bd, hml, hh⟩ := id cx
  have W_ : ∀ {d : Jvm.Cond} (i : Nat), tables_1[i]? = some d → d.before a0 Z = true := fun i h => hw _ (List.mem_of_getElem? h)
  have hx := Bd.exec
  have hby := Bd.bytes
  have hnm := (name_of_methodNamed Bd.named Bd.method).1
  have ew := own_EW Z a0 hw
  have hws : ∀ d ∈ StrChars.Road.words, d.before a0 Z = true := fun d hd => hw d (own_hws d hd)
  intro td_T td_h td_L td_vm td_k nv ya yb yc yd pp ha sr co o kk u ku mm ys ko cs td_X td_e hS hkS hZ hown hH hR td_O td_K td_N td_F0 td_F1 td_F2 td_F3 td_F4 hL4 hp0 hp1 hk hk7 hcb hpre go zo uno sno
  refine own_GH.sk 330 [(.int pp)] (fun _ kq => XS.iload td_X.here hx rfl (hb hby at_328) rfl kq) ?_
  refine own_GH.sk 333 [(.int 10000), (.int pp)] (fun _ kq => XS.sipush td_X.here hx rfl (hb hby at_330) kq) ?_
  rcases Classical.em (pp < (10000 : Int32)) with hc333 | hc333
  · have hI333 : pp.toInt < 10000 := (own_lti (by decide)).mp hc333
    refine own_GH.sk 357 [] (fun _ kq => XS.icmpYes td_X.here hx rfl (pc0 := 333) (pc' := 357) rfl (hb hby at_333) rfl (tlt hc333).1 (by decide) (by decide) kq) ?_
    refine own_GH.sk 359 [(.int pp)] (fun _ kq => XS.iload td_X.here hx rfl (hb hby at_357) rfl kq) ?_
    refine own_GH.sk 362 [(.int 1000), (.int pp)] (fun _ kq => XS.sipush td_X.here hx rfl (hb hby at_359) kq) ?_
    rcases Classical.em (pp < (1000 : Int32)) with hc362 | hc362
    · have hI362 : pp.toInt < 1000 := (own_lti (by decide)).mp hc362
      refine own_GH.sk 389 [] (fun _ kq => XS.icmpYes td_X.here hx rfl (pc0 := 362) (pc' := 389) rfl (hb hby at_362) rfl (tlt hc362).1 (by decide) (by decide) kq) ?_
      refine own_GH.sk 391 [(.int pp)] (fun _ kq => XS.iload td_X.here hx rfl (hb hby at_389) rfl kq) ?_
      refine own_GH.sk 393 [(.int 100), (.int pp)] (fun _ kq => XS.bipush td_X.here hx rfl (hb hby at_391) kq) ?_
      rcases Classical.em (pp < (100 : Int32)) with hc393 | hc393
      · have hI393 : pp.toInt < 100 := (own_lti (by decide)).mp hc393
        refine own_GH.sk 419 [] (fun _ kq => XS.icmpYes td_X.here hx rfl (pc0 := 393) (pc' := 419) rfl (hb hby at_393) rfl (tlt hc393).1 (by decide) (by decide) kq) ?_
        refine own_GH.sk 421 [(.int pp)] (fun _ kq => XS.iload td_X.here hx rfl (hb hby at_419) rfl kq) ?_
        refine own_GH.sk 423 [(.int 10), (.int pp)] (fun _ kq => XS.bipush td_X.here hx rfl (hb hby at_421) kq) ?_
        rcases Classical.em (pp < (10 : Int32)) with hc423 | hc423
        · have hI423 : pp.toInt < 10 := (own_lti (by decide)).mp hc423
          refine own_GH.sk 449 [] (fun _ kq => XS.icmpYes td_X.here hx rfl (pc0 := 423) (pc' := 449) rfl (hb hby at_423) rfl (tlt hc423).1 (by decide) (by decide) kq) ?_
          refine own_GH.sk 451 [(.ref o)] (fun _ kq => XS.aload td_X.here hx rfl (hb hby at_449) rfl rfl kq) ?_
          refine own_GH.sk 453 [(.int kk), (.ref o)] (fun _ kq => XS.iload td_X.here hx rfl (hb hby at_451) rfl kq) ?_
          refine own_GH.sk 455 [(.int 48), (.int kk), (.ref o)] (fun _ kq => XS.bipush td_X.here hx rfl (hb hby at_453) kq) ?_
          refine own_GH.sk 457 [(.int pp), (.int 48), (.int kk), (.ref o)] (fun _ kq => XS.iload td_X.here hx rfl (hb hby at_455) rfl kq) ?_
          refine own_GH.sk 459 [(.int 10), (.int pp), (.int 48), (.int kk), (.ref o)] (fun _ kq => XS.bipush td_X.here hx rfl (hb hby at_457) kq) ?_
          refine own_GH.sk 460 [(.int (pp % (10 : Int32))), (.int 48), (.int kk), (.ref o)] (fun _ kq => iremM (g := (mkF m 459 #[iv ln, iv xa, iv xb, iv xc, iv xd, iv po, iv nv, iv ya, iv yb, iv yc, iv yd, iv pp, rv ha, rv sr, iv co, rv o, iv kk, .unset] [(.int 10), (.int pp), (.int 48), (.int kk), (.ref o)])) td_X hx rfl (hb hby at_459) rfl (by decide) kq) ?_
          refine own_GH.sk 461 [(.int ((48 : Int32) + (pp % (10 : Int32)))), (.int kk), (.ref o)] (fun _ kq => XS.iadd td_X.here hx rfl (hb hby at_460) rfl kq) ?_
          refine own_GH.sk 462 [(.int (((48 : Int32) + (pp % (10 : Int32))).toUInt32.toUInt16.toUInt32.toInt32)), (.int kk), (.ref o)] (fun _ kq => XS.i2c td_X.here hx rfl (hb hby at_461) rfl kq) ?_
          have hk96 : (kk + (1 : Int32)).toInt = ((cs ++ [(nar .char (((48 : Int32) + (pp % (10 : Int32))).toUInt32.toUInt16.toUInt32.toInt32))]).length : Int) := own_k1 hk (Nat.le_trans hk7 (by decide))
          have hd97 := own_dchar (own_e1 hp0 hp1) (y := pp.toInt % 10) (own_m10 _).1 (own_m10 _).2
          obtain ⟨cl95, Ar95, -, Sz95, -, -, -⟩ := id td_F4
          obtain ⟨T95, h95, X95, e95, W95, st95⟩ := stC td_X hx hZ td_e Ar95 (j := kk) (inb_of Sz95 (own_in12 hk (Nat.lt_of_le_of_lt hk7 (by decide)))) (g := (mkF m 462 #[iv ln, iv xa, iv xb, iv xc, iv xd, iv po, iv nv, iv ya, iv yb, iv yc, iv yd, iv pp, rv ha, rv sr, iv co, rv o, iv kk, .unset] [(.int (((48 : Int32) + (pp % (10 : Int32))).toUInt32.toUInt16.toUInt32.toInt32)), (.int kk), (.ref o)])) rfl rfl (hb hby at_462)
          have F98 : Arv Z h95 o ko .char (12 : Int32) (own_B (cs ++ [(nar .char (((48 : Int32) + (pp % (10 : Int32))).toUInt32.toUInt16.toUInt32.toInt32))])) (.int 0) := own_pushB td_F4 (fits_nar_char _) W95 hk
          have N95 := Fr.snoc X95 td_N go
          have hkS := Nat.le_trans hkS (Keep.of_wr W95).1
          have hR := hR.trans (CHr.wr W95 (Safe.arv hZ.alike td_F4 (by decide)) hH)
          have hH := CHv.wr W95 (Safe.arv hZ.alike td_F4 (by decide)) hH
          have F99 := td_F0.wr W95
          have F100 := td_F1.other W95 (Or.inl sno)
          have F101 := td_F2.other W95 (Or.inl sno)
          have F102 := td_F3.other W95 uno
          have O104 := td_O.wr W95 go
          have K105 := td_K.wr W95 (Or.inr zo)
          refine own_GH.st (T' := T95) 463 [] st95 ?_
          refine own_GH.sk 465 [(.int kk)] (fun _ kq => XS.iload X95.here hx rfl (hb hby at_463) rfl kq) ?_
          refine own_GH.sk 466 [(.int 1), (.int kk)] (fun _ kq => XS.iconst X95.here hx rfl (hb hby at_465) kq) ?_
          refine own_GH.sk 467 [(.int (kk + (1 : Int32)))] (fun _ kq => XS.iadd X95.here hx rfl (hb hby at_466) rfl kq) ?_
          refine own_GH.si 469 [] (fun _ kq => XS.istore X95.here hx rfl (hb hby at_467) rfl (l' := #[iv ln, iv xa, iv xb, iv xc, iv xd, iv po, iv nv, iv ya, iv yb, iv yc, iv yd, iv pp, rv ha, rv sr, iv co, rv o, .val (.int (kk + (1 : Int32))), .unset]) rfl kq) ?_
          have hfull : ((cs ++ [(nar .char (((48 : Int32) + (pp % (10 : Int32))).toUInt32.toUInt16.toUInt32.toInt32))])).map own_by = (own_pre ys ++ own_dig pp) := by
            rw [own_dig1 hI423]
            exact Eq.trans (own_f1 hpre (hd97.1.trans (congrArg own_dg (own_q5 hp0 hI423)))) (by simp only [List.append_assoc, List.cons_append, List.nil_append])
          exact rm_law_te cx _ _ _ _ _ nv ya yb yc yd pp ha sr co o (kk + (1 : Int32)) u ku mm ys ko (cs ++ [(nar .char (((48 : Int32) + (pp % (10 : Int32))).toUInt32.toUInt16.toUInt32.toInt32))]) (X95.mono (by decide) (by decide)) e95 hS hkS hZ hown hH hR O104 K105 N95 F99 F100 F101 F102 F98 hL4 hp0 hp1 hk96 (Nat.le_trans (own_le1 hk7) (by decide)) (own_c255 hd97.2 hcb) hfull
        · have hI423 : ¬ pp.toInt < 10 := fun q => hc423 ((own_lti (by decide)).mpr q)
          refine own_GH.sk 426 [] (fun _ kq => XS.icmpNo td_X.here hx rfl (hb hby at_423) rfl (flt hc423).1 kq) ?_
          refine own_GH.sk 428 [(.ref o)] (fun _ kq => XS.aload td_X.here hx rfl (hb hby at_426) rfl rfl kq) ?_
          refine own_GH.sk 430 [(.int kk), (.ref o)] (fun _ kq => XS.iload td_X.here hx rfl (hb hby at_428) rfl kq) ?_
          refine own_GH.sk 432 [(.int 48), (.int kk), (.ref o)] (fun _ kq => XS.bipush td_X.here hx rfl (hb hby at_430) kq) ?_
          refine own_GH.sk 434 [(.int pp), (.int 48), (.int kk), (.ref o)] (fun _ kq => XS.iload td_X.here hx rfl (hb hby at_432) rfl kq) ?_
          refine own_GH.sk 436 [(.int 10), (.int pp), (.int 48), (.int kk), (.ref o)] (fun _ kq => XS.bipush td_X.here hx rfl (hb hby at_434) kq) ?_
          refine own_GH.sk 437 [(.int (pp / (10 : Int32))), (.int 48), (.int kk), (.ref o)] (fun _ kq => XS.idiv td_X.here hx rfl (hb hby at_436) rfl (by decide) kq) ?_
          refine own_GH.sk 439 [(.int 10), (.int (pp / (10 : Int32))), (.int 48), (.int kk), (.ref o)] (fun _ kq => XS.bipush td_X.here hx rfl (hb hby at_437) kq) ?_
          refine own_GH.sk 440 [(.int ((pp / (10 : Int32)) % (10 : Int32))), (.int 48), (.int kk), (.ref o)] (fun _ kq => iremM (g := (mkF m 439 #[iv ln, iv xa, iv xb, iv xc, iv xd, iv po, iv nv, iv ya, iv yb, iv yc, iv yd, iv pp, rv ha, rv sr, iv co, rv o, iv kk, .unset] [(.int 10), (.int (pp / (10 : Int32))), (.int 48), (.int kk), (.ref o)])) td_X hx rfl (hb hby at_439) rfl (by decide) kq) ?_
          refine own_GH.sk 441 [(.int ((48 : Int32) + ((pp / (10 : Int32)) % (10 : Int32)))), (.int kk), (.ref o)] (fun _ kq => XS.iadd td_X.here hx rfl (hb hby at_440) rfl kq) ?_
          refine own_GH.sk 442 [(.int (((48 : Int32) + ((pp / (10 : Int32)) % (10 : Int32))).toUInt32.toUInt16.toUInt32.toInt32)), (.int kk), (.ref o)] (fun _ kq => XS.i2c td_X.here hx rfl (hb hby at_441) rfl kq) ?_
          have hk107 : (kk + (1 : Int32)).toInt = ((cs ++ [(nar .char (((48 : Int32) + ((pp / (10 : Int32)) % (10 : Int32))).toUInt32.toUInt16.toUInt32.toInt32))]).length : Int) := own_k1 hk (Nat.le_trans hk7 (by decide))
          have hd108 := own_dchar (own_e2 hp0 hp1) (y := pp.toInt / 10 % 10) (own_m10 _).1 (own_m10 _).2
          obtain ⟨cl106, Ar106, -, Sz106, -, -, -⟩ := id td_F4
          obtain ⟨T106, h106, X106, e106, W106, st106⟩ := stC td_X hx hZ td_e Ar106 (j := kk) (inb_of Sz106 (own_in12 hk (Nat.lt_of_le_of_lt hk7 (by decide)))) (g := (mkF m 442 #[iv ln, iv xa, iv xb, iv xc, iv xd, iv po, iv nv, iv ya, iv yb, iv yc, iv yd, iv pp, rv ha, rv sr, iv co, rv o, iv kk, .unset] [(.int (((48 : Int32) + ((pp / (10 : Int32)) % (10 : Int32))).toUInt32.toUInt16.toUInt32.toInt32)), (.int kk), (.ref o)])) rfl rfl (hb hby at_442)
          have F109 : Arv Z h106 o ko .char (12 : Int32) (own_B (cs ++ [(nar .char (((48 : Int32) + ((pp / (10 : Int32)) % (10 : Int32))).toUInt32.toUInt16.toUInt32.toInt32))])) (.int 0) := own_pushB td_F4 (fits_nar_char _) W106 hk
          have N106 := Fr.snoc X106 td_N go
          have hkS := Nat.le_trans hkS (Keep.of_wr W106).1
          have hR := hR.trans (CHr.wr W106 (Safe.arv hZ.alike td_F4 (by decide)) hH)
          have hH := CHv.wr W106 (Safe.arv hZ.alike td_F4 (by decide)) hH
          have F110 := td_F0.wr W106
          have F111 := td_F1.other W106 (Or.inl sno)
          have F112 := td_F2.other W106 (Or.inl sno)
          have F113 := td_F3.other W106 uno
          have O115 := td_O.wr W106 go
          have K116 := td_K.wr W106 (Or.inr zo)
          refine own_GH.st (T' := T106) 443 [] st106 ?_
          refine own_GH.sk 445 [(.int kk)] (fun _ kq => XS.iload X106.here hx rfl (hb hby at_443) rfl kq) ?_
          refine own_GH.sk 446 [(.int 1), (.int kk)] (fun _ kq => XS.iconst X106.here hx rfl (hb hby at_445) kq) ?_
          refine own_GH.sk 447 [(.int (kk + (1 : Int32)))] (fun _ kq => XS.iadd X106.here hx rfl (hb hby at_446) rfl kq) ?_
          refine own_GH.si 449 [] (fun _ kq => XS.istore X106.here hx rfl (hb hby at_447) rfl (l' := #[iv ln, iv xa, iv xb, iv xc, iv xd, iv po, iv nv, iv ya, iv yb, iv yc, iv yd, iv pp, rv ha, rv sr, iv co, rv o, .val (.int (kk + (1 : Int32))), .unset]) rfl kq) ?_
          refine own_GH.sk 451 [(.ref o)] (fun _ kq => XS.aload X106.here hx rfl (hb hby at_449) rfl rfl kq) ?_
          refine own_GH.sk 453 [(.int (kk + (1 : Int32))), (.ref o)] (fun _ kq => XS.iload X106.here hx rfl (hb hby at_451) rfl kq) ?_
          refine own_GH.sk 455 [(.int 48), (.int (kk + (1 : Int32))), (.ref o)] (fun _ kq => XS.bipush X106.here hx rfl (hb hby at_453) kq) ?_
          refine own_GH.sk 457 [(.int pp), (.int 48), (.int (kk + (1 : Int32))), (.ref o)] (fun _ kq => XS.iload X106.here hx rfl (hb hby at_455) rfl kq) ?_
          refine own_GH.sk 459 [(.int 10), (.int pp), (.int 48), (.int (kk + (1 : Int32))), (.ref o)] (fun _ kq => XS.bipush X106.here hx rfl (hb hby at_457) kq) ?_
          refine own_GH.sk 460 [(.int (pp % (10 : Int32))), (.int 48), (.int (kk + (1 : Int32))), (.ref o)] (fun _ kq => iremM (g := (mkF m 459 #[iv ln, iv xa, iv xb, iv xc, iv xd, iv po, iv nv, iv ya, iv yb, iv yc, iv yd, iv pp, rv ha, rv sr, iv co, rv o, .val (.int (kk + (1 : Int32))), .unset] [(.int 10), (.int pp), (.int 48), (.int (kk + (1 : Int32))), (.ref o)])) X106 hx rfl (hb hby at_459) rfl (by decide) kq) ?_
          refine own_GH.sk 461 [(.int ((48 : Int32) + (pp % (10 : Int32)))), (.int (kk + (1 : Int32))), (.ref o)] (fun _ kq => XS.iadd X106.here hx rfl (hb hby at_460) rfl kq) ?_
          refine own_GH.sk 462 [(.int (((48 : Int32) + (pp % (10 : Int32))).toUInt32.toUInt16.toUInt32.toInt32)), (.int (kk + (1 : Int32))), (.ref o)] (fun _ kq => XS.i2c X106.here hx rfl (hb hby at_461) rfl kq) ?_
          have hk118 : ((kk + (1 : Int32)) + (1 : Int32)).toInt = (((cs ++ [(nar .char (((48 : Int32) + ((pp / (10 : Int32)) % (10 : Int32))).toUInt32.toUInt16.toUInt32.toInt32))]) ++ [(nar .char (((48 : Int32) + (pp % (10 : Int32))).toUInt32.toUInt16.toUInt32.toInt32))]).length : Int) := own_k1 hk107 (Nat.le_trans (own_le1 hk7) (by decide))
          have hd119 := own_dchar (own_e1 hp0 hp1) (y := pp.toInt % 10) (own_m10 _).1 (own_m10 _).2
          obtain ⟨cl117, Ar117, -, Sz117, -, -, -⟩ := id F109
          obtain ⟨T117, h117, X117, e117, W117, st117⟩ := stC X106 hx hZ e106 Ar117 (j := (kk + (1 : Int32))) (inb_of Sz117 (own_in12 hk107 (Nat.lt_of_le_of_lt (own_le1 hk7) (by decide)))) (g := (mkF m 462 #[iv ln, iv xa, iv xb, iv xc, iv xd, iv po, iv nv, iv ya, iv yb, iv yc, iv yd, iv pp, rv ha, rv sr, iv co, rv o, .val (.int (kk + (1 : Int32))), .unset] [(.int (((48 : Int32) + (pp % (10 : Int32))).toUInt32.toUInt16.toUInt32.toInt32)), (.int (kk + (1 : Int32))), (.ref o)])) rfl rfl (hb hby at_462)
          have F120 : Arv Z h117 o ko .char (12 : Int32) (own_B ((cs ++ [(nar .char (((48 : Int32) + ((pp / (10 : Int32)) % (10 : Int32))).toUInt32.toUInt16.toUInt32.toInt32))]) ++ [(nar .char (((48 : Int32) + (pp % (10 : Int32))).toUInt32.toUInt16.toUInt32.toInt32))])) (.int 0) := own_pushB F109 (fits_nar_char _) W117 hk107
          have N117 := Fr.snoc X117 N106 go
          have hkS := Nat.le_trans hkS (Keep.of_wr W117).1
          have hR := hR.trans (CHr.wr W117 (Safe.arv hZ.alike F109 (by decide)) hH)
          have hH := CHv.wr W117 (Safe.arv hZ.alike F109 (by decide)) hH
          have F121 := F110.wr W117
          have F122 := F111.other W117 (Or.inl sno)
          have F123 := F112.other W117 (Or.inl sno)
          have F124 := F113.other W117 uno
          have O126 := O115.wr W117 go
          have K127 := K116.wr W117 (Or.inr zo)
          refine own_GH.st (T' := T117) 463 [] st117 ?_
          refine own_GH.sk 465 [(.int (kk + (1 : Int32)))] (fun _ kq => XS.iload X117.here hx rfl (hb hby at_463) rfl kq) ?_
          refine own_GH.sk 466 [(.int 1), (.int (kk + (1 : Int32)))] (fun _ kq => XS.iconst X117.here hx rfl (hb hby at_465) kq) ?_
          refine own_GH.sk 467 [(.int ((kk + (1 : Int32)) + (1 : Int32)))] (fun _ kq => XS.iadd X117.here hx rfl (hb hby at_466) rfl kq) ?_
          refine own_GH.si 469 [] (fun _ kq => XS.istore X117.here hx rfl (hb hby at_467) rfl (l' := #[iv ln, iv xa, iv xb, iv xc, iv xd, iv po, iv nv, iv ya, iv yb, iv yc, iv yd, iv pp, rv ha, rv sr, iv co, rv o, .val (.int ((kk + (1 : Int32)) + (1 : Int32))), .unset]) rfl kq) ?_
          have hfull : (((cs ++ [(nar .char (((48 : Int32) + ((pp / (10 : Int32)) % (10 : Int32))).toUInt32.toUInt16.toUInt32.toInt32))]) ++ [(nar .char (((48 : Int32) + (pp % (10 : Int32))).toUInt32.toUInt16.toUInt32.toInt32))])).map own_by = (own_pre ys ++ own_dig pp) := by
            rw [own_dig2 hI423 hI393]
            exact Eq.trans (own_f1 (own_f1 hpre (hd108.1.trans (congrArg own_dg (own_t2 hp0 hI393)))) hd119.1) (by simp only [List.append_assoc, List.cons_append, List.nil_append])
          exact rm_law_te cx _ _ _ _ _ nv ya yb yc yd pp ha sr co o ((kk + (1 : Int32)) + (1 : Int32)) u ku mm ys ko ((cs ++ [(nar .char (((48 : Int32) + ((pp / (10 : Int32)) % (10 : Int32))).toUInt32.toUInt16.toUInt32.toInt32))]) ++ [(nar .char (((48 : Int32) + (pp % (10 : Int32))).toUInt32.toUInt16.toUInt32.toInt32))]) (X117.mono (by decide) (by decide)) e117 hS hkS hZ hown hH hR O126 K127 N117 F121 F122 F123 F124 F120 hL4 hp0 hp1 hk118 (Nat.le_trans (own_le1 (own_le1 hk7)) (by decide)) (own_c255 hd119.2 (own_c255 hd108.2 hcb)) hfull
      · have hI393 : ¬ pp.toInt < 100 := fun q => hc393 ((own_lti (by decide)).mpr q)
        refine own_GH.sk 396 [] (fun _ kq => XS.icmpNo td_X.here hx rfl (hb hby at_393) rfl (flt hc393).1 kq) ?_
        refine own_GH.sk 398 [(.ref o)] (fun _ kq => XS.aload td_X.here hx rfl (hb hby at_396) rfl rfl kq) ?_
        refine own_GH.sk 400 [(.int kk), (.ref o)] (fun _ kq => XS.iload td_X.here hx rfl (hb hby at_398) rfl kq) ?_
        refine own_GH.sk 402 [(.int 48), (.int kk), (.ref o)] (fun _ kq => XS.bipush td_X.here hx rfl (hb hby at_400) kq) ?_
        refine own_GH.sk 404 [(.int pp), (.int 48), (.int kk), (.ref o)] (fun _ kq => XS.iload td_X.here hx rfl (hb hby at_402) rfl kq) ?_
        refine own_GH.sk 406 [(.int 100), (.int pp), (.int 48), (.int kk), (.ref o)] (fun _ kq => XS.bipush td_X.here hx rfl (hb hby at_404) kq) ?_
        refine own_GH.sk 407 [(.int (pp / (100 : Int32))), (.int 48), (.int kk), (.ref o)] (fun _ kq => XS.idiv td_X.here hx rfl (hb hby at_406) rfl (by decide) kq) ?_
        refine own_GH.sk 409 [(.int 10), (.int (pp / (100 : Int32))), (.int 48), (.int kk), (.ref o)] (fun _ kq => XS.bipush td_X.here hx rfl (hb hby at_407) kq) ?_
        refine own_GH.sk 410 [(.int ((pp / (100 : Int32)) % (10 : Int32))), (.int 48), (.int kk), (.ref o)] (fun _ kq => iremM (g := (mkF m 409 #[iv ln, iv xa, iv xb, iv xc, iv xd, iv po, iv nv, iv ya, iv yb, iv yc, iv yd, iv pp, rv ha, rv sr, iv co, rv o, iv kk, .unset] [(.int 10), (.int (pp / (100 : Int32))), (.int 48), (.int kk), (.ref o)])) td_X hx rfl (hb hby at_409) rfl (by decide) kq) ?_
        refine own_GH.sk 411 [(.int ((48 : Int32) + ((pp / (100 : Int32)) % (10 : Int32)))), (.int kk), (.ref o)] (fun _ kq => XS.iadd td_X.here hx rfl (hb hby at_410) rfl kq) ?_
        refine own_GH.sk 412 [(.int (((48 : Int32) + ((pp / (100 : Int32)) % (10 : Int32))).toUInt32.toUInt16.toUInt32.toInt32)), (.int kk), (.ref o)] (fun _ kq => XS.i2c td_X.here hx rfl (hb hby at_411) rfl kq) ?_
        have hk129 : (kk + (1 : Int32)).toInt = ((cs ++ [(nar .char (((48 : Int32) + ((pp / (100 : Int32)) % (10 : Int32))).toUInt32.toUInt16.toUInt32.toInt32))]).length : Int) := own_k1 hk (Nat.le_trans hk7 (by decide))
        have hd130 := own_dchar (own_e3 hp0 hp1) (y := pp.toInt / 100 % 10) (own_m10 _).1 (own_m10 _).2
        obtain ⟨cl128, Ar128, -, Sz128, -, -, -⟩ := id td_F4
        obtain ⟨T128, h128, X128, e128, W128, st128⟩ := stC td_X hx hZ td_e Ar128 (j := kk) (inb_of Sz128 (own_in12 hk (Nat.lt_of_le_of_lt hk7 (by decide)))) (g := (mkF m 412 #[iv ln, iv xa, iv xb, iv xc, iv xd, iv po, iv nv, iv ya, iv yb, iv yc, iv yd, iv pp, rv ha, rv sr, iv co, rv o, iv kk, .unset] [(.int (((48 : Int32) + ((pp / (100 : Int32)) % (10 : Int32))).toUInt32.toUInt16.toUInt32.toInt32)), (.int kk), (.ref o)])) rfl rfl (hb hby at_412)
        have F131 : Arv Z h128 o ko .char (12 : Int32) (own_B (cs ++ [(nar .char (((48 : Int32) + ((pp / (100 : Int32)) % (10 : Int32))).toUInt32.toUInt16.toUInt32.toInt32))])) (.int 0) := own_pushB td_F4 (fits_nar_char _) W128 hk
        have N128 := Fr.snoc X128 td_N go
        have hkS := Nat.le_trans hkS (Keep.of_wr W128).1
        have hR := hR.trans (CHr.wr W128 (Safe.arv hZ.alike td_F4 (by decide)) hH)
        have hH := CHv.wr W128 (Safe.arv hZ.alike td_F4 (by decide)) hH
        have F132 := td_F0.wr W128
        have F133 := td_F1.other W128 (Or.inl sno)
        have F134 := td_F2.other W128 (Or.inl sno)
        have F135 := td_F3.other W128 uno
        have O137 := td_O.wr W128 go
        have K138 := td_K.wr W128 (Or.inr zo)
        refine own_GH.st (T' := T128) 413 [] st128 ?_
        refine own_GH.sk 415 [(.int kk)] (fun _ kq => XS.iload X128.here hx rfl (hb hby at_413) rfl kq) ?_
        refine own_GH.sk 416 [(.int 1), (.int kk)] (fun _ kq => XS.iconst X128.here hx rfl (hb hby at_415) kq) ?_
        refine own_GH.sk 417 [(.int (kk + (1 : Int32)))] (fun _ kq => XS.iadd X128.here hx rfl (hb hby at_416) rfl kq) ?_
        refine own_GH.si 419 [] (fun _ kq => XS.istore X128.here hx rfl (hb hby at_417) rfl (l' := #[iv ln, iv xa, iv xb, iv xc, iv xd, iv po, iv nv, iv ya, iv yb, iv yc, iv yd, iv pp, rv ha, rv sr, iv co, rv o, .val (.int (kk + (1 : Int32))), .unset]) rfl kq) ?_
        refine own_GH.sk 421 [(.int pp)] (fun _ kq => XS.iload X128.here hx rfl (hb hby at_419) rfl kq) ?_
        refine own_GH.sk 423 [(.int 10), (.int pp)] (fun _ kq => XS.bipush X128.here hx rfl (hb hby at_421) kq) ?_
        have hc423 : ¬ (pp < (10 : Int32)) := (fun q => own_ge hI393 (by decide) ((own_lti (b := 10) (by decide)).mp q))
        refine own_GH.sk 426 [] (fun _ kq => XS.icmpNo X128.here hx rfl (hb hby at_423) rfl (flt hc423).1 kq) ?_
        refine own_GH.sk 428 [(.ref o)] (fun _ kq => XS.aload X128.here hx rfl (hb hby at_426) rfl rfl kq) ?_
        refine own_GH.sk 430 [(.int (kk + (1 : Int32))), (.ref o)] (fun _ kq => XS.iload X128.here hx rfl (hb hby at_428) rfl kq) ?_
        refine own_GH.sk 432 [(.int 48), (.int (kk + (1 : Int32))), (.ref o)] (fun _ kq => XS.bipush X128.here hx rfl (hb hby at_430) kq) ?_
        refine own_GH.sk 434 [(.int pp), (.int 48), (.int (kk + (1 : Int32))), (.ref o)] (fun _ kq => XS.iload X128.here hx rfl (hb hby at_432) rfl kq) ?_
        refine own_GH.sk 436 [(.int 10), (.int pp), (.int 48), (.int (kk + (1 : Int32))), (.ref o)] (fun _ kq => XS.bipush X128.here hx rfl (hb hby at_434) kq) ?_
        refine own_GH.sk 437 [(.int (pp / (10 : Int32))), (.int 48), (.int (kk + (1 : Int32))), (.ref o)] (fun _ kq => XS.idiv X128.here hx rfl (hb hby at_436) rfl (by decide) kq) ?_
        refine own_GH.sk 439 [(.int 10), (.int (pp / (10 : Int32))), (.int 48), (.int (kk + (1 : Int32))), (.ref o)] (fun _ kq => XS.bipush X128.here hx rfl (hb hby at_437) kq) ?_
        refine own_GH.sk 440 [(.int ((pp / (10 : Int32)) % (10 : Int32))), (.int 48), (.int (kk + (1 : Int32))), (.ref o)] (fun _ kq => iremM (g := (mkF m 439 #[iv ln, iv xa, iv xb, iv xc, iv xd, iv po, iv nv, iv ya, iv yb, iv yc, iv yd, iv pp, rv ha, rv sr, iv co, rv o, .val (.int (kk + (1 : Int32))), .unset] [(.int 10), (.int (pp / (10 : Int32))), (.int 48), (.int (kk + (1 : Int32))), (.ref o)])) X128 hx rfl (hb hby at_439) rfl (by decide) kq) ?_
        refine own_GH.sk 441 [(.int ((48 : Int32) + ((pp / (10 : Int32)) % (10 : Int32)))), (.int (kk + (1 : Int32))), (.ref o)] (fun _ kq => XS.iadd X128.here hx rfl (hb hby at_440) rfl kq) ?_
        refine own_GH.sk 442 [(.int (((48 : Int32) + ((pp / (10 : Int32)) % (10 : Int32))).toUInt32.toUInt16.toUInt32.toInt32)), (.int (kk + (1 : Int32))), (.ref o)] (fun _ kq => XS.i2c X128.here hx rfl (hb hby at_441) rfl kq) ?_
        have hk140 : ((kk + (1 : Int32)) + (1 : Int32)).toInt = (((cs ++ [(nar .char (((48 : Int32) + ((pp / (100 : Int32)) % (10 : Int32))).toUInt32.toUInt16.toUInt32.toInt32))]) ++ [(nar .char (((48 : Int32) + ((pp / (10 : Int32)) % (10 : Int32))).toUInt32.toUInt16.toUInt32.toInt32))]).length : Int) := own_k1 hk129 (Nat.le_trans (own_le1 hk7) (by decide))
        have hd141 := own_dchar (own_e2 hp0 hp1) (y := pp.toInt / 10 % 10) (own_m10 _).1 (own_m10 _).2
        obtain ⟨cl139, Ar139, -, Sz139, -, -, -⟩ := id F131
        obtain ⟨T139, h139, X139, e139, W139, st139⟩ := stC X128 hx hZ e128 Ar139 (j := (kk + (1 : Int32))) (inb_of Sz139 (own_in12 hk129 (Nat.lt_of_le_of_lt (own_le1 hk7) (by decide)))) (g := (mkF m 442 #[iv ln, iv xa, iv xb, iv xc, iv xd, iv po, iv nv, iv ya, iv yb, iv yc, iv yd, iv pp, rv ha, rv sr, iv co, rv o, .val (.int (kk + (1 : Int32))), .unset] [(.int (((48 : Int32) + ((pp / (10 : Int32)) % (10 : Int32))).toUInt32.toUInt16.toUInt32.toInt32)), (.int (kk + (1 : Int32))), (.ref o)])) rfl rfl (hb hby at_442)
        have F142 : Arv Z h139 o ko .char (12 : Int32) (own_B ((cs ++ [(nar .char (((48 : Int32) + ((pp / (100 : Int32)) % (10 : Int32))).toUInt32.toUInt16.toUInt32.toInt32))]) ++ [(nar .char (((48 : Int32) + ((pp / (10 : Int32)) % (10 : Int32))).toUInt32.toUInt16.toUInt32.toInt32))])) (.int 0) := own_pushB F131 (fits_nar_char _) W139 hk129
        have N139 := Fr.snoc X139 N128 go
        have hkS := Nat.le_trans hkS (Keep.of_wr W139).1
        have hR := hR.trans (CHr.wr W139 (Safe.arv hZ.alike F131 (by decide)) hH)
        have hH := CHv.wr W139 (Safe.arv hZ.alike F131 (by decide)) hH
        have F143 := F132.wr W139
        have F144 := F133.other W139 (Or.inl sno)
        have F145 := F134.other W139 (Or.inl sno)
        have F146 := F135.other W139 uno
        have O148 := O137.wr W139 go
        have K149 := K138.wr W139 (Or.inr zo)
        refine own_GH.st (T' := T139) 443 [] st139 ?_
        refine own_GH.sk 445 [(.int (kk + (1 : Int32)))] (fun _ kq => XS.iload X139.here hx rfl (hb hby at_443) rfl kq) ?_
        refine own_GH.sk 446 [(.int 1), (.int (kk + (1 : Int32)))] (fun _ kq => XS.iconst X139.here hx rfl (hb hby at_445) kq) ?_
        refine own_GH.sk 447 [(.int ((kk + (1 : Int32)) + (1 : Int32)))] (fun _ kq => XS.iadd X139.here hx rfl (hb hby at_446) rfl kq) ?_
        refine own_GH.si 449 [] (fun _ kq => XS.istore X139.here hx rfl (hb hby at_447) rfl (l' := #[iv ln, iv xa, iv xb, iv xc, iv xd, iv po, iv nv, iv ya, iv yb, iv yc, iv yd, iv pp, rv ha, rv sr, iv co, rv o, .val (.int ((kk + (1 : Int32)) + (1 : Int32))), .unset]) rfl kq) ?_
        refine own_GH.sk 451 [(.ref o)] (fun _ kq => XS.aload X139.here hx rfl (hb hby at_449) rfl rfl kq) ?_
        refine own_GH.sk 453 [(.int ((kk + (1 : Int32)) + (1 : Int32))), (.ref o)] (fun _ kq => XS.iload X139.here hx rfl (hb hby at_451) rfl kq) ?_
        refine own_GH.sk 455 [(.int 48), (.int ((kk + (1 : Int32)) + (1 : Int32))), (.ref o)] (fun _ kq => XS.bipush X139.here hx rfl (hb hby at_453) kq) ?_
        refine own_GH.sk 457 [(.int pp), (.int 48), (.int ((kk + (1 : Int32)) + (1 : Int32))), (.ref o)] (fun _ kq => XS.iload X139.here hx rfl (hb hby at_455) rfl kq) ?_
        refine own_GH.sk 459 [(.int 10), (.int pp), (.int 48), (.int ((kk + (1 : Int32)) + (1 : Int32))), (.ref o)] (fun _ kq => XS.bipush X139.here hx rfl (hb hby at_457) kq) ?_
        refine own_GH.sk 460 [(.int (pp % (10 : Int32))), (.int 48), (.int ((kk + (1 : Int32)) + (1 : Int32))), (.ref o)] (fun _ kq => iremM (g := (mkF m 459 #[iv ln, iv xa, iv xb, iv xc, iv xd, iv po, iv nv, iv ya, iv yb, iv yc, iv yd, iv pp, rv ha, rv sr, iv co, rv o, .val (.int ((kk + (1 : Int32)) + (1 : Int32))), .unset] [(.int 10), (.int pp), (.int 48), (.int ((kk + (1 : Int32)) + (1 : Int32))), (.ref o)])) X139 hx rfl (hb hby at_459) rfl (by decide) kq) ?_
        refine own_GH.sk 461 [(.int ((48 : Int32) + (pp % (10 : Int32)))), (.int ((kk + (1 : Int32)) + (1 : Int32))), (.ref o)] (fun _ kq => XS.iadd X139.here hx rfl (hb hby at_460) rfl kq) ?_
        refine own_GH.sk 462 [(.int (((48 : Int32) + (pp % (10 : Int32))).toUInt32.toUInt16.toUInt32.toInt32)), (.int ((kk + (1 : Int32)) + (1 : Int32))), (.ref o)] (fun _ kq => XS.i2c X139.here hx rfl (hb hby at_461) rfl kq) ?_
        have hk151 : (((kk + (1 : Int32)) + (1 : Int32)) + (1 : Int32)).toInt = ((((cs ++ [(nar .char (((48 : Int32) + ((pp / (100 : Int32)) % (10 : Int32))).toUInt32.toUInt16.toUInt32.toInt32))]) ++ [(nar .char (((48 : Int32) + ((pp / (10 : Int32)) % (10 : Int32))).toUInt32.toUInt16.toUInt32.toInt32))]) ++ [(nar .char (((48 : Int32) + (pp % (10 : Int32))).toUInt32.toUInt16.toUInt32.toInt32))]).length : Int) := own_k1 hk140 (Nat.le_trans (own_le1 (own_le1 hk7)) (by decide))
        have hd152 := own_dchar (own_e1 hp0 hp1) (y := pp.toInt % 10) (own_m10 _).1 (own_m10 _).2
        obtain ⟨cl150, Ar150, -, Sz150, -, -, -⟩ := id F142
        obtain ⟨T150, h150, X150, e150, W150, st150⟩ := stC X139 hx hZ e139 Ar150 (j := ((kk + (1 : Int32)) + (1 : Int32))) (inb_of Sz150 (own_in12 hk140 (Nat.lt_of_le_of_lt (own_le1 (own_le1 hk7)) (by decide)))) (g := (mkF m 462 #[iv ln, iv xa, iv xb, iv xc, iv xd, iv po, iv nv, iv ya, iv yb, iv yc, iv yd, iv pp, rv ha, rv sr, iv co, rv o, .val (.int ((kk + (1 : Int32)) + (1 : Int32))), .unset] [(.int (((48 : Int32) + (pp % (10 : Int32))).toUInt32.toUInt16.toUInt32.toInt32)), (.int ((kk + (1 : Int32)) + (1 : Int32))), (.ref o)])) rfl rfl (hb hby at_462)
        have F153 : Arv Z h150 o ko .char (12 : Int32) (own_B (((cs ++ [(nar .char (((48 : Int32) + ((pp / (100 : Int32)) % (10 : Int32))).toUInt32.toUInt16.toUInt32.toInt32))]) ++ [(nar .char (((48 : Int32) + ((pp / (10 : Int32)) % (10 : Int32))).toUInt32.toUInt16.toUInt32.toInt32))]) ++ [(nar .char (((48 : Int32) + (pp % (10 : Int32))).toUInt32.toUInt16.toUInt32.toInt32))])) (.int 0) := own_pushB F142 (fits_nar_char _) W150 hk140
        have N150 := Fr.snoc X150 N139 go
        have hkS := Nat.le_trans hkS (Keep.of_wr W150).1
        have hR := hR.trans (CHr.wr W150 (Safe.arv hZ.alike F142 (by decide)) hH)
        have hH := CHv.wr W150 (Safe.arv hZ.alike F142 (by decide)) hH
        have F154 := F143.wr W150
        have F155 := F144.other W150 (Or.inl sno)
        have F156 := F145.other W150 (Or.inl sno)
        have F157 := F146.other W150 uno
        have O159 := O148.wr W150 go
        have K160 := K149.wr W150 (Or.inr zo)
        refine own_GH.st (T' := T150) 463 [] st150 ?_
        refine own_GH.sk 465 [(.int ((kk + (1 : Int32)) + (1 : Int32)))] (fun _ kq => XS.iload X150.here hx rfl (hb hby at_463) rfl kq) ?_
        refine own_GH.sk 466 [(.int 1), (.int ((kk + (1 : Int32)) + (1 : Int32)))] (fun _ kq => XS.iconst X150.here hx rfl (hb hby at_465) kq) ?_
        refine own_GH.sk 467 [(.int (((kk + (1 : Int32)) + (1 : Int32)) + (1 : Int32)))] (fun _ kq => XS.iadd X150.here hx rfl (hb hby at_466) rfl kq) ?_
        refine own_GH.si 469 [] (fun _ kq => XS.istore X150.here hx rfl (hb hby at_467) rfl (l' := #[iv ln, iv xa, iv xb, iv xc, iv xd, iv po, iv nv, iv ya, iv yb, iv yc, iv yd, iv pp, rv ha, rv sr, iv co, rv o, .val (.int (((kk + (1 : Int32)) + (1 : Int32)) + (1 : Int32))), .unset]) rfl kq) ?_
        have hfull : ((((cs ++ [(nar .char (((48 : Int32) + ((pp / (100 : Int32)) % (10 : Int32))).toUInt32.toUInt16.toUInt32.toInt32))]) ++ [(nar .char (((48 : Int32) + ((pp / (10 : Int32)) % (10 : Int32))).toUInt32.toUInt16.toUInt32.toInt32))]) ++ [(nar .char (((48 : Int32) + (pp % (10 : Int32))).toUInt32.toUInt16.toUInt32.toInt32))])).map own_by = (own_pre ys ++ own_dig pp) := by
          rw [own_dig3 hI393 hI362]
          exact Eq.trans (own_f1 (own_f1 (own_f1 hpre (hd130.1.trans (congrArg own_dg (own_t3 hp0 hI362)))) hd141.1) hd152.1) (by simp only [List.append_assoc, List.cons_append, List.nil_append])
        exact rm_law_te cx _ _ _ _ _ nv ya yb yc yd pp ha sr co o (((kk + (1 : Int32)) + (1 : Int32)) + (1 : Int32)) u ku mm ys ko (((cs ++ [(nar .char (((48 : Int32) + ((pp / (100 : Int32)) % (10 : Int32))).toUInt32.toUInt16.toUInt32.toInt32))]) ++ [(nar .char (((48 : Int32) + ((pp / (10 : Int32)) % (10 : Int32))).toUInt32.toUInt16.toUInt32.toInt32))]) ++ [(nar .char (((48 : Int32) + (pp % (10 : Int32))).toUInt32.toUInt16.toUInt32.toInt32))]) (X150.mono (by decide) (by decide)) e150 hS hkS hZ hown hH hR O159 K160 N150 F154 F155 F156 F157 F153 hL4 hp0 hp1 hk151 (Nat.le_trans (own_le1 (own_le1 (own_le1 hk7))) (by decide)) (own_c255 hd152.2 (own_c255 hd141.2 (own_c255 hd130.2 hcb))) hfull
    · have hI362 : ¬ pp.toInt < 1000 := fun q => hc362 ((own_lti (by decide)).mpr q)
      refine own_GH.sk 365 [] (fun _ kq => XS.icmpNo td_X.here hx rfl (hb hby at_362) rfl (flt hc362).1 kq) ?_
      refine own_GH.sk 367 [(.ref o)] (fun _ kq => XS.aload td_X.here hx rfl (hb hby at_365) rfl rfl kq) ?_
      refine own_GH.sk 369 [(.int kk), (.ref o)] (fun _ kq => XS.iload td_X.here hx rfl (hb hby at_367) rfl kq) ?_
      refine own_GH.sk 371 [(.int 48), (.int kk), (.ref o)] (fun _ kq => XS.bipush td_X.here hx rfl (hb hby at_369) kq) ?_
      refine own_GH.sk 373 [(.int pp), (.int 48), (.int kk), (.ref o)] (fun _ kq => XS.iload td_X.here hx rfl (hb hby at_371) rfl kq) ?_
      refine own_GH.sk 376 [(.int 1000), (.int pp), (.int 48), (.int kk), (.ref o)] (fun _ kq => XS.sipush td_X.here hx rfl (hb hby at_373) kq) ?_
      refine own_GH.sk 377 [(.int (pp / (1000 : Int32))), (.int 48), (.int kk), (.ref o)] (fun _ kq => XS.idiv td_X.here hx rfl (hb hby at_376) rfl (by decide) kq) ?_
      refine own_GH.sk 379 [(.int 10), (.int (pp / (1000 : Int32))), (.int 48), (.int kk), (.ref o)] (fun _ kq => XS.bipush td_X.here hx rfl (hb hby at_377) kq) ?_
      refine own_GH.sk 380 [(.int ((pp / (1000 : Int32)) % (10 : Int32))), (.int 48), (.int kk), (.ref o)] (fun _ kq => iremM (g := (mkF m 379 #[iv ln, iv xa, iv xb, iv xc, iv xd, iv po, iv nv, iv ya, iv yb, iv yc, iv yd, iv pp, rv ha, rv sr, iv co, rv o, iv kk, .unset] [(.int 10), (.int (pp / (1000 : Int32))), (.int 48), (.int kk), (.ref o)])) td_X hx rfl (hb hby at_379) rfl (by decide) kq) ?_
      refine own_GH.sk 381 [(.int ((48 : Int32) + ((pp / (1000 : Int32)) % (10 : Int32)))), (.int kk), (.ref o)] (fun _ kq => XS.iadd td_X.here hx rfl (hb hby at_380) rfl kq) ?_
      refine own_GH.sk 382 [(.int (((48 : Int32) + ((pp / (1000 : Int32)) % (10 : Int32))).toUInt32.toUInt16.toUInt32.toInt32)), (.int kk), (.ref o)] (fun _ kq => XS.i2c td_X.here hx rfl (hb hby at_381) rfl kq) ?_
      have hk162 : (kk + (1 : Int32)).toInt = ((cs ++ [(nar .char (((48 : Int32) + ((pp / (1000 : Int32)) % (10 : Int32))).toUInt32.toUInt16.toUInt32.toInt32))]).length : Int) := own_k1 hk (Nat.le_trans hk7 (by decide))
      have hd163 := own_dchar (own_e4 hp0 hp1) (y := pp.toInt / 1000 % 10) (own_m10 _).1 (own_m10 _).2
      obtain ⟨cl161, Ar161, -, Sz161, -, -, -⟩ := id td_F4
      obtain ⟨T161, h161, X161, e161, W161, st161⟩ := stC td_X hx hZ td_e Ar161 (j := kk) (inb_of Sz161 (own_in12 hk (Nat.lt_of_le_of_lt hk7 (by decide)))) (g := (mkF m 382 #[iv ln, iv xa, iv xb, iv xc, iv xd, iv po, iv nv, iv ya, iv yb, iv yc, iv yd, iv pp, rv ha, rv sr, iv co, rv o, iv kk, .unset] [(.int (((48 : Int32) + ((pp / (1000 : Int32)) % (10 : Int32))).toUInt32.toUInt16.toUInt32.toInt32)), (.int kk), (.ref o)])) rfl rfl (hb hby at_382)
      have F164 : Arv Z h161 o ko .char (12 : Int32) (own_B (cs ++ [(nar .char (((48 : Int32) + ((pp / (1000 : Int32)) % (10 : Int32))).toUInt32.toUInt16.toUInt32.toInt32))])) (.int 0) := own_pushB td_F4 (fits_nar_char _) W161 hk
      have N161 := Fr.snoc X161 td_N go
      have hkS := Nat.le_trans hkS (Keep.of_wr W161).1
      have hR := hR.trans (CHr.wr W161 (Safe.arv hZ.alike td_F4 (by decide)) hH)
      have hH := CHv.wr W161 (Safe.arv hZ.alike td_F4 (by decide)) hH
      have F165 := td_F0.wr W161
      have F166 := td_F1.other W161 (Or.inl sno)
      have F167 := td_F2.other W161 (Or.inl sno)
      have F168 := td_F3.other W161 uno
      have O170 := td_O.wr W161 go
      have K171 := td_K.wr W161 (Or.inr zo)
      refine own_GH.st (T' := T161) 383 [] st161 ?_
      refine own_GH.sk 385 [(.int kk)] (fun _ kq => XS.iload X161.here hx rfl (hb hby at_383) rfl kq) ?_
      refine own_GH.sk 386 [(.int 1), (.int kk)] (fun _ kq => XS.iconst X161.here hx rfl (hb hby at_385) kq) ?_
      refine own_GH.sk 387 [(.int (kk + (1 : Int32)))] (fun _ kq => XS.iadd X161.here hx rfl (hb hby at_386) rfl kq) ?_
      refine own_GH.si 389 [] (fun _ kq => XS.istore X161.here hx rfl (hb hby at_387) rfl (l' := #[iv ln, iv xa, iv xb, iv xc, iv xd, iv po, iv nv, iv ya, iv yb, iv yc, iv yd, iv pp, rv ha, rv sr, iv co, rv o, .val (.int (kk + (1 : Int32))), .unset]) rfl kq) ?_
      refine own_GH.sk 391 [(.int pp)] (fun _ kq => XS.iload X161.here hx rfl (hb hby at_389) rfl kq) ?_
      refine own_GH.sk 393 [(.int 100), (.int pp)] (fun _ kq => XS.bipush X161.here hx rfl (hb hby at_391) kq) ?_
      have hc393 : ¬ (pp < (100 : Int32)) := (fun q => own_ge hI362 (by decide) ((own_lti (b := 100) (by decide)).mp q))
      refine own_GH.sk 396 [] (fun _ kq => XS.icmpNo X161.here hx rfl (hb hby at_393) rfl (flt hc393).1 kq) ?_
      refine own_GH.sk 398 [(.ref o)] (fun _ kq => XS.aload X161.here hx rfl (hb hby at_396) rfl rfl kq) ?_
      refine own_GH.sk 400 [(.int (kk + (1 : Int32))), (.ref o)] (fun _ kq => XS.iload X161.here hx rfl (hb hby at_398) rfl kq) ?_
      refine own_GH.sk 402 [(.int 48), (.int (kk + (1 : Int32))), (.ref o)] (fun _ kq => XS.bipush X161.here hx rfl (hb hby at_400) kq) ?_
      refine own_GH.sk 404 [(.int pp), (.int 48), (.int (kk + (1 : Int32))), (.ref o)] (fun _ kq => XS.iload X161.here hx rfl (hb hby at_402) rfl kq) ?_
      refine own_GH.sk 406 [(.int 100), (.int pp), (.int 48), (.int (kk + (1 : Int32))), (.ref o)] (fun _ kq => XS.bipush X161.here hx rfl (hb hby at_404) kq) ?_
      refine own_GH.sk 407 [(.int (pp / (100 : Int32))), (.int 48), (.int (kk + (1 : Int32))), (.ref o)] (fun _ kq => XS.idiv X161.here hx rfl (hb hby at_406) rfl (by decide) kq) ?_
      refine own_GH.sk 409 [(.int 10), (.int (pp / (100 : Int32))), (.int 48), (.int (kk + (1 : Int32))), (.ref o)] (fun _ kq => XS.bipush X161.here hx rfl (hb hby at_407) kq) ?_
      refine own_GH.sk 410 [(.int ((pp / (100 : Int32)) % (10 : Int32))), (.int 48), (.int (kk + (1 : Int32))), (.ref o)] (fun _ kq => iremM (g := (mkF m 409 #[iv ln, iv xa, iv xb, iv xc, iv xd, iv po, iv nv, iv ya, iv yb, iv yc, iv yd, iv pp, rv ha, rv sr, iv co, rv o, .val (.int (kk + (1 : Int32))), .unset] [(.int 10), (.int (pp / (100 : Int32))), (.int 48), (.int (kk + (1 : Int32))), (.ref o)])) X161 hx rfl (hb hby at_409) rfl (by decide) kq) ?_
      refine own_GH.sk 411 [(.int ((48 : Int32) + ((pp / (100 : Int32)) % (10 : Int32)))), (.int (kk + (1 : Int32))), (.ref o)] (fun _ kq => XS.iadd X161.here hx rfl (hb hby at_410) rfl kq) ?_
      refine own_GH.sk 412 [(.int (((48 : Int32) + ((pp / (100 : Int32)) % (10 : Int32))).toUInt32.toUInt16.toUInt32.toInt32)), (.int (kk + (1 : Int32))), (.ref o)] (fun _ kq => XS.i2c X161.here hx rfl (hb hby at_411) rfl kq) ?_
      have hk173 : ((kk + (1 : Int32)) + (1 : Int32)).toInt = (((cs ++ [(nar .char (((48 : Int32) + ((pp / (1000 : Int32)) % (10 : Int32))).toUInt32.toUInt16.toUInt32.toInt32))]) ++ [(nar .char (((48 : Int32) + ((pp / (100 : Int32)) % (10 : Int32))).toUInt32.toUInt16.toUInt32.toInt32))]).length : Int) := own_k1 hk162 (Nat.le_trans (own_le1 hk7) (by decide))
      have hd174 := own_dchar (own_e3 hp0 hp1) (y := pp.toInt / 100 % 10) (own_m10 _).1 (own_m10 _).2
      obtain ⟨cl172, Ar172, -, Sz172, -, -, -⟩ := id F164
      obtain ⟨T172, h172, X172, e172, W172, st172⟩ := stC X161 hx hZ e161 Ar172 (j := (kk + (1 : Int32))) (inb_of Sz172 (own_in12 hk162 (Nat.lt_of_le_of_lt (own_le1 hk7) (by decide)))) (g := (mkF m 412 #[iv ln, iv xa, iv xb, iv xc, iv xd, iv po, iv nv, iv ya, iv yb, iv yc, iv yd, iv pp, rv ha, rv sr, iv co, rv o, .val (.int (kk + (1 : Int32))), .unset] [(.int (((48 : Int32) + ((pp / (100 : Int32)) % (10 : Int32))).toUInt32.toUInt16.toUInt32.toInt32)), (.int (kk + (1 : Int32))), (.ref o)])) rfl rfl (hb hby at_412)
      have F175 : Arv Z h172 o ko .char (12 : Int32) (own_B ((cs ++ [(nar .char (((48 : Int32) + ((pp / (1000 : Int32)) % (10 : Int32))).toUInt32.toUInt16.toUInt32.toInt32))]) ++ [(nar .char (((48 : Int32) + ((pp / (100 : Int32)) % (10 : Int32))).toUInt32.toUInt16.toUInt32.toInt32))])) (.int 0) := own_pushB F164 (fits_nar_char _) W172 hk162
      have N172 := Fr.snoc X172 N161 go
      have hkS := Nat.le_trans hkS (Keep.of_wr W172).1
      have hR := hR.trans (CHr.wr W172 (Safe.arv hZ.alike F164 (by decide)) hH)
      have hH := CHv.wr W172 (Safe.arv hZ.alike F164 (by decide)) hH
      have F176 := F165.wr W172
      have F177 := F166.other W172 (Or.inl sno)
      have F178 := F167.other W172 (Or.inl sno)
      have F179 := F168.other W172 uno
      have O181 := O170.wr W172 go
      have K182 := K171.wr W172 (Or.inr zo)
      refine own_GH.st (T' := T172) 413 [] st172 ?_
      refine own_GH.sk 415 [(.int (kk + (1 : Int32)))] (fun _ kq => XS.iload X172.here hx rfl (hb hby at_413) rfl kq) ?_
      refine own_GH.sk 416 [(.int 1), (.int (kk + (1 : Int32)))] (fun _ kq => XS.iconst X172.here hx rfl (hb hby at_415) kq) ?_
      refine own_GH.sk 417 [(.int ((kk + (1 : Int32)) + (1 : Int32)))] (fun _ kq => XS.iadd X172.here hx rfl (hb hby at_416) rfl kq) ?_
      refine own_GH.si 419 [] (fun _ kq => XS.istore X172.here hx rfl (hb hby at_417) rfl (l' := #[iv ln, iv xa, iv xb, iv xc, iv xd, iv po, iv nv, iv ya, iv yb, iv yc, iv yd, iv pp, rv ha, rv sr, iv co, rv o, .val (.int ((kk + (1 : Int32)) + (1 : Int32))), .unset]) rfl kq) ?_
      refine own_GH.sk 421 [(.int pp)] (fun _ kq => XS.iload X172.here hx rfl (hb hby at_419) rfl kq) ?_
      refine own_GH.sk 423 [(.int 10), (.int pp)] (fun _ kq => XS.bipush X172.here hx rfl (hb hby at_421) kq) ?_
      have hc423 : ¬ (pp < (10 : Int32)) := (fun q => own_ge hI362 (by decide) ((own_lti (b := 10) (by decide)).mp q))
      refine own_GH.sk 426 [] (fun _ kq => XS.icmpNo X172.here hx rfl (hb hby at_423) rfl (flt hc423).1 kq) ?_
      refine own_GH.sk 428 [(.ref o)] (fun _ kq => XS.aload X172.here hx rfl (hb hby at_426) rfl rfl kq) ?_
      refine own_GH.sk 430 [(.int ((kk + (1 : Int32)) + (1 : Int32))), (.ref o)] (fun _ kq => XS.iload X172.here hx rfl (hb hby at_428) rfl kq) ?_
      refine own_GH.sk 432 [(.int 48), (.int ((kk + (1 : Int32)) + (1 : Int32))), (.ref o)] (fun _ kq => XS.bipush X172.here hx rfl (hb hby at_430) kq) ?_
      refine own_GH.sk 434 [(.int pp), (.int 48), (.int ((kk + (1 : Int32)) + (1 : Int32))), (.ref o)] (fun _ kq => XS.iload X172.here hx rfl (hb hby at_432) rfl kq) ?_
      refine own_GH.sk 436 [(.int 10), (.int pp), (.int 48), (.int ((kk + (1 : Int32)) + (1 : Int32))), (.ref o)] (fun _ kq => XS.bipush X172.here hx rfl (hb hby at_434) kq) ?_
      refine own_GH.sk 437 [(.int (pp / (10 : Int32))), (.int 48), (.int ((kk + (1 : Int32)) + (1 : Int32))), (.ref o)] (fun _ kq => XS.idiv X172.here hx rfl (hb hby at_436) rfl (by decide) kq) ?_
      refine own_GH.sk 439 [(.int 10), (.int (pp / (10 : Int32))), (.int 48), (.int ((kk + (1 : Int32)) + (1 : Int32))), (.ref o)] (fun _ kq => XS.bipush X172.here hx rfl (hb hby at_437) kq) ?_
      refine own_GH.sk 440 [(.int ((pp / (10 : Int32)) % (10 : Int32))), (.int 48), (.int ((kk + (1 : Int32)) + (1 : Int32))), (.ref o)] (fun _ kq => iremM (g := (mkF m 439 #[iv ln, iv xa, iv xb, iv xc, iv xd, iv po, iv nv, iv ya, iv yb, iv yc, iv yd, iv pp, rv ha, rv sr, iv co, rv o, .val (.int ((kk + (1 : Int32)) + (1 : Int32))), .unset] [(.int 10), (.int (pp / (10 : Int32))), (.int 48), (.int ((kk + (1 : Int32)) + (1 : Int32))), (.ref o)])) X172 hx rfl (hb hby at_439) rfl (by decide) kq) ?_
      refine own_GH.sk 441 [(.int ((48 : Int32) + ((pp / (10 : Int32)) % (10 : Int32)))), (.int ((kk + (1 : Int32)) + (1 : Int32))), (.ref o)] (fun _ kq => XS.iadd X172.here hx rfl (hb hby at_440) rfl kq) ?_
      refine own_GH.sk 442 [(.int (((48 : Int32) + ((pp / (10 : Int32)) % (10 : Int32))).toUInt32.toUInt16.toUInt32.toInt32)), (.int ((kk + (1 : Int32)) + (1 : Int32))), (.ref o)] (fun _ kq => XS.i2c X172.here hx rfl (hb hby at_441) rfl kq) ?_
      have hk184 : (((kk + (1 : Int32)) + (1 : Int32)) + (1 : Int32)).toInt = ((((cs ++ [(nar .char (((48 : Int32) + ((pp / (1000 : Int32)) % (10 : Int32))).toUInt32.toUInt16.toUInt32.toInt32))]) ++ [(nar .char (((48 : Int32) + ((pp / (100 : Int32)) % (10 : Int32))).toUInt32.toUInt16.toUInt32.toInt32))]) ++ [(nar .char (((48 : Int32) + ((pp / (10 : Int32)) % (10 : Int32))).toUInt32.toUInt16.toUInt32.toInt32))]).length : Int) := own_k1 hk173 (Nat.le_trans (own_le1 (own_le1 hk7)) (by decide))
      have hd185 := own_dchar (own_e2 hp0 hp1) (y := pp.toInt / 10 % 10) (own_m10 _).1 (own_m10 _).2
      obtain ⟨cl183, Ar183, -, Sz183, -, -, -⟩ := id F175
      obtain ⟨T183, h183, X183, e183, W183, st183⟩ := stC X172 hx hZ e172 Ar183 (j := ((kk + (1 : Int32)) + (1 : Int32))) (inb_of Sz183 (own_in12 hk173 (Nat.lt_of_le_of_lt (own_le1 (own_le1 hk7)) (by decide)))) (g := (mkF m 442 #[iv ln, iv xa, iv xb, iv xc, iv xd, iv po, iv nv, iv ya, iv yb, iv yc, iv yd, iv pp, rv ha, rv sr, iv co, rv o, .val (.int ((kk + (1 : Int32)) + (1 : Int32))), .unset] [(.int (((48 : Int32) + ((pp / (10 : Int32)) % (10 : Int32))).toUInt32.toUInt16.toUInt32.toInt32)), (.int ((kk + (1 : Int32)) + (1 : Int32))), (.ref o)])) rfl rfl (hb hby at_442)
      have F186 : Arv Z h183 o ko .char (12 : Int32) (own_B (((cs ++ [(nar .char (((48 : Int32) + ((pp / (1000 : Int32)) % (10 : Int32))).toUInt32.toUInt16.toUInt32.toInt32))]) ++ [(nar .char (((48 : Int32) + ((pp / (100 : Int32)) % (10 : Int32))).toUInt32.toUInt16.toUInt32.toInt32))]) ++ [(nar .char (((48 : Int32) + ((pp / (10 : Int32)) % (10 : Int32))).toUInt32.toUInt16.toUInt32.toInt32))])) (.int 0) := own_pushB F175 (fits_nar_char _) W183 hk173
      have N183 := Fr.snoc X183 N172 go
      have hkS := Nat.le_trans hkS (Keep.of_wr W183).1
      have hR := hR.trans (CHr.wr W183 (Safe.arv hZ.alike F175 (by decide)) hH)
      have hH := CHv.wr W183 (Safe.arv hZ.alike F175 (by decide)) hH
      have F187 := F176.wr W183
      have F188 := F177.other W183 (Or.inl sno)
      have F189 := F178.other W183 (Or.inl sno)
      have F190 := F179.other W183 uno
      have O192 := O181.wr W183 go
      have K193 := K182.wr W183 (Or.inr zo)
      refine own_GH.st (T' := T183) 443 [] st183 ?_
      refine own_GH.sk 445 [(.int ((kk + (1 : Int32)) + (1 : Int32)))] (fun _ kq => XS.iload X183.here hx rfl (hb hby at_443) rfl kq) ?_
      refine own_GH.sk 446 [(.int 1), (.int ((kk + (1 : Int32)) + (1 : Int32)))] (fun _ kq => XS.iconst X183.here hx rfl (hb hby at_445) kq) ?_
      refine own_GH.sk 447 [(.int (((kk + (1 : Int32)) + (1 : Int32)) + (1 : Int32)))] (fun _ kq => XS.iadd X183.here hx rfl (hb hby at_446) rfl kq) ?_
      refine own_GH.si 449 [] (fun _ kq => XS.istore X183.here hx rfl (hb hby at_447) rfl (l' := #[iv ln, iv xa, iv xb, iv xc, iv xd, iv po, iv nv, iv ya, iv yb, iv yc, iv yd, iv pp, rv ha, rv sr, iv co, rv o, .val (.int (((kk + (1 : Int32)) + (1 : Int32)) + (1 : Int32))), .unset]) rfl kq) ?_
      refine own_GH.sk 451 [(.ref o)] (fun _ kq => XS.aload X183.here hx rfl (hb hby at_449) rfl rfl kq) ?_
      refine own_GH.sk 453 [(.int (((kk + (1 : Int32)) + (1 : Int32)) + (1 : Int32))), (.ref o)] (fun _ kq => XS.iload X183.here hx rfl (hb hby at_451) rfl kq) ?_
      refine own_GH.sk 455 [(.int 48), (.int (((kk + (1 : Int32)) + (1 : Int32)) + (1 : Int32))), (.ref o)] (fun _ kq => XS.bipush X183.here hx rfl (hb hby at_453) kq) ?_
      refine own_GH.sk 457 [(.int pp), (.int 48), (.int (((kk + (1 : Int32)) + (1 : Int32)) + (1 : Int32))), (.ref o)] (fun _ kq => XS.iload X183.here hx rfl (hb hby at_455) rfl kq) ?_
      refine own_GH.sk 459 [(.int 10), (.int pp), (.int 48), (.int (((kk + (1 : Int32)) + (1 : Int32)) + (1 : Int32))), (.ref o)] (fun _ kq => XS.bipush X183.here hx rfl (hb hby at_457) kq) ?_
      refine own_GH.sk 460 [(.int (pp % (10 : Int32))), (.int 48), (.int (((kk + (1 : Int32)) + (1 : Int32)) + (1 : Int32))), (.ref o)] (fun _ kq => iremM (g := (mkF m 459 #[iv ln, iv xa, iv xb, iv xc, iv xd, iv po, iv nv, iv ya, iv yb, iv yc, iv yd, iv pp, rv ha, rv sr, iv co, rv o, .val (.int (((kk + (1 : Int32)) + (1 : Int32)) + (1 : Int32))), .unset] [(.int 10), (.int pp), (.int 48), (.int (((kk + (1 : Int32)) + (1 : Int32)) + (1 : Int32))), (.ref o)])) X183 hx rfl (hb hby at_459) rfl (by decide) kq) ?_
      refine own_GH.sk 461 [(.int ((48 : Int32) + (pp % (10 : Int32)))), (.int (((kk + (1 : Int32)) + (1 : Int32)) + (1 : Int32))), (.ref o)] (fun _ kq => XS.iadd X183.here hx rfl (hb hby at_460) rfl kq) ?_
      refine own_GH.sk 462 [(.int (((48 : Int32) + (pp % (10 : Int32))).toUInt32.toUInt16.toUInt32.toInt32)), (.int (((kk + (1 : Int32)) + (1 : Int32)) + (1 : Int32))), (.ref o)] (fun _ kq => XS.i2c X183.here hx rfl (hb hby at_461) rfl kq) ?_
      have hk195 : ((((kk + (1 : Int32)) + (1 : Int32)) + (1 : Int32)) + (1 : Int32)).toInt = (((((cs ++ [(nar .char (((48 : Int32) + ((pp / (1000 : Int32)) % (10 : Int32))).toUInt32.toUInt16.toUInt32.toInt32))]) ++ [(nar .char (((48 : Int32) + ((pp / (100 : Int32)) % (10 : Int32))).toUInt32.toUInt16.toUInt32.toInt32))]) ++ [(nar .char (((48 : Int32) + ((pp / (10 : Int32)) % (10 : Int32))).toUInt32.toUInt16.toUInt32.toInt32))]) ++ [(nar .char (((48 : Int32) + (pp % (10 : Int32))).toUInt32.toUInt16.toUInt32.toInt32))]).length : Int) := own_k1 hk184 (Nat.le_trans (own_le1 (own_le1 (own_le1 hk7))) (by decide))
      have hd196 := own_dchar (own_e1 hp0 hp1) (y := pp.toInt % 10) (own_m10 _).1 (own_m10 _).2
      obtain ⟨cl194, Ar194, -, Sz194, -, -, -⟩ := id F186
      obtain ⟨T194, h194, X194, e194, W194, st194⟩ := stC X183 hx hZ e183 Ar194 (j := (((kk + (1 : Int32)) + (1 : Int32)) + (1 : Int32))) (inb_of Sz194 (own_in12 hk184 (Nat.lt_of_le_of_lt (own_le1 (own_le1 (own_le1 hk7))) (by decide)))) (g := (mkF m 462 #[iv ln, iv xa, iv xb, iv xc, iv xd, iv po, iv nv, iv ya, iv yb, iv yc, iv yd, iv pp, rv ha, rv sr, iv co, rv o, .val (.int (((kk + (1 : Int32)) + (1 : Int32)) + (1 : Int32))), .unset] [(.int (((48 : Int32) + (pp % (10 : Int32))).toUInt32.toUInt16.toUInt32.toInt32)), (.int (((kk + (1 : Int32)) + (1 : Int32)) + (1 : Int32))), (.ref o)])) rfl rfl (hb hby at_462)
      have F197 : Arv Z h194 o ko .char (12 : Int32) (own_B ((((cs ++ [(nar .char (((48 : Int32) + ((pp / (1000 : Int32)) % (10 : Int32))).toUInt32.toUInt16.toUInt32.toInt32))]) ++ [(nar .char (((48 : Int32) + ((pp / (100 : Int32)) % (10 : Int32))).toUInt32.toUInt16.toUInt32.toInt32))]) ++ [(nar .char (((48 : Int32) + ((pp / (10 : Int32)) % (10 : Int32))).toUInt32.toUInt16.toUInt32.toInt32))]) ++ [(nar .char (((48 : Int32) + (pp % (10 : Int32))).toUInt32.toUInt16.toUInt32.toInt32))])) (.int 0) := own_pushB F186 (fits_nar_char _) W194 hk184
      have N194 := Fr.snoc X194 N183 go
      have hkS := Nat.le_trans hkS (Keep.of_wr W194).1
      have hR := hR.trans (CHr.wr W194 (Safe.arv hZ.alike F186 (by decide)) hH)
      have hH := CHv.wr W194 (Safe.arv hZ.alike F186 (by decide)) hH
      have F198 := F187.wr W194
      have F199 := F188.other W194 (Or.inl sno)
      have F200 := F189.other W194 (Or.inl sno)
      have F201 := F190.other W194 uno
      have O203 := O192.wr W194 go
      have K204 := K193.wr W194 (Or.inr zo)
      refine own_GH.st (T' := T194) 463 [] st194 ?_
      refine own_GH.sk 465 [(.int (((kk + (1 : Int32)) + (1 : Int32)) + (1 : Int32)))] (fun _ kq => XS.iload X194.here hx rfl (hb hby at_463) rfl kq) ?_
      refine own_GH.sk 466 [(.int 1), (.int (((kk + (1 : Int32)) + (1 : Int32)) + (1 : Int32)))] (fun _ kq => XS.iconst X194.here hx rfl (hb hby at_465) kq) ?_
      refine own_GH.sk 467 [(.int ((((kk + (1 : Int32)) + (1 : Int32)) + (1 : Int32)) + (1 : Int32)))] (fun _ kq => XS.iadd X194.here hx rfl (hb hby at_466) rfl kq) ?_
      refine own_GH.si 469 [] (fun _ kq => XS.istore X194.here hx rfl (hb hby at_467) rfl (l' := #[iv ln, iv xa, iv xb, iv xc, iv xd, iv po, iv nv, iv ya, iv yb, iv yc, iv yd, iv pp, rv ha, rv sr, iv co, rv o, .val (.int ((((kk + (1 : Int32)) + (1 : Int32)) + (1 : Int32)) + (1 : Int32))), .unset]) rfl kq) ?_
      have hfull : (((((cs ++ [(nar .char (((48 : Int32) + ((pp / (1000 : Int32)) % (10 : Int32))).toUInt32.toUInt16.toUInt32.toInt32))]) ++ [(nar .char (((48 : Int32) + ((pp / (100 : Int32)) % (10 : Int32))).toUInt32.toUInt16.toUInt32.toInt32))]) ++ [(nar .char (((48 : Int32) + ((pp / (10 : Int32)) % (10 : Int32))).toUInt32.toUInt16.toUInt32.toInt32))]) ++ [(nar .char (((48 : Int32) + (pp % (10 : Int32))).toUInt32.toUInt16.toUInt32.toInt32))])).map own_by = (own_pre ys ++ own_dig pp) := by
        rw [own_dig4 hI362 hI333]
        exact Eq.trans (own_f1 (own_f1 (own_f1 (own_f1 hpre (hd163.1.trans (congrArg own_dg (own_t4 hp0 hI333)))) hd174.1) hd185.1) hd196.1) (by simp only [List.append_assoc, List.cons_append, List.nil_append])
      exact rm_law_te cx _ _ _ _ _ nv ya yb yc yd pp ha sr co o ((((kk + (1 : Int32)) + (1 : Int32)) + (1 : Int32)) + (1 : Int32)) u ku mm ys ko ((((cs ++ [(nar .char (((48 : Int32) + ((pp / (1000 : Int32)) % (10 : Int32))).toUInt32.toUInt16.toUInt32.toInt32))]) ++ [(nar .char (((48 : Int32) + ((pp / (100 : Int32)) % (10 : Int32))).toUInt32.toUInt16.toUInt32.toInt32))]) ++ [(nar .char (((48 : Int32) + ((pp / (10 : Int32)) % (10 : Int32))).toUInt32.toUInt16.toUInt32.toInt32))]) ++ [(nar .char (((48 : Int32) + (pp % (10 : Int32))).toUInt32.toUInt16.toUInt32.toInt32))]) (X194.mono (by decide) (by decide)) e194 hS hkS hZ hown hH hR O203 K204 N194 F198 F199 F200 F201 F197 hL4 hp0 hp1 hk195 (Nat.le_trans (own_le1 (own_le1 (own_le1 (own_le1 hk7)))) (by decide)) (own_c255 hd196.2 (own_c255 hd185.2 (own_c255 hd174.2 (own_c255 hd163.2 hcb)))) hfull
  · have hI333 : ¬ pp.toInt < 10000 := fun q => hc333 ((own_lti (by decide)).mpr q)
    refine own_GH.sk 336 [] (fun _ kq => XS.icmpNo td_X.here hx rfl (hb hby at_333) rfl (flt hc333).1 kq) ?_
    refine own_GH.sk 338 [(.ref o)] (fun _ kq => XS.aload td_X.here hx rfl (hb hby at_336) rfl rfl kq) ?_
    refine own_GH.sk 340 [(.int kk), (.ref o)] (fun _ kq => XS.iload td_X.here hx rfl (hb hby at_338) rfl kq) ?_
    refine own_GH.sk 342 [(.int 48), (.int kk), (.ref o)] (fun _ kq => XS.bipush td_X.here hx rfl (hb hby at_340) kq) ?_
    refine own_GH.sk 344 [(.int pp), (.int 48), (.int kk), (.ref o)] (fun _ kq => XS.iload td_X.here hx rfl (hb hby at_342) rfl kq) ?_
    refine own_GH.sk 347 [(.int 10000), (.int pp), (.int 48), (.int kk), (.ref o)] (fun _ kq => XS.sipush td_X.here hx rfl (hb hby at_344) kq) ?_
    refine own_GH.sk 348 [(.int (pp / (10000 : Int32))), (.int 48), (.int kk), (.ref o)] (fun _ kq => XS.idiv td_X.here hx rfl (hb hby at_347) rfl (by decide) kq) ?_
    refine own_GH.sk 349 [(.int ((48 : Int32) + (pp / (10000 : Int32)))), (.int kk), (.ref o)] (fun _ kq => XS.iadd td_X.here hx rfl (hb hby at_348) rfl kq) ?_
    refine own_GH.sk 350 [(.int (((48 : Int32) + (pp / (10000 : Int32))).toUInt32.toUInt16.toUInt32.toInt32)), (.int kk), (.ref o)] (fun _ kq => XS.i2c td_X.here hx rfl (hb hby at_349) rfl kq) ?_
    have hk206 : (kk + (1 : Int32)).toInt = ((cs ++ [(nar .char (((48 : Int32) + (pp / (10000 : Int32))).toUInt32.toUInt16.toUInt32.toInt32))]).length : Int) := own_k1 hk (Nat.le_trans hk7 (by decide))
    have hd207 := own_dchar (own_e5 hp0 hp1) (y := pp.toInt / 10000) (own_z5 hp0 hp1).1 (own_z5 hp0 hp1).2
    obtain ⟨cl205, Ar205, -, Sz205, -, -, -⟩ := id td_F4
    obtain ⟨T205, h205, X205, e205, W205, st205⟩ := stC td_X hx hZ td_e Ar205 (j := kk) (inb_of Sz205 (own_in12 hk (Nat.lt_of_le_of_lt hk7 (by decide)))) (g := (mkF m 350 #[iv ln, iv xa, iv xb, iv xc, iv xd, iv po, iv nv, iv ya, iv yb, iv yc, iv yd, iv pp, rv ha, rv sr, iv co, rv o, iv kk, .unset] [(.int (((48 : Int32) + (pp / (10000 : Int32))).toUInt32.toUInt16.toUInt32.toInt32)), (.int kk), (.ref o)])) rfl rfl (hb hby at_350)
    have F208 : Arv Z h205 o ko .char (12 : Int32) (own_B (cs ++ [(nar .char (((48 : Int32) + (pp / (10000 : Int32))).toUInt32.toUInt16.toUInt32.toInt32))])) (.int 0) := own_pushB td_F4 (fits_nar_char _) W205 hk
    have N205 := Fr.snoc X205 td_N go
    have hkS := Nat.le_trans hkS (Keep.of_wr W205).1
    have hR := hR.trans (CHr.wr W205 (Safe.arv hZ.alike td_F4 (by decide)) hH)
    have hH := CHv.wr W205 (Safe.arv hZ.alike td_F4 (by decide)) hH
    have F209 := td_F0.wr W205
    have F210 := td_F1.other W205 (Or.inl sno)
    have F211 := td_F2.other W205 (Or.inl sno)
    have F212 := td_F3.other W205 uno
    have O214 := td_O.wr W205 go
    have K215 := td_K.wr W205 (Or.inr zo)
    refine own_GH.st (T' := T205) 351 [] st205 ?_
    refine own_GH.sk 353 [(.int kk)] (fun _ kq => XS.iload X205.here hx rfl (hb hby at_351) rfl kq) ?_
    refine own_GH.sk 354 [(.int 1), (.int kk)] (fun _ kq => XS.iconst X205.here hx rfl (hb hby at_353) kq) ?_
    refine own_GH.sk 355 [(.int (kk + (1 : Int32)))] (fun _ kq => XS.iadd X205.here hx rfl (hb hby at_354) rfl kq) ?_
    refine own_GH.si 357 [] (fun _ kq => XS.istore X205.here hx rfl (hb hby at_355) rfl (l' := #[iv ln, iv xa, iv xb, iv xc, iv xd, iv po, iv nv, iv ya, iv yb, iv yc, iv yd, iv pp, rv ha, rv sr, iv co, rv o, .val (.int (kk + (1 : Int32))), .unset]) rfl kq) ?_
    refine own_GH.sk 359 [(.int pp)] (fun _ kq => XS.iload X205.here hx rfl (hb hby at_357) rfl kq) ?_
    refine own_GH.sk 362 [(.int 1000), (.int pp)] (fun _ kq => XS.sipush X205.here hx rfl (hb hby at_359) kq) ?_
    have hc362 : ¬ (pp < (1000 : Int32)) := (fun q => own_ge hI333 (by decide) ((own_lti (b := 1000) (by decide)).mp q))
    refine own_GH.sk 365 [] (fun _ kq => XS.icmpNo X205.here hx rfl (hb hby at_362) rfl (flt hc362).1 kq) ?_
    refine own_GH.sk 367 [(.ref o)] (fun _ kq => XS.aload X205.here hx rfl (hb hby at_365) rfl rfl kq) ?_
    refine own_GH.sk 369 [(.int (kk + (1 : Int32))), (.ref o)] (fun _ kq => XS.iload X205.here hx rfl (hb hby at_367) rfl kq) ?_
    refine own_GH.sk 371 [(.int 48), (.int (kk + (1 : Int32))), (.ref o)] (fun _ kq => XS.bipush X205.here hx rfl (hb hby at_369) kq) ?_
    refine own_GH.sk 373 [(.int pp), (.int 48), (.int (kk + (1 : Int32))), (.ref o)] (fun _ kq => XS.iload X205.here hx rfl (hb hby at_371) rfl kq) ?_
    refine own_GH.sk 376 [(.int 1000), (.int pp), (.int 48), (.int (kk + (1 : Int32))), (.ref o)] (fun _ kq => XS.sipush X205.here hx rfl (hb hby at_373) kq) ?_
    refine own_GH.sk 377 [(.int (pp / (1000 : Int32))), (.int 48), (.int (kk + (1 : Int32))), (.ref o)] (fun _ kq => XS.idiv X205.here hx rfl (hb hby at_376) rfl (by decide) kq) ?_
    refine own_GH.sk 379 [(.int 10), (.int (pp / (1000 : Int32))), (.int 48), (.int (kk + (1 : Int32))), (.ref o)] (fun _ kq => XS.bipush X205.here hx rfl (hb hby at_377) kq) ?_
    refine own_GH.sk 380 [(.int ((pp / (1000 : Int32)) % (10 : Int32))), (.int 48), (.int (kk + (1 : Int32))), (.ref o)] (fun _ kq => iremM (g := (mkF m 379 #[iv ln, iv xa, iv xb, iv xc, iv xd, iv po, iv nv, iv ya, iv yb, iv yc, iv yd, iv pp, rv ha, rv sr, iv co, rv o, .val (.int (kk + (1 : Int32))), .unset] [(.int 10), (.int (pp / (1000 : Int32))), (.int 48), (.int (kk + (1 : Int32))), (.ref o)])) X205 hx rfl (hb hby at_379) rfl (by decide) kq) ?_
    refine own_GH.sk 381 [(.int ((48 : Int32) + ((pp / (1000 : Int32)) % (10 : Int32)))), (.int (kk + (1 : Int32))), (.ref o)] (fun _ kq => XS.iadd X205.here hx rfl (hb hby at_380) rfl kq) ?_
    refine own_GH.sk 382 [(.int (((48 : Int32) + ((pp / (1000 : Int32)) % (10 : Int32))).toUInt32.toUInt16.toUInt32.toInt32)), (.int (kk + (1 : Int32))), (.ref o)] (fun _ kq => XS.i2c X205.here hx rfl (hb hby at_381) rfl kq) ?_
    have hk217 : ((kk + (1 : Int32)) + (1 : Int32)).toInt = (((cs ++ [(nar .char (((48 : Int32) + (pp / (10000 : Int32))).toUInt32.toUInt16.toUInt32.toInt32))]) ++ [(nar .char (((48 : Int32) + ((pp / (1000 : Int32)) % (10 : Int32))).toUInt32.toUInt16.toUInt32.toInt32))]).length : Int) := own_k1 hk206 (Nat.le_trans (own_le1 hk7) (by decide))
    have hd218 := own_dchar (own_e4 hp0 hp1) (y := pp.toInt / 1000 % 10) (own_m10 _).1 (own_m10 _).2
    obtain ⟨cl216, Ar216, -, Sz216, -, -, -⟩ := id F208
    obtain ⟨T216, h216, X216, e216, W216, st216⟩ := stC X205 hx hZ e205 Ar216 (j := (kk + (1 : Int32))) (inb_of Sz216 (own_in12 hk206 (Nat.lt_of_le_of_lt (own_le1 hk7) (by decide)))) (g := (mkF m 382 #[iv ln, iv xa, iv xb, iv xc, iv xd, iv po, iv nv, iv ya, iv yb, iv yc, iv yd, iv pp, rv ha, rv sr, iv co, rv o, .val (.int (kk + (1 : Int32))), .unset] [(.int (((48 : Int32) + ((pp / (1000 : Int32)) % (10 : Int32))).toUInt32.toUInt16.toUInt32.toInt32)), (.int (kk + (1 : Int32))), (.ref o)])) rfl rfl (hb hby at_382)
    have F219 : Arv Z h216 o ko .char (12 : Int32) (own_B ((cs ++ [(nar .char (((48 : Int32) + (pp / (10000 : Int32))).toUInt32.toUInt16.toUInt32.toInt32))]) ++ [(nar .char (((48 : Int32) + ((pp / (1000 : Int32)) % (10 : Int32))).toUInt32.toUInt16.toUInt32.toInt32))])) (.int 0) := own_pushB F208 (fits_nar_char _) W216 hk206
    have N216 := Fr.snoc X216 N205 go
    have hkS := Nat.le_trans hkS (Keep.of_wr W216).1
    have hR := hR.trans (CHr.wr W216 (Safe.arv hZ.alike F208 (by decide)) hH)
    have hH := CHv.wr W216 (Safe.arv hZ.alike F208 (by decide)) hH
    have F220 := F209.wr W216
    have F221 := F210.other W216 (Or.inl sno)
    have F222 := F211.other W216 (Or.inl sno)
    have F223 := F212.other W216 uno
    have O225 := O214.wr W216 go
    have K226 := K215.wr W216 (Or.inr zo)
    refine own_GH.st (T' := T216) 383 [] st216 ?_
    refine own_GH.sk 385 [(.int (kk + (1 : Int32)))] (fun _ kq => XS.iload X216.here hx rfl (hb hby at_383) rfl kq) ?_
    refine own_GH.sk 386 [(.int 1), (.int (kk + (1 : Int32)))] (fun _ kq => XS.iconst X216.here hx rfl (hb hby at_385) kq) ?_
    refine own_GH.sk 387 [(.int ((kk + (1 : Int32)) + (1 : Int32)))] (fun _ kq => XS.iadd X216.here hx rfl (hb hby at_386) rfl kq) ?_
    refine own_GH.si 389 [] (fun _ kq => XS.istore X216.here hx rfl (hb hby at_387) rfl (l' := #[iv ln, iv xa, iv xb, iv xc, iv xd, iv po, iv nv, iv ya, iv yb, iv yc, iv yd, iv pp, rv ha, rv sr, iv co, rv o, .val (.int ((kk + (1 : Int32)) + (1 : Int32))), .unset]) rfl kq) ?_
    refine own_GH.sk 391 [(.int pp)] (fun _ kq => XS.iload X216.here hx rfl (hb hby at_389) rfl kq) ?_
    refine own_GH.sk 393 [(.int 100), (.int pp)] (fun _ kq => XS.bipush X216.here hx rfl (hb hby at_391) kq) ?_
    have hc393 : ¬ (pp < (100 : Int32)) := (fun q => own_ge hI333 (by decide) ((own_lti (b := 100) (by decide)).mp q))
    refine own_GH.sk 396 [] (fun _ kq => XS.icmpNo X216.here hx rfl (hb hby at_393) rfl (flt hc393).1 kq) ?_
    refine own_GH.sk 398 [(.ref o)] (fun _ kq => XS.aload X216.here hx rfl (hb hby at_396) rfl rfl kq) ?_
    refine own_GH.sk 400 [(.int ((kk + (1 : Int32)) + (1 : Int32))), (.ref o)] (fun _ kq => XS.iload X216.here hx rfl (hb hby at_398) rfl kq) ?_
    refine own_GH.sk 402 [(.int 48), (.int ((kk + (1 : Int32)) + (1 : Int32))), (.ref o)] (fun _ kq => XS.bipush X216.here hx rfl (hb hby at_400) kq) ?_
    refine own_GH.sk 404 [(.int pp), (.int 48), (.int ((kk + (1 : Int32)) + (1 : Int32))), (.ref o)] (fun _ kq => XS.iload X216.here hx rfl (hb hby at_402) rfl kq) ?_
    refine own_GH.sk 406 [(.int 100), (.int pp), (.int 48), (.int ((kk + (1 : Int32)) + (1 : Int32))), (.ref o)] (fun _ kq => XS.bipush X216.here hx rfl (hb hby at_404) kq) ?_
    refine own_GH.sk 407 [(.int (pp / (100 : Int32))), (.int 48), (.int ((kk + (1 : Int32)) + (1 : Int32))), (.ref o)] (fun _ kq => XS.idiv X216.here hx rfl (hb hby at_406) rfl (by decide) kq) ?_
    refine own_GH.sk 409 [(.int 10), (.int (pp / (100 : Int32))), (.int 48), (.int ((kk + (1 : Int32)) + (1 : Int32))), (.ref o)] (fun _ kq => XS.bipush X216.here hx rfl (hb hby at_407) kq) ?_
    refine own_GH.sk 410 [(.int ((pp / (100 : Int32)) % (10 : Int32))), (.int 48), (.int ((kk + (1 : Int32)) + (1 : Int32))), (.ref o)] (fun _ kq => iremM (g := (mkF m 409 #[iv ln, iv xa, iv xb, iv xc, iv xd, iv po, iv nv, iv ya, iv yb, iv yc, iv yd, iv pp, rv ha, rv sr, iv co, rv o, .val (.int ((kk + (1 : Int32)) + (1 : Int32))), .unset] [(.int 10), (.int (pp / (100 : Int32))), (.int 48), (.int ((kk + (1 : Int32)) + (1 : Int32))), (.ref o)])) X216 hx rfl (hb hby at_409) rfl (by decide) kq) ?_
    refine own_GH.sk 411 [(.int ((48 : Int32) + ((pp / (100 : Int32)) % (10 : Int32)))), (.int ((kk + (1 : Int32)) + (1 : Int32))), (.ref o)] (fun _ kq => XS.iadd X216.here hx rfl (hb hby at_410) rfl kq) ?_
    refine own_GH.sk 412 [(.int (((48 : Int32) + ((pp / (100 : Int32)) % (10 : Int32))).toUInt32.toUInt16.toUInt32.toInt32)), (.int ((kk + (1 : Int32)) + (1 : Int32))), (.ref o)] (fun _ kq => XS.i2c X216.here hx rfl (hb hby at_411) rfl kq) ?_
    have hk228 : (((kk + (1 : Int32)) + (1 : Int32)) + (1 : Int32)).toInt = ((((cs ++ [(nar .char (((48 : Int32) + (pp / (10000 : Int32))).toUInt32.toUInt16.toUInt32.toInt32))]) ++ [(nar .char (((48 : Int32) + ((pp / (1000 : Int32)) % (10 : Int32))).toUInt32.toUInt16.toUInt32.toInt32))]) ++ [(nar .char (((48 : Int32) + ((pp / (100 : Int32)) % (10 : Int32))).toUInt32.toUInt16.toUInt32.toInt32))]).length : Int) := own_k1 hk217 (Nat.le_trans (own_le1 (own_le1 hk7)) (by decide))
    have hd229 := own_dchar (own_e3 hp0 hp1) (y := pp.toInt / 100 % 10) (own_m10 _).1 (own_m10 _).2
    obtain ⟨cl227, Ar227, -, Sz227, -, -, -⟩ := id F219
    obtain ⟨T227, h227, X227, e227, W227, st227⟩ := stC X216 hx hZ e216 Ar227 (j := ((kk + (1 : Int32)) + (1 : Int32))) (inb_of Sz227 (own_in12 hk217 (Nat.lt_of_le_of_lt (own_le1 (own_le1 hk7)) (by decide)))) (g := (mkF m 412 #[iv ln, iv xa, iv xb, iv xc, iv xd, iv po, iv nv, iv ya, iv yb, iv yc, iv yd, iv pp, rv ha, rv sr, iv co, rv o, .val (.int ((kk + (1 : Int32)) + (1 : Int32))), .unset] [(.int (((48 : Int32) + ((pp / (100 : Int32)) % (10 : Int32))).toUInt32.toUInt16.toUInt32.toInt32)), (.int ((kk + (1 : Int32)) + (1 : Int32))), (.ref o)])) rfl rfl (hb hby at_412)
    have F230 : Arv Z h227 o ko .char (12 : Int32) (own_B (((cs ++ [(nar .char (((48 : Int32) + (pp / (10000 : Int32))).toUInt32.toUInt16.toUInt32.toInt32))]) ++ [(nar .char (((48 : Int32) + ((pp / (1000 : Int32)) % (10 : Int32))).toUInt32.toUInt16.toUInt32.toInt32))]) ++ [(nar .char (((48 : Int32) + ((pp / (100 : Int32)) % (10 : Int32))).toUInt32.toUInt16.toUInt32.toInt32))])) (.int 0) := own_pushB F219 (fits_nar_char _) W227 hk217
    have N227 := Fr.snoc X227 N216 go
    have hkS := Nat.le_trans hkS (Keep.of_wr W227).1
    have hR := hR.trans (CHr.wr W227 (Safe.arv hZ.alike F219 (by decide)) hH)
    have hH := CHv.wr W227 (Safe.arv hZ.alike F219 (by decide)) hH
    have F231 := F220.wr W227
    have F232 := F221.other W227 (Or.inl sno)
    have F233 := F222.other W227 (Or.inl sno)
    have F234 := F223.other W227 uno
    have O236 := O225.wr W227 go
    have K237 := K226.wr W227 (Or.inr zo)
    refine own_GH.st (T' := T227) 413 [] st227 ?_
    refine own_GH.sk 415 [(.int ((kk + (1 : Int32)) + (1 : Int32)))] (fun _ kq => XS.iload X227.here hx rfl (hb hby at_413) rfl kq) ?_
    refine own_GH.sk 416 [(.int 1), (.int ((kk + (1 : Int32)) + (1 : Int32)))] (fun _ kq => XS.iconst X227.here hx rfl (hb hby at_415) kq) ?_
    refine own_GH.sk 417 [(.int (((kk + (1 : Int32)) + (1 : Int32)) + (1 : Int32)))] (fun _ kq => XS.iadd X227.here hx rfl (hb hby at_416) rfl kq) ?_
    refine own_GH.si 419 [] (fun _ kq => XS.istore X227.here hx rfl (hb hby at_417) rfl (l' := #[iv ln, iv xa, iv xb, iv xc, iv xd, iv po, iv nv, iv ya, iv yb, iv yc, iv yd, iv pp, rv ha, rv sr, iv co, rv o, .val (.int (((kk + (1 : Int32)) + (1 : Int32)) + (1 : Int32))), .unset]) rfl kq) ?_
    refine own_GH.sk 421 [(.int pp)] (fun _ kq => XS.iload X227.here hx rfl (hb hby at_419) rfl kq) ?_
    refine own_GH.sk 423 [(.int 10), (.int pp)] (fun _ kq => XS.bipush X227.here hx rfl (hb hby at_421) kq) ?_
    have hc423 : ¬ (pp < (10 : Int32)) := (fun q => own_ge hI333 (by decide) ((own_lti (b := 10) (by decide)).mp q))
    refine own_GH.sk 426 [] (fun _ kq => XS.icmpNo X227.here hx rfl (hb hby at_423) rfl (flt hc423).1 kq) ?_
    refine own_GH.sk 428 [(.ref o)] (fun _ kq => XS.aload X227.here hx rfl (hb hby at_426) rfl rfl kq) ?_
    refine own_GH.sk 430 [(.int (((kk + (1 : Int32)) + (1 : Int32)) + (1 : Int32))), (.ref o)] (fun _ kq => XS.iload X227.here hx rfl (hb hby at_428) rfl kq) ?_
    refine own_GH.sk 432 [(.int 48), (.int (((kk + (1 : Int32)) + (1 : Int32)) + (1 : Int32))), (.ref o)] (fun _ kq => XS.bipush X227.here hx rfl (hb hby at_430) kq) ?_
    refine own_GH.sk 434 [(.int pp), (.int 48), (.int (((kk + (1 : Int32)) + (1 : Int32)) + (1 : Int32))), (.ref o)] (fun _ kq => XS.iload X227.here hx rfl (hb hby at_432) rfl kq) ?_
    refine own_GH.sk 436 [(.int 10), (.int pp), (.int 48), (.int (((kk + (1 : Int32)) + (1 : Int32)) + (1 : Int32))), (.ref o)] (fun _ kq => XS.bipush X227.here hx rfl (hb hby at_434) kq) ?_
    refine own_GH.sk 437 [(.int (pp / (10 : Int32))), (.int 48), (.int (((kk + (1 : Int32)) + (1 : Int32)) + (1 : Int32))), (.ref o)] (fun _ kq => XS.idiv X227.here hx rfl (hb hby at_436) rfl (by decide) kq) ?_
    refine own_GH.sk 439 [(.int 10), (.int (pp / (10 : Int32))), (.int 48), (.int (((kk + (1 : Int32)) + (1 : Int32)) + (1 : Int32))), (.ref o)] (fun _ kq => XS.bipush X227.here hx rfl (hb hby at_437) kq) ?_
    refine own_GH.sk 440 [(.int ((pp / (10 : Int32)) % (10 : Int32))), (.int 48), (.int (((kk + (1 : Int32)) + (1 : Int32)) + (1 : Int32))), (.ref o)] (fun _ kq => iremM (g := (mkF m 439 #[iv ln, iv xa, iv xb, iv xc, iv xd, iv po, iv nv, iv ya, iv yb, iv yc, iv yd, iv pp, rv ha, rv sr, iv co, rv o, .val (.int (((kk + (1 : Int32)) + (1 : Int32)) + (1 : Int32))), .unset] [(.int 10), (.int (pp / (10 : Int32))), (.int 48), (.int (((kk + (1 : Int32)) + (1 : Int32)) + (1 : Int32))), (.ref o)])) X227 hx rfl (hb hby at_439) rfl (by decide) kq) ?_
    refine own_GH.sk 441 [(.int ((48 : Int32) + ((pp / (10 : Int32)) % (10 : Int32)))), (.int (((kk + (1 : Int32)) + (1 : Int32)) + (1 : Int32))), (.ref o)] (fun _ kq => XS.iadd X227.here hx rfl (hb hby at_440) rfl kq) ?_
    refine own_GH.sk 442 [(.int (((48 : Int32) + ((pp / (10 : Int32)) % (10 : Int32))).toUInt32.toUInt16.toUInt32.toInt32)), (.int (((kk + (1 : Int32)) + (1 : Int32)) + (1 : Int32))), (.ref o)] (fun _ kq => XS.i2c X227.here hx rfl (hb hby at_441) rfl kq) ?_
    have hk239 : ((((kk + (1 : Int32)) + (1 : Int32)) + (1 : Int32)) + (1 : Int32)).toInt = (((((cs ++ [(nar .char (((48 : Int32) + (pp / (10000 : Int32))).toUInt32.toUInt16.toUInt32.toInt32))]) ++ [(nar .char (((48 : Int32) + ((pp / (1000 : Int32)) % (10 : Int32))).toUInt32.toUInt16.toUInt32.toInt32))]) ++ [(nar .char (((48 : Int32) + ((pp / (100 : Int32)) % (10 : Int32))).toUInt32.toUInt16.toUInt32.toInt32))]) ++ [(nar .char (((48 : Int32) + ((pp / (10 : Int32)) % (10 : Int32))).toUInt32.toUInt16.toUInt32.toInt32))]).length : Int) := own_k1 hk228 (Nat.le_trans (own_le1 (own_le1 (own_le1 hk7))) (by decide))
    have hd240 := own_dchar (own_e2 hp0 hp1) (y := pp.toInt / 10 % 10) (own_m10 _).1 (own_m10 _).2
    obtain ⟨cl238, Ar238, -, Sz238, -, -, -⟩ := id F230
    obtain ⟨T238, h238, X238, e238, W238, st238⟩ := stC X227 hx hZ e227 Ar238 (j := (((kk + (1 : Int32)) + (1 : Int32)) + (1 : Int32))) (inb_of Sz238 (own_in12 hk228 (Nat.lt_of_le_of_lt (own_le1 (own_le1 (own_le1 hk7))) (by decide)))) (g := (mkF m 442 #[iv ln, iv xa, iv xb, iv xc, iv xd, iv po, iv nv, iv ya, iv yb, iv yc, iv yd, iv pp, rv ha, rv sr, iv co, rv o, .val (.int (((kk + (1 : Int32)) + (1 : Int32)) + (1 : Int32))), .unset] [(.int (((48 : Int32) + ((pp / (10 : Int32)) % (10 : Int32))).toUInt32.toUInt16.toUInt32.toInt32)), (.int (((kk + (1 : Int32)) + (1 : Int32)) + (1 : Int32))), (.ref o)])) rfl rfl (hb hby at_442)
    have F241 : Arv Z h238 o ko .char (12 : Int32) (own_B ((((cs ++ [(nar .char (((48 : Int32) + (pp / (10000 : Int32))).toUInt32.toUInt16.toUInt32.toInt32))]) ++ [(nar .char (((48 : Int32) + ((pp / (1000 : Int32)) % (10 : Int32))).toUInt32.toUInt16.toUInt32.toInt32))]) ++ [(nar .char (((48 : Int32) + ((pp / (100 : Int32)) % (10 : Int32))).toUInt32.toUInt16.toUInt32.toInt32))]) ++ [(nar .char (((48 : Int32) + ((pp / (10 : Int32)) % (10 : Int32))).toUInt32.toUInt16.toUInt32.toInt32))])) (.int 0) := own_pushB F230 (fits_nar_char _) W238 hk228
    have N238 := Fr.snoc X238 N227 go
    have hkS := Nat.le_trans hkS (Keep.of_wr W238).1
    have hR := hR.trans (CHr.wr W238 (Safe.arv hZ.alike F230 (by decide)) hH)
    have hH := CHv.wr W238 (Safe.arv hZ.alike F230 (by decide)) hH
    have F242 := F231.wr W238
    have F243 := F232.other W238 (Or.inl sno)
    have F244 := F233.other W238 (Or.inl sno)
    have F245 := F234.other W238 uno
    have O247 := O236.wr W238 go
    have K248 := K237.wr W238 (Or.inr zo)
    refine own_GH.st (T' := T238) 443 [] st238 ?_
    refine own_GH.sk 445 [(.int (((kk + (1 : Int32)) + (1 : Int32)) + (1 : Int32)))] (fun _ kq => XS.iload X238.here hx rfl (hb hby at_443) rfl kq) ?_
    refine own_GH.sk 446 [(.int 1), (.int (((kk + (1 : Int32)) + (1 : Int32)) + (1 : Int32)))] (fun _ kq => XS.iconst X238.here hx rfl (hb hby at_445) kq) ?_
    refine own_GH.sk 447 [(.int ((((kk + (1 : Int32)) + (1 : Int32)) + (1 : Int32)) + (1 : Int32)))] (fun _ kq => XS.iadd X238.here hx rfl (hb hby at_446) rfl kq) ?_
    refine own_GH.si 449 [] (fun _ kq => XS.istore X238.here hx rfl (hb hby at_447) rfl (l' := #[iv ln, iv xa, iv xb, iv xc, iv xd, iv po, iv nv, iv ya, iv yb, iv yc, iv yd, iv pp, rv ha, rv sr, iv co, rv o, .val (.int ((((kk + (1 : Int32)) + (1 : Int32)) + (1 : Int32)) + (1 : Int32))), .unset]) rfl kq) ?_
    refine own_GH.sk 451 [(.ref o)] (fun _ kq => XS.aload X238.here hx rfl (hb hby at_449) rfl rfl kq) ?_
    refine own_GH.sk 453 [(.int ((((kk + (1 : Int32)) + (1 : Int32)) + (1 : Int32)) + (1 : Int32))), (.ref o)] (fun _ kq => XS.iload X238.here hx rfl (hb hby at_451) rfl kq) ?_
    refine own_GH.sk 455 [(.int 48), (.int ((((kk + (1 : Int32)) + (1 : Int32)) + (1 : Int32)) + (1 : Int32))), (.ref o)] (fun _ kq => XS.bipush X238.here hx rfl (hb hby at_453) kq) ?_
    refine own_GH.sk 457 [(.int pp), (.int 48), (.int ((((kk + (1 : Int32)) + (1 : Int32)) + (1 : Int32)) + (1 : Int32))), (.ref o)] (fun _ kq => XS.iload X238.here hx rfl (hb hby at_455) rfl kq) ?_
    refine own_GH.sk 459 [(.int 10), (.int pp), (.int 48), (.int ((((kk + (1 : Int32)) + (1 : Int32)) + (1 : Int32)) + (1 : Int32))), (.ref o)] (fun _ kq => XS.bipush X238.here hx rfl (hb hby at_457) kq) ?_
    refine own_GH.sk 460 [(.int (pp % (10 : Int32))), (.int 48), (.int ((((kk + (1 : Int32)) + (1 : Int32)) + (1 : Int32)) + (1 : Int32))), (.ref o)] (fun _ kq => iremM (g := (mkF m 459 #[iv ln, iv xa, iv xb, iv xc, iv xd, iv po, iv nv, iv ya, iv yb, iv yc, iv yd, iv pp, rv ha, rv sr, iv co, rv o, .val (.int ((((kk + (1 : Int32)) + (1 : Int32)) + (1 : Int32)) + (1 : Int32))), .unset] [(.int 10), (.int pp), (.int 48), (.int ((((kk + (1 : Int32)) + (1 : Int32)) + (1 : Int32)) + (1 : Int32))), (.ref o)])) X238 hx rfl (hb hby at_459) rfl (by decide) kq) ?_
    refine own_GH.sk 461 [(.int ((48 : Int32) + (pp % (10 : Int32)))), (.int ((((kk + (1 : Int32)) + (1 : Int32)) + (1 : Int32)) + (1 : Int32))), (.ref o)] (fun _ kq => XS.iadd X238.here hx rfl (hb hby at_460) rfl kq) ?_
    refine own_GH.sk 462 [(.int (((48 : Int32) + (pp % (10 : Int32))).toUInt32.toUInt16.toUInt32.toInt32)), (.int ((((kk + (1 : Int32)) + (1 : Int32)) + (1 : Int32)) + (1 : Int32))), (.ref o)] (fun _ kq => XS.i2c X238.here hx rfl (hb hby at_461) rfl kq) ?_
    have hk250 : (((((kk + (1 : Int32)) + (1 : Int32)) + (1 : Int32)) + (1 : Int32)) + (1 : Int32)).toInt = ((((((cs ++ [(nar .char (((48 : Int32) + (pp / (10000 : Int32))).toUInt32.toUInt16.toUInt32.toInt32))]) ++ [(nar .char (((48 : Int32) + ((pp / (1000 : Int32)) % (10 : Int32))).toUInt32.toUInt16.toUInt32.toInt32))]) ++ [(nar .char (((48 : Int32) + ((pp / (100 : Int32)) % (10 : Int32))).toUInt32.toUInt16.toUInt32.toInt32))]) ++ [(nar .char (((48 : Int32) + ((pp / (10 : Int32)) % (10 : Int32))).toUInt32.toUInt16.toUInt32.toInt32))]) ++ [(nar .char (((48 : Int32) + (pp % (10 : Int32))).toUInt32.toUInt16.toUInt32.toInt32))]).length : Int) := own_k1 hk239 (Nat.le_trans (own_le1 (own_le1 (own_le1 (own_le1 hk7)))) (by decide))
    have hd251 := own_dchar (own_e1 hp0 hp1) (y := pp.toInt % 10) (own_m10 _).1 (own_m10 _).2
    obtain ⟨cl249, Ar249, -, Sz249, -, -, -⟩ := id F241
    obtain ⟨T249, h249, X249, e249, W249, st249⟩ := stC X238 hx hZ e238 Ar249 (j := ((((kk + (1 : Int32)) + (1 : Int32)) + (1 : Int32)) + (1 : Int32))) (inb_of Sz249 (own_in12 hk239 (Nat.lt_of_le_of_lt (own_le1 (own_le1 (own_le1 (own_le1 hk7)))) (by decide)))) (g := (mkF m 462 #[iv ln, iv xa, iv xb, iv xc, iv xd, iv po, iv nv, iv ya, iv yb, iv yc, iv yd, iv pp, rv ha, rv sr, iv co, rv o, .val (.int ((((kk + (1 : Int32)) + (1 : Int32)) + (1 : Int32)) + (1 : Int32))), .unset] [(.int (((48 : Int32) + (pp % (10 : Int32))).toUInt32.toUInt16.toUInt32.toInt32)), (.int ((((kk + (1 : Int32)) + (1 : Int32)) + (1 : Int32)) + (1 : Int32))), (.ref o)])) rfl rfl (hb hby at_462)
    have F252 : Arv Z h249 o ko .char (12 : Int32) (own_B (((((cs ++ [(nar .char (((48 : Int32) + (pp / (10000 : Int32))).toUInt32.toUInt16.toUInt32.toInt32))]) ++ [(nar .char (((48 : Int32) + ((pp / (1000 : Int32)) % (10 : Int32))).toUInt32.toUInt16.toUInt32.toInt32))]) ++ [(nar .char (((48 : Int32) + ((pp / (100 : Int32)) % (10 : Int32))).toUInt32.toUInt16.toUInt32.toInt32))]) ++ [(nar .char (((48 : Int32) + ((pp / (10 : Int32)) % (10 : Int32))).toUInt32.toUInt16.toUInt32.toInt32))]) ++ [(nar .char (((48 : Int32) + (pp % (10 : Int32))).toUInt32.toUInt16.toUInt32.toInt32))])) (.int 0) := own_pushB F241 (fits_nar_char _) W249 hk239
    have N249 := Fr.snoc X249 N238 go
    have hkS := Nat.le_trans hkS (Keep.of_wr W249).1
    have hR := hR.trans (CHr.wr W249 (Safe.arv hZ.alike F241 (by decide)) hH)
    have hH := CHv.wr W249 (Safe.arv hZ.alike F241 (by decide)) hH
    have F253 := F242.wr W249
    have F254 := F243.other W249 (Or.inl sno)
    have F255 := F244.other W249 (Or.inl sno)
    have F256 := F245.other W249 uno
    have O258 := O247.wr W249 go
    have K259 := K248.wr W249 (Or.inr zo)
    refine own_GH.st (T' := T249) 463 [] st249 ?_
    refine own_GH.sk 465 [(.int ((((kk + (1 : Int32)) + (1 : Int32)) + (1 : Int32)) + (1 : Int32)))] (fun _ kq => XS.iload X249.here hx rfl (hb hby at_463) rfl kq) ?_
    refine own_GH.sk 466 [(.int 1), (.int ((((kk + (1 : Int32)) + (1 : Int32)) + (1 : Int32)) + (1 : Int32)))] (fun _ kq => XS.iconst X249.here hx rfl (hb hby at_465) kq) ?_
    refine own_GH.sk 467 [(.int (((((kk + (1 : Int32)) + (1 : Int32)) + (1 : Int32)) + (1 : Int32)) + (1 : Int32)))] (fun _ kq => XS.iadd X249.here hx rfl (hb hby at_466) rfl kq) ?_
    refine own_GH.si 469 [] (fun _ kq => XS.istore X249.here hx rfl (hb hby at_467) rfl (l' := #[iv ln, iv xa, iv xb, iv xc, iv xd, iv po, iv nv, iv ya, iv yb, iv yc, iv yd, iv pp, rv ha, rv sr, iv co, rv o, .val (.int (((((kk + (1 : Int32)) + (1 : Int32)) + (1 : Int32)) + (1 : Int32)) + (1 : Int32))), .unset]) rfl kq) ?_
    have hfull : ((((((cs ++ [(nar .char (((48 : Int32) + (pp / (10000 : Int32))).toUInt32.toUInt16.toUInt32.toInt32))]) ++ [(nar .char (((48 : Int32) + ((pp / (1000 : Int32)) % (10 : Int32))).toUInt32.toUInt16.toUInt32.toInt32))]) ++ [(nar .char (((48 : Int32) + ((pp / (100 : Int32)) % (10 : Int32))).toUInt32.toUInt16.toUInt32.toInt32))]) ++ [(nar .char (((48 : Int32) + ((pp / (10 : Int32)) % (10 : Int32))).toUInt32.toUInt16.toUInt32.toInt32))]) ++ [(nar .char (((48 : Int32) + (pp % (10 : Int32))).toUInt32.toUInt16.toUInt32.toInt32))])).map own_by = (own_pre ys ++ own_dig pp) := by
      rw [own_dig5 hI333]
      exact Eq.trans (own_f1 (own_f1 (own_f1 (own_f1 (own_f1 hpre hd207.1) hd218.1) hd229.1) hd240.1) hd251.1) (by simp only [List.append_assoc, List.cons_append, List.nil_append])
    exact rm_law_te cx _ _ _ _ _ nv ya yb yc yd pp ha sr co o (((((kk + (1 : Int32)) + (1 : Int32)) + (1 : Int32)) + (1 : Int32)) + (1 : Int32)) u ku mm ys ko (((((cs ++ [(nar .char (((48 : Int32) + (pp / (10000 : Int32))).toUInt32.toUInt16.toUInt32.toInt32))]) ++ [(nar .char (((48 : Int32) + ((pp / (1000 : Int32)) % (10 : Int32))).toUInt32.toUInt16.toUInt32.toInt32))]) ++ [(nar .char (((48 : Int32) + ((pp / (100 : Int32)) % (10 : Int32))).toUInt32.toUInt16.toUInt32.toInt32))]) ++ [(nar .char (((48 : Int32) + ((pp / (10 : Int32)) % (10 : Int32))).toUInt32.toUInt16.toUInt32.toInt32))]) ++ [(nar .char (((48 : Int32) + (pp % (10 : Int32))).toUInt32.toUInt16.toUInt32.toInt32))]) (X249.mono (by decide) (by decide)) e249 hS hkS hZ hown hH hR O258 K259 N249 F253 F254 F255 F256 F252 hL4 hp0 hp1 hk250 (own_le1 (own_le1 (own_le1 (own_le1 (own_le1 hk7))))) (own_c255 hd251.2 (own_c255 hd240.2 (own_c255 hd229.2 (own_c255 hd218.2 (own_c255 hd207.2 hcb))))) hfull
set_option maxRecDepth 65536 in
set_option maxHeartbeats 40000000 in
theorem rm_law_tb (cx : own_Cx_law l Z a0 ws ln xa xb xc xd po csz fm dga cga dgb cgb h0 n0 p e s m below meth c s₁) :
    ∀ (tb_T : State) (tb_h : Heap) (tb_L : List Loc) (tb_vm : Vm) (tb_k : Nat) (nv : Int32) (ya : Int32) (yb : Int32) (yc : Int32) (yd : Int32) (pp : Int32) (ha : Addr) (sr : Addr) (co : Int32) (o : Addr) (kk : Int32) (u : Addr) (ku : ClassId) (mm : Int32) (ys : List Int32) (ko : ClassId) (cs : List Int32), (Stand p l e room_1 (s.setVm tb_vm) m #[(.int ln), (.int xa), (.int xb), (.int xc), (.int xd), (.int po)] below meth c tb_T tb_L 8 60) → (tb_T.heap = tb_h) → (s.Since tb_vm tb_k) → (tb_k ≤ tb_h.size) → (Z.Warmed39 (s.setVm tb_vm).vm) → ((s.setVm tb_vm).vm.findClass "com/example/redelivery/redelivery/settings/ListenAddressToStringPinLaw" = some m.cls) → (CHv Z own_EL tb_vm tb_h) → (CHr Z own_EL s.vm h0 tb_vm tb_h) → (Old Z n0 tb_h) → (Keep h0 tb_h []) → (Fr n0 tb_L) → (Exa Z tb_h sr "java/lang/String") → (Fld Z tb_h sr "java/lang/String" "value" "[B" (.ref u)) → (Fld Z tb_h sr "java/lang/String" "coder" "B" (.int 0)) → (Arv Z tb_h u ku .byte mm (own_B ys) (.int 0)) → (Arv Z tb_h o ko .char (12 : Int32) (own_B cs) (.int 0)) → (own_L4 ys mm) → (0 ≤ pp.toInt) → (pp.toInt ≤ 65535) → (kk.toInt = (cs.length : Int)) → (cs.length ≤ 5) → (∀ c ∈ cs, ¬ c < (0 : Int32) ∧ ¬ (255 : Int32) < c) → ((co = (0 : Int32) → ¬ (58 : Int32) ∈ ys ∧ cs.map own_by = [] ++ ys) ∧ (¬ co = (0 : Int32) → (58 : Int32) ∈ ys ∧ cs.map own_by = ([] ++ [(91 : Int32)]) ++ ys)) → (n0 ≤ o) → (h0.size ≤ o) → (u ≠ o) → (sr ≠ o) → own_GH Z own_EL p e below s 21 150 (Q_law Z ln xa xb xc xd po csz fm dga cga dgb cgb h0 n0) tb_T (mkF m 297 #[iv ln, iv xa, iv xb, iv xc, iv xd, iv po, iv nv, iv ya, iv yb, iv yc, iv yd, iv pp, rv ha, rv sr, iv co, rv o, iv kk, .unset] []) := by
  obtain ⟨hw, O0, S_CS, hcs, S_IO, hio, S_D1, TB1, S_D2, TB2, Bd, hml, hh⟩ := id cx
  have W_ : ∀ {d : Jvm.Cond} (i : Nat), tables_1[i]? = some d → d.before a0 Z = true := fun i h => hw _ (List.mem_of_getElem? h)
  have hx := Bd.exec
  have hby := Bd.bytes
  have hnm := (name_of_methodNamed Bd.named Bd.method).1
  have ew := own_EW Z a0 hw
  have hws : ∀ d ∈ StrChars.Road.words, d.before a0 Z = true := fun d hd => hw d (own_hws d hd)
  intro tb_T tb_h tb_L tb_vm tb_k nv ya yb yc yd pp ha sr co o kk u ku mm ys ko cs tb_X tb_e hS hkS hZ hown hH hR tb_O tb_K tb_N tb_F0 tb_F1 tb_F2 tb_F3 tb_F4 hL4 hp0 hp1 hk hk5 hcb hq go zo uno sno
  refine own_GH.sk 299 [(.int co)] (fun _ kq => XS.iload tb_X.here hx rfl (hb hby at_297) rfl kq) ?_
  rcases Classical.em (co = (0 : Int32)) with hc299 | hc299
  · refine own_GH.sk 315 [] (fun _ kq => XS.ifYes tb_X.here hx rfl (pc0 := 299) (pc' := 315) rfl (hb hby at_299) rfl ((if0 _ _).trans (teq hc299).1) (by decide) (by decide) kq) ?_
    refine own_GH.sk 317 [(.ref o)] (fun _ kq => XS.aload tb_X.here hx rfl (hb hby at_315) rfl rfl kq) ?_
    refine own_GH.sk 319 [(.int kk), (.ref o)] (fun _ kq => XS.iload tb_X.here hx rfl (hb hby at_317) rfl kq) ?_
    refine own_GH.sk 321 [(.int 58), (.int kk), (.ref o)] (fun _ kq => XS.bipush tb_X.here hx rfl (hb hby at_319) kq) ?_
    have hk261 : (kk + (1 : Int32)).toInt = ((cs ++ [(nar .char (58 : Int32))]).length : Int) := own_k1 hk (Nat.le_trans hk5 (by decide))
    obtain ⟨cl260, Ar260, -, Sz260, -, -, -⟩ := id tb_F4
    obtain ⟨T260, h260, X260, e260, W260, st260⟩ := stC tb_X hx hZ tb_e Ar260 (j := kk) (inb_of Sz260 (own_in12 hk (Nat.lt_of_le_of_lt hk5 (by decide)))) (g := (mkF m 321 #[iv ln, iv xa, iv xb, iv xc, iv xd, iv po, iv nv, iv ya, iv yb, iv yc, iv yd, iv pp, rv ha, rv sr, iv co, rv o, iv kk, .unset] [(.int 58), (.int kk), (.ref o)])) rfl rfl (hb hby at_321)
    have F262 : Arv Z h260 o ko .char (12 : Int32) (own_B (cs ++ [(nar .char (58 : Int32))])) (.int 0) := own_pushB tb_F4 (fits_nar_char _) W260 hk
    have N260 := Fr.snoc X260 tb_N go
    have hkS := Nat.le_trans hkS (Keep.of_wr W260).1
    have hR := hR.trans (CHr.wr W260 (Safe.arv hZ.alike tb_F4 (by decide)) hH)
    have hH := CHv.wr W260 (Safe.arv hZ.alike tb_F4 (by decide)) hH
    have F263 := tb_F0.wr W260
    have F264 := tb_F1.other W260 (Or.inl sno)
    have F265 := tb_F2.other W260 (Or.inl sno)
    have F266 := tb_F3.other W260 uno
    have O268 := tb_O.wr W260 go
    have K269 := tb_K.wr W260 (Or.inr zo)
    refine own_GH.st (T' := T260) 322 [] st260 ?_
    refine own_GH.sk 324 [(.int kk)] (fun _ kq => XS.iload X260.here hx rfl (hb hby at_322) rfl kq) ?_
    refine own_GH.sk 325 [(.int 1), (.int kk)] (fun _ kq => XS.iconst X260.here hx rfl (hb hby at_324) kq) ?_
    refine own_GH.sk 326 [(.int (kk + (1 : Int32)))] (fun _ kq => XS.iadd X260.here hx rfl (hb hby at_325) rfl kq) ?_
    refine own_GH.si 328 [] (fun _ kq => XS.istore X260.here hx rfl (hb hby at_326) rfl (l' := #[iv ln, iv xa, iv xb, iv xc, iv xd, iv po, iv nv, iv ya, iv yb, iv yc, iv yd, iv pp, rv ha, rv sr, iv co, rv o, .val (.int (kk + (1 : Int32))), .unset]) rfl kq) ?_
    exact rm_law_td cx _ _ _ _ _ nv ya yb yc yd pp ha sr co o (kk + (1 : Int32)) u ku mm ys ko (cs ++ [(nar .char (58 : Int32))]) (X260.mono (by decide) (by decide)) e260 hS hkS hZ hown hH hR O268 K269 N260 F263 F264 F265 F266 F262 hL4 hp0 hp1 hk261 (Nat.le_trans (own_le1 hk5) (by decide)) (own_c255 ⟨by decide, by decide⟩ hcb) ((own_f1 (hq.1 hc299).2 own_k58).trans (own_pre0 (hq.1 hc299).1).symm) go zo uno sno
  · refine own_GH.sk 302 [] (fun _ kq => XS.ifNo tb_X.here hx rfl (hb hby at_299) rfl ((if0 _ _).trans (feq hc299).1) kq) ?_
    refine own_GH.sk 304 [(.ref o)] (fun _ kq => XS.aload tb_X.here hx rfl (hb hby at_302) rfl rfl kq) ?_
    refine own_GH.sk 306 [(.int kk), (.ref o)] (fun _ kq => XS.iload tb_X.here hx rfl (hb hby at_304) rfl kq) ?_
    refine own_GH.sk 308 [(.int 93), (.int kk), (.ref o)] (fun _ kq => XS.bipush tb_X.here hx rfl (hb hby at_306) kq) ?_
    have hk271 : (kk + (1 : Int32)).toInt = ((cs ++ [(nar .char (93 : Int32))]).length : Int) := own_k1 hk (Nat.le_trans hk5 (by decide))
    obtain ⟨cl270, Ar270, -, Sz270, -, -, -⟩ := id tb_F4
    obtain ⟨T270, h270, X270, e270, W270, st270⟩ := stC tb_X hx hZ tb_e Ar270 (j := kk) (inb_of Sz270 (own_in12 hk (Nat.lt_of_le_of_lt hk5 (by decide)))) (g := (mkF m 308 #[iv ln, iv xa, iv xb, iv xc, iv xd, iv po, iv nv, iv ya, iv yb, iv yc, iv yd, iv pp, rv ha, rv sr, iv co, rv o, iv kk, .unset] [(.int 93), (.int kk), (.ref o)])) rfl rfl (hb hby at_308)
    have F272 : Arv Z h270 o ko .char (12 : Int32) (own_B (cs ++ [(nar .char (93 : Int32))])) (.int 0) := own_pushB tb_F4 (fits_nar_char _) W270 hk
    have N270 := Fr.snoc X270 tb_N go
    have hkS := Nat.le_trans hkS (Keep.of_wr W270).1
    have hR := hR.trans (CHr.wr W270 (Safe.arv hZ.alike tb_F4 (by decide)) hH)
    have hH := CHv.wr W270 (Safe.arv hZ.alike tb_F4 (by decide)) hH
    have F273 := tb_F0.wr W270
    have F274 := tb_F1.other W270 (Or.inl sno)
    have F275 := tb_F2.other W270 (Or.inl sno)
    have F276 := tb_F3.other W270 uno
    have O278 := tb_O.wr W270 go
    have K279 := tb_K.wr W270 (Or.inr zo)
    refine own_GH.st (T' := T270) 309 [] st270 ?_
    refine own_GH.sk 311 [(.int kk)] (fun _ kq => XS.iload X270.here hx rfl (hb hby at_309) rfl kq) ?_
    refine own_GH.sk 312 [(.int 1), (.int kk)] (fun _ kq => XS.iconst X270.here hx rfl (hb hby at_311) kq) ?_
    refine own_GH.sk 313 [(.int (kk + (1 : Int32)))] (fun _ kq => XS.iadd X270.here hx rfl (hb hby at_312) rfl kq) ?_
    refine own_GH.si 315 [] (fun _ kq => XS.istore X270.here hx rfl (hb hby at_313) rfl (l' := #[iv ln, iv xa, iv xb, iv xc, iv xd, iv po, iv nv, iv ya, iv yb, iv yc, iv yd, iv pp, rv ha, rv sr, iv co, rv o, .val (.int (kk + (1 : Int32))), .unset]) rfl kq) ?_
    refine own_GH.sk 317 [(.ref o)] (fun _ kq => XS.aload X270.here hx rfl (hb hby at_315) rfl rfl kq) ?_
    refine own_GH.sk 319 [(.int (kk + (1 : Int32))), (.ref o)] (fun _ kq => XS.iload X270.here hx rfl (hb hby at_317) rfl kq) ?_
    refine own_GH.sk 321 [(.int 58), (.int (kk + (1 : Int32))), (.ref o)] (fun _ kq => XS.bipush X270.here hx rfl (hb hby at_319) kq) ?_
    have hk281 : ((kk + (1 : Int32)) + (1 : Int32)).toInt = (((cs ++ [(nar .char (93 : Int32))]) ++ [(nar .char (58 : Int32))]).length : Int) := own_k1 hk271 (Nat.le_trans (own_le1 hk5) (by decide))
    obtain ⟨cl280, Ar280, -, Sz280, -, -, -⟩ := id F272
    obtain ⟨T280, h280, X280, e280, W280, st280⟩ := stC X270 hx hZ e270 Ar280 (j := (kk + (1 : Int32))) (inb_of Sz280 (own_in12 hk271 (Nat.lt_of_le_of_lt (own_le1 hk5) (by decide)))) (g := (mkF m 321 #[iv ln, iv xa, iv xb, iv xc, iv xd, iv po, iv nv, iv ya, iv yb, iv yc, iv yd, iv pp, rv ha, rv sr, iv co, rv o, .val (.int (kk + (1 : Int32))), .unset] [(.int 58), (.int (kk + (1 : Int32))), (.ref o)])) rfl rfl (hb hby at_321)
    have F282 : Arv Z h280 o ko .char (12 : Int32) (own_B ((cs ++ [(nar .char (93 : Int32))]) ++ [(nar .char (58 : Int32))])) (.int 0) := own_pushB F272 (fits_nar_char _) W280 hk271
    have N280 := Fr.snoc X280 N270 go
    have hkS := Nat.le_trans hkS (Keep.of_wr W280).1
    have hR := hR.trans (CHr.wr W280 (Safe.arv hZ.alike F272 (by decide)) hH)
    have hH := CHv.wr W280 (Safe.arv hZ.alike F272 (by decide)) hH
    have F283 := F273.wr W280
    have F284 := F274.other W280 (Or.inl sno)
    have F285 := F275.other W280 (Or.inl sno)
    have F286 := F276.other W280 uno
    have O288 := O278.wr W280 go
    have K289 := K279.wr W280 (Or.inr zo)
    refine own_GH.st (T' := T280) 322 [] st280 ?_
    refine own_GH.sk 324 [(.int (kk + (1 : Int32)))] (fun _ kq => XS.iload X280.here hx rfl (hb hby at_322) rfl kq) ?_
    refine own_GH.sk 325 [(.int 1), (.int (kk + (1 : Int32)))] (fun _ kq => XS.iconst X280.here hx rfl (hb hby at_324) kq) ?_
    refine own_GH.sk 326 [(.int ((kk + (1 : Int32)) + (1 : Int32)))] (fun _ kq => XS.iadd X280.here hx rfl (hb hby at_325) rfl kq) ?_
    refine own_GH.si 328 [] (fun _ kq => XS.istore X280.here hx rfl (hb hby at_326) rfl (l' := #[iv ln, iv xa, iv xb, iv xc, iv xd, iv po, iv nv, iv ya, iv yb, iv yc, iv yd, iv pp, rv ha, rv sr, iv co, rv o, .val (.int ((kk + (1 : Int32)) + (1 : Int32))), .unset]) rfl kq) ?_
    exact rm_law_td cx _ _ _ _ _ nv ya yb yc yd pp ha sr co o ((kk + (1 : Int32)) + (1 : Int32)) u ku mm ys ko ((cs ++ [(nar .char (93 : Int32))]) ++ [(nar .char (58 : Int32))]) (X280.mono (by decide) (by decide)) e280 hS hkS hZ hown hH hR O288 K289 N280 F283 F284 F285 F286 F282 hL4 hp0 hp1 hk281 (own_le1 (own_le1 hk5)) (own_c255 ⟨by decide, by decide⟩ (own_c255 ⟨by decide, by decide⟩ hcb)) ((own_f1 (own_f1 (hq.2 hc299).2 own_k93) own_k58).trans (by rw [own_pre1 (hq.2 hc299).1]; simp only [List.append_assoc, List.cons_append, List.nil_append])) go zo uno sno
set_option maxRecDepth 65536 in
set_option maxHeartbeats 40000000 in
theorem rm_law_n1 (cx : own_Cx_law l Z a0 ws ln xa xb xc xd po csz fm dga cga dgb cgb h0 n0 p e s m below meth c s₁) :
    ∀ (n1_T : State) (n1_h : Heap) (n1_L : List Loc) (n1_vm : Vm) (n1_k : Nat) (ya : Int32) (yb : Int32) (yc : Int32) (yd : Int32) (pp : Int32), (Stand p l e room_1 (s.setVm n1_vm) m #[(.int ln), (.int xa), (.int xb), (.int xc), (.int xd), (.int po)] below meth c n1_T n1_L 0 0) → (n1_T.heap = n1_h) → (s.Since n1_vm n1_k) → (n1_k ≤ n1_h.size) → (Z.Warmed39 (s.setVm n1_vm).vm) → ((s.setVm n1_vm).vm.findClass "com/example/redelivery/redelivery/settings/ListenAddressToStringPinLaw" = some m.cls) → (CHv Z own_EL n1_vm n1_h) → (CHr Z own_EL s.vm h0 n1_vm n1_h) → (Old Z n0 n1_h) → (Keep h0 n1_h []) → (Fr n0 n1_L) → (0 ≤ pp.toInt) → (pp.toInt ≤ 65535) → (¬ ya < (0 : Int32) ∧ ¬ (255 : Int32) < ya) → (¬ yb < (0 : Int32) ∧ ¬ (255 : Int32) < yb) → (¬ yc < (0 : Int32) ∧ ¬ (255 : Int32) < yc) → (¬ yd < (0 : Int32) ∧ ¬ (255 : Int32) < yd) → own_GH Z own_EL p e below s 21 150 (Q_law Z ln xa xb xc xd po csz fm dga cga dgb cgb h0 n0) n1_T (mkF m 39 #[iv ln, iv xa, iv xb, iv xc, iv xd, iv po, iv 1, iv ya, iv yb, iv yc, iv yd, iv pp, .unset, .unset, .unset, .unset, .unset, .unset] []) := by
  obtain ⟨hw, O0, S_CS, hcs, S_IO, hio, S_D1, TB1, S_D2, TB2, Bd, hml, hh⟩ := id cx
  have W_ : ∀ {d : Jvm.Cond} (i : Nat), tables_1[i]? = some d → d.before a0 Z = true := fun i h => hw _ (List.mem_of_getElem? h)
  have hx := Bd.exec
  have hby := Bd.bytes
  have hnm := (name_of_methodNamed Bd.named Bd.method).1
  have ew := own_EW Z a0 hw
  have hws : ∀ d ∈ StrChars.Road.words, d.before a0 Z = true := fun d hd => hw d (own_hws d hd)
  intro n1_T n1_h n1_L n1_vm n1_k ya yb yc yd pp n1_X n1_e hS hkS hZ hown hH hR n1_O n1_K n1_N hp0 hp1 bya byb byc byd
  refine own_GH.sk 41 [(.int 1)] (fun _ kq => XS.iload n1_X.here hx rfl (hb hby at_39) rfl kq) ?_
  refine own_GH.sk 42 [(.int 1), (.int 1)] (fun _ kq => XS.iconst n1_X.here hx rfl (hb hby at_41) kq) ?_
  have hc42 : (1 : Int32) = (1 : Int32) := (by decide)
  refine own_GH.sk 45 [] (fun _ kq => XS.icmpNo n1_X.here hx rfl (hb hby at_42) rfl (teq hc42).2 kq) ?_
  refine own_GH.sk 46 [(.int 1)] (fun _ kq => XS.iconst n1_X.here hx rfl (hb hby at_45) kq) ?_
  obtain ⟨T306, h306, k306, X306, e306, E306, A306, st306⟩ := newP n1_X hx hZ (W_ 5 rfl) n1_e (g := (mkF m 46 #[iv ln, iv xa, iv xb, iv xc, iv xd, iv po, iv 1, iv ya, iv yb, iv yc, iv yd, iv pp, .unset, .unset, .unset, .unset, .unset, .unset] [(.int 1)])) rfl (hb hby at_46) rfl (by decide) (cap := 1) (by decide) (by decide) (by decide) (by decide)
  obtain ⟨b306, g306⟩ : ∃ z, z = n1_h.size := ⟨_, rfl⟩
  rw [← g306] at A306 st306
  have g307 : n0 ≤ b306 := Nat.le_trans n1_O.le (Nat.le_of_eq g306.symm)
  have z308 : h0.size ≤ b306 := Nat.le_trans n1_K.1 (Nat.le_of_eq g306.symm)
  have sf309 : Safe Z own_EL n1_vm n1_h b306 := Safe.new (Nat.le_of_eq g306.symm)
  have hkS := Nat.le_trans hkS E306.1
  have sf310 := Safe.ext E306 hH sf309
  have hR := hR.trans (CHr.ext E306 hH)
  have hH := CHv.ext E306 hH
  have O311 := n1_O.ext E306
  have K312 := n1_K.ext E306
  have F313 : Arv Z h306 b306 k306 .char (1 : Int32) [(.int 0)] (.int 0) := (Arv.new A306 (by decide)).pad (pad_rep [] (.int 0) 1)
  refine own_GH.st (T' := T306) 48 [(.ref b306)] st306 ?_
  refine own_GH.sk 49 [(.ref b306), (.ref b306)] (fun _ kq => XS.dup X306.here hx rfl (hb hby at_48) rfl rfl kq) ?_
  refine own_GH.sk 50 [(.int 0), (.ref b306), (.ref b306)] (fun _ kq => XS.iconst X306.here hx rfl (hb hby at_49) kq) ?_
  refine own_GH.sk 52 [(.int ya), (.int 0), (.ref b306), (.ref b306)] (fun _ kq => XS.iload X306.here hx rfl (hb hby at_50) rfl kq) ?_
  obtain ⟨cl314, Ar314, q1314, Sz314, Nz314, Hh314, Gg314⟩ := id F313
  obtain ⟨T314, h314, X314, e314, W314, st314⟩ := stC X306 hx hZ e306 Ar314 (j := (0 : Int32)) (inb_of Sz314 ⟨by decide, by decide⟩) (g := (mkF m 52 #[iv ln, iv xa, iv xb, iv xc, iv xd, iv po, iv 1, iv ya, iv yb, iv yc, iv yd, iv pp, .unset, .unset, .unset, .unset, .unset, .unset] [(.int ya), (.int 0), (.ref b306), (.ref b306)])) rfl rfl (hb hby at_52)
  have F315 : Arv Z h314 b306 k306 .char (1 : Int32) [(.int (nar .char ya))] (.int 0) := Arv.set Ar314 q1314 Sz314 Nz314 Hh314 Gg314 (fits_nar_char _) W314 0 rfl (Nat.le_of_ble_eq_true rfl)
  have N314 := Fr.snoc X314 n1_N g307
  have hkS := Nat.le_trans hkS (Keep.of_wr W314).1
  have sf316 := Safe.wr W314 sf310 hH sf310
  have hR := hR.trans (CHr.wr W314 sf310 hH)
  have hH := CHv.wr W314 sf310 hH
  have O318 := O311.wr W314 g307
  have K319 := K312.wr W314 (Or.inr z308)
  refine own_GH.st (T' := T314) 53 [(.ref b306)] st314 ?_
  refine own_GH.si 55 [] (fun _ kq => XS.astore X314.here hx rfl (hb hby at_53) rfl rfl (l' := #[iv ln, iv xa, iv xb, iv xc, iv xd, iv po, iv 1, iv ya, iv yb, iv yc, iv yd, iv pp, rv b306, .unset, .unset, .unset, .unset, .unset]) rfl kq) ?_
  refine own_GH.sk 136 [] (fun _ kq => XS.goto X314.here hx rfl (pc0 := 55) (pc' := 136) rfl (hb hby at_55) (by decide) (by decide) kq) ?_
  obtain ⟨T320, h320, X320, e320, E320, A320, D320, -, st320⟩ := newO X314 hx hZ hown (W_ 6 rfl) (W_ 7 rfl) (W_ 8 rfl) e314 (g := (mkF m 136 #[iv ln, iv xa, iv xb, iv xc, iv xd, iv po, iv 1, iv ya, iv yb, iv yc, iv yd, iv pp, rv b306, .unset, .unset, .unset, .unset, .unset] [])) rfl (hb hby at_136) (by decide) (by decide)
  obtain ⟨b320, g320⟩ : ∃ z, z = h314.size := ⟨_, rfl⟩
  rw [← g320] at A320 D320 st320
  have ne321 : b306 ≠ b320 := Nat.ne_of_lt (Nat.lt_of_lt_of_le F315.lt (Nat.le_of_eq g320.symm))
  have g322 : n0 ≤ b320 := Nat.le_trans O318.le (Nat.le_of_eq g320.symm)
  have z323 : h0.size ≤ b320 := Nat.le_trans K319.1 (Nat.le_of_eq g320.symm)
  have sf324 : Safe Z own_EL n1_vm h314 b320 := Safe.new (Nat.le_of_eq g320.symm)
  have hkS := Nat.le_trans hkS E320.1
  have sf325 := Safe.ext E320 hH sf316
  have sf326 := Safe.ext E320 hH sf324
  have hR := hR.trans (CHr.ext E320 hH)
  have hH := CHv.ext E320 hH
  have F327 := F315.ext E320
  have O328 := O318.ext E320
  have K329 := K319.ext E320
  have F330 : Fld Z h320 b320 "java/lang/String" "coder" "B" (.int 0) := D320 (Or.inr (W_ 32 rfl)) (ty := .byte) (by decide)
  have F331 : Fld Z h320 b320 "java/lang/String" "value" "[B" .null := D320 (Or.inr (W_ 34 rfl)) (ty := (.array .byte)) (by decide)
  refine own_GH.st (T' := T320) 139 [(.ref b320)] st320 ?_
  refine own_GH.sk 140 [(.ref b320), (.ref b320)] (fun _ kq => XS.dup X320.here hx rfl (hb hby at_139) rfl rfl kq) ?_
  refine own_GH.sk 142 [(.ref b306), (.ref b320), (.ref b320)] (fun _ kq => XS.aload X320.here hx rfl (hb hby at_140) rfl rfl kq) ?_
  have hp332 : ∀ c ∈ ([(nar .char ya)] : List Int32), ¬ c < 0 ∧ ¬ (255 : Int32) < c := by
    intro c hc
    simp only [List.mem_cons, List.not_mem_nil, or_false] at hc
    rcases hc with rfl
    · exact own_narb bya
  obtain ⟨_, _, ⟨T333, L333, k333, n333⟩, -, X333, ⟨Lc333, hQ333, l333, y333, z333⟩, st333⟩ := X320.specialBack hx (y := own_y43) rfl hown (mvT hZ (W_ 9 rfl)) (mvT hZ (W_ 10 rfl)) (mvT hZ (W_ 11 rfl)) (by decide) (StrChars.Road.backV (W := 1) hZ hws (kI := 4) (W_ 7 rfl) (cs := ([(nar .char ya)] : List Int32)) (bs := (([(nar .char ya)] : List Int32).map (fun c => c.toInt8.toInt32))) (n := 1) g322 O328.le A320 F331 F330 F327 (Sta.ext O328.2 S_CS) hcs rfl rfl (by decide) (by decide) hp332 rfl (by decide) (by decide)) (g := (mkF m 142 #[iv ln, iv xa, iv xb, iv xc, iv xd, iv po, iv 1, iv ya, iv yb, iv yc, iv yd, iv pp, rv b306, .unset, .unset, .unset, .unset, .unset] [(.ref b306), (.ref b320), (.ref b320)])) rfl (by rw [hml]; rfl) (Steps.refl _) (a := b320) (argsL := [(.ref b306)]) (rest := [(.ref b320)]) (lenOf pd__28_5bC_29V rfl) rfl (by show 2 * 0 + _ ≤ _; exact Nat.le_of_eq rfl) (hb hby at_142) (fun _ _ => ⟨rfl, e320, (by decide : 2 + 1 ≤ _), (by decide : 5 + 1 ≤ _)⟩)
  dsimp only [Pt.U, Pt.locs, Pt.cells, Pt.slots] at X333 l333 y333 z333 st333 hQ333
  subst l333 y333 z333
  obtain ⟨rfl, P334, P335, P336, P337, b338, kx339, P340, P341, P342, P343, P344⟩ := hQ333
  have N333 := Fr.app N314 P334
  have ne345 : b306 ≠ b338 := Nat.ne_of_lt (Nat.lt_of_lt_of_le F327.lt P341)
  have ne346 : b320 ≠ b338 := Nat.ne_of_lt (Nat.lt_of_lt_of_le A320.lt P341)
  have g347 : n0 ≤ b338 := Nat.le_trans O328.le P341
  have z348 : h0.size ≤ b338 := Nat.le_trans K329.1 P341
  have sf349 : Safe Z own_EL n1_vm h320 b338 := Safe.new P341
  have hkS := Nat.le_trans hkS P335.1
  have sf350 := Safe.keep P335 (sfS sf326 sf0) hH sf325
  have sf351 := Safe.keep P335 (sfS sf326 sf0) hH sf326
  have sf352 := Safe.keep P335 (sfS sf326 sf0) hH sf349
  have hR := hR.trans (CHr.keep P335 (sfS sf326 sf0) hH)
  have hH := CHv.keep P335 (sfS sf326 sf0) hH
  have F353 := F327.keep P335 (ninS ne321 nin0)
  have F354 := A320.keep P335
  have O355 := O328.keep P335 (allS g322 all0)
  have K356 := K329.trans P335 (allS (Or.inr z323) all0)
  refine own_GH.st (T' := T333) 145 [(.ref b320)] (fun _ kq => st333.trans kq) ?_
  obtain ⟨ys, hys⟩ : ∃ z : List Int32, z = [own_by (nar .char ya)] := ⟨_, rfl⟩
  have F357 : Arv Z T333.heap b338 kx339 .byte (1 : Int32) (own_B ys) (.int 0) := by rw [hys]; exact P344
  have hL4 : own_L4 ys (1 : Int32) := Or.inl (⟨_, hys, rfl⟩)
  refine own_GH.si 147 [] (fun _ kq => XS.astore X333.here hx rfl (hb hby at_145) rfl rfl (l' := #[iv ln, iv xa, iv xb, iv xc, iv xd, iv po, iv 1, iv ya, iv yb, iv yc, iv yd, iv pp, rv b306, rv b320, .unset, .unset, .unset, .unset]) rfl kq) ?_
  have th : ∀ (th_T : State) (th_h : Heap) (th_L : List Loc) (th_vm : Vm) (th_k : Nat) (co : Int32) (o : Addr) (kk : Int32) (ko : ClassId) (cs : List Int32), (Stand p l e room_1 (s.setVm th_vm) m #[(.int ln), (.int xa), (.int xb), (.int xc), (.int xd), (.int po)] below meth c th_T th_L 4 18) → (th_T.heap = th_h) → (s.Since th_vm th_k) → (th_k ≤ th_h.size) → (Z.Warmed39 (s.setVm th_vm).vm) → ((s.setVm th_vm).vm.findClass "com/example/redelivery/redelivery/settings/ListenAddressToStringPinLaw" = some m.cls) → (CHv Z own_EL th_vm th_h) → (CHr Z own_EL s.vm h0 th_vm th_h) → (Old Z n0 th_h) → (Keep h0 th_h []) → (Fr n0 th_L) → (Exa Z th_h b320 "java/lang/String") → (Fld Z th_h b320 "java/lang/String" "coder" "B" (.int 0)) → (Fld Z th_h b320 "java/lang/String" "value" "[B" (.ref b338)) → (Arv Z th_h b338 kx339 .byte (1 : Int32) (own_B ys) (.int 0)) → (Arv Z th_h o ko .char (12 : Int32) (own_B cs) (.int 0)) → (kk.toInt = (cs.length : Int)) → (cs.length ≤ 1) → (∀ c ∈ cs, ¬ c < (0 : Int32) ∧ ¬ (255 : Int32) < c) → ((co = (0 : Int32) → ¬ (58 : Int32) ∈ ys ∧ cs.map own_by = []) ∧ (¬ co = (0 : Int32) → (58 : Int32) ∈ ys ∧ cs.map own_by = [] ++ [(91 : Int32)])) → (n0 ≤ o) → (h0.size ≤ o) → (b338 ≠ o) → (b320 ≠ o) → own_GH Z own_EL p e below s 21 150 (Q_law Z ln xa xb xc xd po csz fm dga cga dgb cgb h0 n0) th_T (mkF m 227 #[iv ln, iv xa, iv xb, iv xc, iv xd, iv po, iv 1, iv ya, iv yb, iv yc, iv yd, iv pp, rv b306, rv b320, iv co, rv o, iv kk, .unset] []) := by
    intro th_T th_h th_L th_vm th_k co o kk ko cs th_X th_e hS hkS hZ hown hH hR th_O th_K th_N th_F0 th_F1 th_F2 th_F3 th_F4 hk hk1 hcb hq0 go zo uno sno
    refine own_GH.sk 229 [(.ref o)] (fun _ kq => XS.aload th_X.here hx rfl (hb hby at_227) rfl rfl kq) ?_
    refine own_GH.sk 231 [(.int kk), (.ref o)] (fun _ kq => XS.iload th_X.here hx rfl (hb hby at_229) rfl kq) ?_
    refine own_GH.sk 233 [(.int ya), (.int kk), (.ref o)] (fun _ kq => XS.iload th_X.here hx rfl (hb hby at_231) rfl kq) ?_
    have hk359 : (kk + (1 : Int32)).toInt = ((cs ++ [(nar .char ya)]).length : Int) := own_k1 hk (Nat.le_trans hk1 (by decide))
    obtain ⟨cl358, Ar358, -, Sz358, -, -, -⟩ := id th_F4
    obtain ⟨T358, h358, X358, e358, W358, st358⟩ := stC th_X hx hZ th_e Ar358 (j := kk) (inb_of Sz358 (own_in12 hk (Nat.lt_of_le_of_lt hk1 (by decide)))) (g := (mkF m 233 #[iv ln, iv xa, iv xb, iv xc, iv xd, iv po, iv 1, iv ya, iv yb, iv yc, iv yd, iv pp, rv b306, rv b320, iv co, rv o, iv kk, .unset] [(.int ya), (.int kk), (.ref o)])) rfl rfl (hb hby at_233)
    have F360 : Arv Z h358 o ko .char (12 : Int32) (own_B (cs ++ [(nar .char ya)])) (.int 0) := own_pushB th_F4 (fits_nar_char _) W358 hk
    have N358 := Fr.snoc X358 th_N go
    have hkS := Nat.le_trans hkS (Keep.of_wr W358).1
    have hR := hR.trans (CHr.wr W358 (Safe.arv hZ.alike th_F4 (by decide)) hH)
    have hH := CHv.wr W358 (Safe.arv hZ.alike th_F4 (by decide)) hH
    have F361 := th_F0.wr W358
    have F362 := th_F1.other W358 (Or.inl sno)
    have F363 := th_F2.other W358 (Or.inl sno)
    have F364 := th_F3.other W358 uno
    have O366 := th_O.wr W358 go
    have K367 := th_K.wr W358 (Or.inr zo)
    refine own_GH.st (T' := T358) 234 [] st358 ?_
    refine own_GH.sk 236 [(.int kk)] (fun _ kq => XS.iload X358.here hx rfl (hb hby at_234) rfl kq) ?_
    refine own_GH.sk 237 [(.int 1), (.int kk)] (fun _ kq => XS.iconst X358.here hx rfl (hb hby at_236) kq) ?_
    refine own_GH.sk 238 [(.int (kk + (1 : Int32)))] (fun _ kq => XS.iadd X358.here hx rfl (hb hby at_237) rfl kq) ?_
    refine own_GH.si 240 [] (fun _ kq => XS.istore X358.here hx rfl (hb hby at_238) rfl (l' := #[iv ln, iv xa, iv xb, iv xc, iv xd, iv po, iv 1, iv ya, iv yb, iv yc, iv yd, iv pp, rv b306, rv b320, iv co, rv o, .val (.int (kk + (1 : Int32))), .unset]) rfl kq) ?_
    refine own_GH.sk 242 [(.int 1)] (fun _ kq => XS.iload X358.here hx rfl (hb hby at_240) rfl kq) ?_
    refine own_GH.sk 243 [(.int 1), (.int 1)] (fun _ kq => XS.iconst X358.here hx rfl (hb hby at_242) kq) ?_
    have hc243 : ¬ ((1 : Int32) < (1 : Int32)) := (by decide)
    refine own_GH.sk 259 [] (fun _ kq => XS.icmpYes X358.here hx rfl (pc0 := 243) (pc' := 259) rfl (hb hby at_243) rfl (flt hc243).2.2.2 (by decide) (by decide) kq) ?_
    refine own_GH.sk 261 [(.int 1)] (fun _ kq => XS.iload X358.here hx rfl (hb hby at_259) rfl kq) ?_
    refine own_GH.sk 262 [(.int 2), (.int 1)] (fun _ kq => XS.iconst X358.here hx rfl (hb hby at_261) kq) ?_
    have hc262 : ¬ ((2 : Int32) < (1 : Int32)) := (by decide)
    refine own_GH.sk 278 [] (fun _ kq => XS.icmpYes X358.here hx rfl (pc0 := 262) (pc' := 278) rfl (hb hby at_262) rfl (flt hc262).2.2.2 (by decide) (by decide) kq) ?_
    refine own_GH.sk 280 [(.int 1)] (fun _ kq => XS.iload X358.here hx rfl (hb hby at_278) rfl kq) ?_
    refine own_GH.sk 281 [(.int 3), (.int 1)] (fun _ kq => XS.iconst X358.here hx rfl (hb hby at_280) kq) ?_
    have hc281 : ¬ ((3 : Int32) < (1 : Int32)) := (by decide)
    refine own_GH.sk 297 [] (fun _ kq => XS.icmpYes X358.here hx rfl (pc0 := 281) (pc' := 297) rfl (hb hby at_281) rfl (flt hc281).2.2.2 (by decide) (by decide) kq) ?_
    exact rm_law_tb cx _ _ _ _ _ (1 : Int32) ya yb yc yd pp b306 b320 co o (kk + (1 : Int32)) b338 kx339 (1 : Int32) ys ko (cs ++ [(nar .char ya)]) (X358.mono (by decide) (by decide)) e358 hS hkS hZ hown hH hR O366 K367 N358 F361 F363 F362 F364 F360 hL4 hp0 hp1 hk359 (Nat.le_trans (own_le1 hk1) (by decide)) (own_c255 (own_narb bya) hcb) (⟨fun z => ⟨(hq0.1 z).1, ((own_f1 (hq0.1 z).2 rfl).trans (by rw [hys]; try simp only [List.append_assoc, List.cons_append, List.nil_append]))⟩, fun z => ⟨(hq0.2 z).1, ((own_f1 (hq0.2 z).2 rfl).trans (by rw [hys]; try simp only [List.append_assoc, List.cons_append, List.nil_append]))⟩⟩) go zo uno sno
  have tc : ∀ (tc_T : State) (tc_h : Heap) (tc_L : List Loc) (tc_vm : Vm) (tc_k : Nat) (dm : Int32), (Stand p l e room_1 (s.setVm tc_vm) m #[(.int ln), (.int xa), (.int xb), (.int xc), (.int xd), (.int po)] below meth c tc_T tc_L 3 6) → (tc_T.heap = tc_h) → (s.Since tc_vm tc_k) → (tc_k ≤ tc_h.size) → (Z.Warmed39 (s.setVm tc_vm).vm) → ((s.setVm tc_vm).vm.findClass "com/example/redelivery/redelivery/settings/ListenAddressToStringPinLaw" = some m.cls) → (CHv Z own_EL tc_vm tc_h) → (CHr Z own_EL s.vm h0 tc_vm tc_h) → (Old Z n0 tc_h) → (Keep h0 tc_h []) → (Fr n0 tc_L) → (Exa Z tc_h b320 "java/lang/String") → (Fld Z tc_h b320 "java/lang/String" "coder" "B" (.int 0)) → (Fld Z tc_h b320 "java/lang/String" "value" "[B" (.ref b338)) → (Arv Z tc_h b338 kx339 .byte (1 : Int32) (own_B ys) (.int 0)) → ((58 : Int32) ∈ ys) → own_GH Z own_EL p e below s 21 150 (Q_law Z ln xa xb xc xd po csz fm dga cga dgb cgb h0 n0) tc_T (mkF m 193 #[iv ln, iv xa, iv xb, iv xc, iv xd, iv po, iv 1, iv ya, iv yb, iv yc, iv yd, iv pp, rv b306, rv b320, .unset, .unset, .unset, .unset] []) := by
    intro tc_T tc_h tc_L tc_vm tc_k dm tc_X tc_e hS hkS hZ hown hH hR tc_O tc_K tc_N tc_F0 tc_F1 tc_F2 tc_F3 hcol
    refine own_GH.sk 194 [(.int 1)] (fun _ kq => XS.iconst tc_X.here hx rfl (hb hby at_193) kq) ?_
    refine own_GH.sk 198 [(.int 1)] (fun _ kq => XS.goto tc_X.here hx rfl (pc0 := 194) (pc' := 198) rfl (hb hby at_194) (by decide) (by decide) kq) ?_
    refine own_GH.si 200 [] (fun _ kq => XS.istore tc_X.here hx rfl (hb hby at_198) rfl (l' := #[iv ln, iv xa, iv xb, iv xc, iv xd, iv po, iv 1, iv ya, iv yb, iv yc, iv yd, iv pp, rv b306, rv b320, iv 1, .unset, .unset, .unset]) rfl kq) ?_
    refine own_GH.sk 202 [(.int 12)] (fun _ kq => XS.bipush tc_X.here hx rfl (hb hby at_200) kq) ?_
    obtain ⟨T368, h368, k368, X368, e368, E368, A368, st368⟩ := newP tc_X hx hZ (W_ 5 rfl) tc_e (g := (mkF m 202 #[iv ln, iv xa, iv xb, iv xc, iv xd, iv po, iv 1, iv ya, iv yb, iv yc, iv yd, iv pp, rv b306, rv b320, iv 1, .unset, .unset, .unset] [(.int 12)])) rfl (hb hby at_202) rfl (by decide) (cap := 12) (by decide) (by decide) (by decide) (by decide)
    obtain ⟨b368, g368⟩ : ∃ z, z = tc_h.size := ⟨_, rfl⟩
    rw [← g368] at A368 st368
    have ne369 : b320 ≠ b368 := Nat.ne_of_lt (Nat.lt_of_lt_of_le tc_F0.lt (Nat.le_of_eq g368.symm))
    have ne370 : b338 ≠ b368 := Nat.ne_of_lt (Nat.lt_of_lt_of_le tc_F3.lt (Nat.le_of_eq g368.symm))
    have g371 : n0 ≤ b368 := Nat.le_trans tc_O.le (Nat.le_of_eq g368.symm)
    have z372 : h0.size ≤ b368 := Nat.le_trans tc_K.1 (Nat.le_of_eq g368.symm)
    have sf373 : Safe Z own_EL tc_vm tc_h b368 := Safe.new (Nat.le_of_eq g368.symm)
    have hkS := Nat.le_trans hkS E368.1
    have sf374 := Safe.ext E368 hH sf373
    have hR := hR.trans (CHr.ext E368 hH)
    have hH := CHv.ext E368 hH
    have F375 := tc_F0.ext E368
    have F376 := tc_F1.ext E368
    have F377 := tc_F2.ext E368
    have F378 := tc_F3.ext E368
    have O379 := tc_O.ext E368
    have K380 := tc_K.ext E368
    have F381 : Arv Z h368 b368 k368 .char (12 : Int32) [] (.int 0) := Arv.new A368 (by decide)
    refine own_GH.st (T' := T368) 204 [(.ref b368)] st368 ?_
    have F382 : Arv Z h368 b368 k368 .char (12 : Int32) (own_B ([] : List Int32)) (.int 0) := F381
    have hkz : (0 : Int32).toInt = ((([] : List Int32).length : Nat) : Int) := by decide
    refine own_GH.si 206 [] (fun _ kq => XS.astore X368.here hx rfl (hb hby at_204) rfl rfl (l' := #[iv ln, iv xa, iv xb, iv xc, iv xd, iv po, iv 1, iv ya, iv yb, iv yc, iv yd, iv pp, rv b306, rv b320, iv 1, rv b368, .unset, .unset]) rfl kq) ?_
    refine own_GH.sk 207 [(.int 0)] (fun _ kq => XS.iconst X368.here hx rfl (hb hby at_206) kq) ?_
    refine own_GH.si 209 [] (fun _ kq => XS.istore X368.here hx rfl (hb hby at_207) rfl (l' := #[iv ln, iv xa, iv xb, iv xc, iv xd, iv po, iv 1, iv ya, iv yb, iv yc, iv yd, iv pp, rv b306, rv b320, iv 1, rv b368, iv 0, .unset]) rfl kq) ?_
    refine own_GH.sk 211 [(.int 1)] (fun _ kq => XS.iload X368.here hx rfl (hb hby at_209) rfl kq) ?_
    have hc211 : ¬ ((1 : Int32) = (0 : Int32)) := (by decide)
    refine own_GH.sk 214 [] (fun _ kq => XS.ifNo X368.here hx rfl (hb hby at_211) rfl ((if0 _ _).trans (feq hc211).1) kq) ?_
    refine own_GH.sk 216 [(.ref b368)] (fun _ kq => XS.aload X368.here hx rfl (hb hby at_214) rfl rfl kq) ?_
    refine own_GH.sk 218 [(.int 0), (.ref b368)] (fun _ kq => XS.iload X368.here hx rfl (hb hby at_216) rfl kq) ?_
    refine own_GH.sk 220 [(.int 91), (.int 0), (.ref b368)] (fun _ kq => XS.bipush X368.here hx rfl (hb hby at_218) kq) ?_
    have hk384 : ((0 : Int32) + (1 : Int32)).toInt = ((([] : List Int32) ++ [(nar .char (91 : Int32))]).length : Int) := own_k1 hkz (Nat.le_trans (Nat.le_refl 0) (by decide))
    obtain ⟨cl383, Ar383, -, Sz383, -, -, -⟩ := id F382
    obtain ⟨T383, h383, X383, e383, W383, st383⟩ := stC X368 hx hZ e368 Ar383 (j := (0 : Int32)) (inb_of Sz383 (own_in12 hkz (Nat.lt_of_le_of_lt (Nat.le_refl 0) (by decide)))) (g := (mkF m 220 #[iv ln, iv xa, iv xb, iv xc, iv xd, iv po, iv 1, iv ya, iv yb, iv yc, iv yd, iv pp, rv b306, rv b320, iv 1, rv b368, iv 0, .unset] [(.int 91), (.int 0), (.ref b368)])) rfl rfl (hb hby at_220)
    have F385 : Arv Z h383 b368 k368 .char (12 : Int32) (own_B (([] : List Int32) ++ [(nar .char (91 : Int32))])) (.int 0) := own_pushB F382 (fits_nar_char _) W383 hkz
    have N383 := Fr.snoc X383 tc_N g371
    have hkS := Nat.le_trans hkS (Keep.of_wr W383).1
    have sf386 := Safe.wr W383 sf374 hH sf374
    have hR := hR.trans (CHr.wr W383 sf374 hH)
    have hH := CHv.wr W383 sf374 hH
    have F387 := F375.wr W383
    have F388 := F376.other W383 (Or.inl ne369)
    have F389 := F377.other W383 (Or.inl ne369)
    have F390 := F378.other W383 ne370
    have O392 := O379.wr W383 g371
    have K393 := K380.wr W383 (Or.inr z372)
    refine own_GH.st (T' := T383) 221 [] st383 ?_
    refine own_GH.sk 223 [(.int 0)] (fun _ kq => XS.iload X383.here hx rfl (hb hby at_221) rfl kq) ?_
    refine own_GH.sk 224 [(.int 1), (.int 0)] (fun _ kq => XS.iconst X383.here hx rfl (hb hby at_223) kq) ?_
    refine own_GH.sk 225 [(.int ((0 : Int32) + (1 : Int32)))] (fun _ kq => XS.iadd X383.here hx rfl (hb hby at_224) rfl kq) ?_
    refine own_GH.si 227 [] (fun _ kq => XS.istore X383.here hx rfl (hb hby at_225) rfl (l' := #[iv ln, iv xa, iv xb, iv xc, iv xd, iv po, iv 1, iv ya, iv yb, iv yc, iv yd, iv pp, rv b306, rv b320, iv 1, rv b368, .val (.int ((0 : Int32) + (1 : Int32))), .unset]) rfl kq) ?_
    exact th _ _ _ _ _ (1 : Int32) b368 ((0 : Int32) + (1 : Int32)) k368 (([] : List Int32) ++ [(nar .char (91 : Int32))]) (X383.mono (by decide) (by decide)) e383 hS hkS hZ hown hH hR O392 K393 N383 F387 F388 F389 F390 F385 hk384 (own_le1 (Nat.le_refl 0)) (own_c255 ⟨by decide, by decide⟩ own_n255) (⟨fun z => absurd z (by decide), fun _ => ⟨hcol, own_f1 rfl own_k91⟩⟩) g371 z372 ne370 ne369
  refine own_GH.sk 149 [(.int ya)] (fun _ kq => XS.iload X333.here hx rfl (hb hby at_147) rfl kq) ?_
  refine own_GH.sk 151 [(.int 58), (.int ya)] (fun _ kq => XS.bipush X333.here hx rfl (hb hby at_149) kq) ?_
  rcases Classical.em (ya = (58 : Int32)) with hc151 | hc151
  · refine own_GH.sk 193 [] (fun _ kq => XS.icmpYes X333.here hx rfl (pc0 := 151) (pc' := 193) rfl (hb hby at_151) rfl (teq hc151).1 (by decide) (by decide) kq) ?_
    exact tc _ _ _ _ _ (0 : Int32) (X333.mono (by decide) (by decide)) rfl hS hkS hZ hown hH hR O355 K356 N333 P336 P337 P343 F357 (by rw [hys, own_m58 bya hc151]; simp)
  · refine own_GH.sk 154 [] (fun _ kq => XS.icmpNo X333.here hx rfl (hb hby at_151) rfl (feq hc151).1 kq) ?_
    refine own_GH.sk 156 [(.int 1)] (fun _ kq => XS.iload X333.here hx rfl (hb hby at_154) rfl kq) ?_
    refine own_GH.sk 157 [(.int 1), (.int 1)] (fun _ kq => XS.iconst X333.here hx rfl (hb hby at_156) kq) ?_
    have hc157 : ¬ ((1 : Int32) < (1 : Int32)) := (by decide)
    refine own_GH.sk 167 [] (fun _ kq => XS.icmpYes X333.here hx rfl (pc0 := 157) (pc' := 167) rfl (hb hby at_157) rfl (flt hc157).2.2.2 (by decide) (by decide) kq) ?_
    refine own_GH.sk 169 [(.int 1)] (fun _ kq => XS.iload X333.here hx rfl (hb hby at_167) rfl kq) ?_
    refine own_GH.sk 170 [(.int 2), (.int 1)] (fun _ kq => XS.iconst X333.here hx rfl (hb hby at_169) kq) ?_
    have hc170 : ¬ ((2 : Int32) < (1 : Int32)) := (by decide)
    refine own_GH.sk 180 [] (fun _ kq => XS.icmpYes X333.here hx rfl (pc0 := 170) (pc' := 180) rfl (hb hby at_170) rfl (flt hc170).2.2.2 (by decide) (by decide) kq) ?_
    refine own_GH.sk 182 [(.int 1)] (fun _ kq => XS.iload X333.here hx rfl (hb hby at_180) rfl kq) ?_
    refine own_GH.sk 183 [(.int 3), (.int 1)] (fun _ kq => XS.iconst X333.here hx rfl (hb hby at_182) kq) ?_
    have hc183 : ¬ ((3 : Int32) < (1 : Int32)) := (by decide)
    refine own_GH.sk 197 [] (fun _ kq => XS.icmpYes X333.here hx rfl (pc0 := 183) (pc' := 197) rfl (hb hby at_183) rfl (flt hc183).2.2.2 (by decide) (by decide) kq) ?_
    have hcol : ¬ (58 : Int32) ∈ ys := by
      rw [hys]
      simp only [List.mem_cons, List.not_mem_nil, or_false, not_or]
      exact fun q => hc151 ((own_by58 bya).mp q.symm)
    refine own_GH.sk 198 [(.int 0)] (fun _ kq => XS.iconst X333.here hx rfl (hb hby at_197) kq) ?_
    refine own_GH.si 200 [] (fun _ kq => XS.istore X333.here hx rfl (hb hby at_198) rfl (l' := #[iv ln, iv xa, iv xb, iv xc, iv xd, iv po, iv 1, iv ya, iv yb, iv yc, iv yd, iv pp, rv b306, rv b320, iv 0, .unset, .unset, .unset]) rfl kq) ?_
    refine own_GH.sk 202 [(.int 12)] (fun _ kq => XS.bipush X333.here hx rfl (hb hby at_200) kq) ?_
    obtain ⟨T394, h394, k394, X394, e394, E394, A394, st394⟩ := newP X333 hx hZ (W_ 5 rfl) rfl (g := (mkF m 202 #[iv ln, iv xa, iv xb, iv xc, iv xd, iv po, iv 1, iv ya, iv yb, iv yc, iv yd, iv pp, rv b306, rv b320, iv 0, .unset, .unset, .unset] [(.int 12)])) rfl (hb hby at_202) rfl (by decide) (cap := 12) (by decide) (by decide) (by decide) (by decide)
    obtain ⟨b394, g394⟩ : ∃ z, z = T333.heap.size := ⟨_, rfl⟩
    rw [← g394] at A394 st394
    have ne395 : b320 ≠ b394 := Nat.ne_of_lt (Nat.lt_of_lt_of_le P336.lt (Nat.le_of_eq g394.symm))
    have ne396 : b338 ≠ b394 := Nat.ne_of_lt (Nat.lt_of_lt_of_le F357.lt (Nat.le_of_eq g394.symm))
    have g397 : n0 ≤ b394 := Nat.le_trans O355.le (Nat.le_of_eq g394.symm)
    have z398 : h0.size ≤ b394 := Nat.le_trans K356.1 (Nat.le_of_eq g394.symm)
    have sf399 : Safe Z own_EL n1_vm T333.heap b394 := Safe.new (Nat.le_of_eq g394.symm)
    have hkS := Nat.le_trans hkS E394.1
    have sf400 := Safe.ext E394 hH sf350
    have sf401 := Safe.ext E394 hH sf351
    have sf402 := Safe.ext E394 hH sf352
    have sf403 := Safe.ext E394 hH sf399
    have hR := hR.trans (CHr.ext E394 hH)
    have hH := CHv.ext E394 hH
    have F404 := P336.ext E394
    have F405 := P337.ext E394
    have F406 := P343.ext E394
    have F407 := F357.ext E394
    have O408 := O355.ext E394
    have K409 := K356.ext E394
    have F410 : Arv Z h394 b394 k394 .char (12 : Int32) [] (.int 0) := Arv.new A394 (by decide)
    refine own_GH.st (T' := T394) 204 [(.ref b394)] st394 ?_
    have F411 : Arv Z h394 b394 k394 .char (12 : Int32) (own_B ([] : List Int32)) (.int 0) := F410
    have hkz : (0 : Int32).toInt = ((([] : List Int32).length : Nat) : Int) := by decide
    refine own_GH.si 206 [] (fun _ kq => XS.astore X394.here hx rfl (hb hby at_204) rfl rfl (l' := #[iv ln, iv xa, iv xb, iv xc, iv xd, iv po, iv 1, iv ya, iv yb, iv yc, iv yd, iv pp, rv b306, rv b320, iv 0, rv b394, .unset, .unset]) rfl kq) ?_
    refine own_GH.sk 207 [(.int 0)] (fun _ kq => XS.iconst X394.here hx rfl (hb hby at_206) kq) ?_
    refine own_GH.si 209 [] (fun _ kq => XS.istore X394.here hx rfl (hb hby at_207) rfl (l' := #[iv ln, iv xa, iv xb, iv xc, iv xd, iv po, iv 1, iv ya, iv yb, iv yc, iv yd, iv pp, rv b306, rv b320, iv 0, rv b394, iv 0, .unset]) rfl kq) ?_
    refine own_GH.sk 211 [(.int 0)] (fun _ kq => XS.iload X394.here hx rfl (hb hby at_209) rfl kq) ?_
    have hc211 : (0 : Int32) = (0 : Int32) := (by decide)
    refine own_GH.sk 227 [] (fun _ kq => XS.ifYes X394.here hx rfl (pc0 := 211) (pc' := 227) rfl (hb hby at_211) rfl ((if0 _ _).trans (teq hc211).1) (by decide) (by decide) kq) ?_
    exact th _ _ _ _ _ (0 : Int32) b394 (0 : Int32) k394 ([] : List Int32) (X394.mono (by decide) (by decide)) e394 hS hkS hZ hown hH hR O408 K409 N333 F404 F405 F406 F407 F411 hkz (Nat.le_trans (Nat.le_refl 0) (by decide)) own_n255 (⟨fun _ => ⟨hcol, rfl⟩, fun z => absurd rfl z⟩) g397 z398 ne396 ne395
set_option maxRecDepth 65536 in
set_option maxHeartbeats 40000000 in
theorem rm_law_n2 (cx : own_Cx_law l Z a0 ws ln xa xb xc xd po csz fm dga cga dgb cgb h0 n0 p e s m below meth c s₁) :
    ∀ (n2_T : State) (n2_h : Heap) (n2_L : List Loc) (n2_vm : Vm) (n2_k : Nat) (ya : Int32) (yb : Int32) (yc : Int32) (yd : Int32) (pp : Int32), (Stand p l e room_1 (s.setVm n2_vm) m #[(.int ln), (.int xa), (.int xb), (.int xc), (.int xd), (.int po)] below meth c n2_T n2_L 0 0) → (n2_T.heap = n2_h) → (s.Since n2_vm n2_k) → (n2_k ≤ n2_h.size) → (Z.Warmed39 (s.setVm n2_vm).vm) → ((s.setVm n2_vm).vm.findClass "com/example/redelivery/redelivery/settings/ListenAddressToStringPinLaw" = some m.cls) → (CHv Z own_EL n2_vm n2_h) → (CHr Z own_EL s.vm h0 n2_vm n2_h) → (Old Z n0 n2_h) → (Keep h0 n2_h []) → (Fr n0 n2_L) → (0 ≤ pp.toInt) → (pp.toInt ≤ 65535) → (¬ ya < (0 : Int32) ∧ ¬ (255 : Int32) < ya) → (¬ yb < (0 : Int32) ∧ ¬ (255 : Int32) < yb) → (¬ yc < (0 : Int32) ∧ ¬ (255 : Int32) < yc) → (¬ yd < (0 : Int32) ∧ ¬ (255 : Int32) < yd) → own_GH Z own_EL p e below s 21 150 (Q_law Z ln xa xb xc xd po csz fm dga cga dgb cgb h0 n0) n2_T (mkF m 39 #[iv ln, iv xa, iv xb, iv xc, iv xd, iv po, iv 2, iv ya, iv yb, iv yc, iv yd, iv pp, .unset, .unset, .unset, .unset, .unset, .unset] []) := by
  obtain ⟨hw, O0, S_CS, hcs, S_IO, hio, S_D1, TB1, S_D2, TB2, Bd, hml, hh⟩ := id cx
  have W_ : ∀ {d : Jvm.Cond} (i : Nat), tables_1[i]? = some d → d.before a0 Z = true := fun i h => hw _ (List.mem_of_getElem? h)
  have hx := Bd.exec
  have hby := Bd.bytes
  have hnm := (name_of_methodNamed Bd.named Bd.method).1
  have ew := own_EW Z a0 hw
  have hws : ∀ d ∈ StrChars.Road.words, d.before a0 Z = true := fun d hd => hw d (own_hws d hd)
  intro n2_T n2_h n2_L n2_vm n2_k ya yb yc yd pp n2_X n2_e hS hkS hZ hown hH hR n2_O n2_K n2_N hp0 hp1 bya byb byc byd
  refine own_GH.sk 41 [(.int 2)] (fun _ kq => XS.iload n2_X.here hx rfl (hb hby at_39) rfl kq) ?_
  refine own_GH.sk 42 [(.int 1), (.int 2)] (fun _ kq => XS.iconst n2_X.here hx rfl (hb hby at_41) kq) ?_
  have hc42 : ¬ ((2 : Int32) = (1 : Int32)) := (by decide)
  refine own_GH.sk 58 [] (fun _ kq => XS.icmpYes n2_X.here hx rfl (pc0 := 42) (pc' := 58) rfl (hb hby at_42) rfl (feq hc42).2 (by decide) (by decide) kq) ?_
  refine own_GH.sk 60 [(.int 2)] (fun _ kq => XS.iload n2_X.here hx rfl (hb hby at_58) rfl kq) ?_
  refine own_GH.sk 61 [(.int 2), (.int 2)] (fun _ kq => XS.iconst n2_X.here hx rfl (hb hby at_60) kq) ?_
  have hc61 : (2 : Int32) = (2 : Int32) := (by decide)
  refine own_GH.sk 64 [] (fun _ kq => XS.icmpNo n2_X.here hx rfl (hb hby at_61) rfl (teq hc61).2 kq) ?_
  refine own_GH.sk 65 [(.int 2)] (fun _ kq => XS.iconst n2_X.here hx rfl (hb hby at_64) kq) ?_
  obtain ⟨T412, h412, k412, X412, e412, E412, A412, st412⟩ := newP n2_X hx hZ (W_ 5 rfl) n2_e (g := (mkF m 65 #[iv ln, iv xa, iv xb, iv xc, iv xd, iv po, iv 2, iv ya, iv yb, iv yc, iv yd, iv pp, .unset, .unset, .unset, .unset, .unset, .unset] [(.int 2)])) rfl (hb hby at_65) rfl (by decide) (cap := 2) (by decide) (by decide) (by decide) (by decide)
  obtain ⟨b412, g412⟩ : ∃ z, z = n2_h.size := ⟨_, rfl⟩
  rw [← g412] at A412 st412
  have g413 : n0 ≤ b412 := Nat.le_trans n2_O.le (Nat.le_of_eq g412.symm)
  have z414 : h0.size ≤ b412 := Nat.le_trans n2_K.1 (Nat.le_of_eq g412.symm)
  have sf415 : Safe Z own_EL n2_vm n2_h b412 := Safe.new (Nat.le_of_eq g412.symm)
  have hkS := Nat.le_trans hkS E412.1
  have sf416 := Safe.ext E412 hH sf415
  have hR := hR.trans (CHr.ext E412 hH)
  have hH := CHv.ext E412 hH
  have O417 := n2_O.ext E412
  have K418 := n2_K.ext E412
  have F419 : Arv Z h412 b412 k412 .char (2 : Int32) [(.int 0), (.int 0)] (.int 0) := (Arv.new A412 (by decide)).pad (pad_rep [] (.int 0) 2)
  refine own_GH.st (T' := T412) 67 [(.ref b412)] st412 ?_
  refine own_GH.sk 68 [(.ref b412), (.ref b412)] (fun _ kq => XS.dup X412.here hx rfl (hb hby at_67) rfl rfl kq) ?_
  refine own_GH.sk 69 [(.int 0), (.ref b412), (.ref b412)] (fun _ kq => XS.iconst X412.here hx rfl (hb hby at_68) kq) ?_
  refine own_GH.sk 71 [(.int ya), (.int 0), (.ref b412), (.ref b412)] (fun _ kq => XS.iload X412.here hx rfl (hb hby at_69) rfl kq) ?_
  obtain ⟨cl420, Ar420, q1420, Sz420, Nz420, Hh420, Gg420⟩ := id F419
  obtain ⟨T420, h420, X420, e420, W420, st420⟩ := stC X412 hx hZ e412 Ar420 (j := (0 : Int32)) (inb_of Sz420 ⟨by decide, by decide⟩) (g := (mkF m 71 #[iv ln, iv xa, iv xb, iv xc, iv xd, iv po, iv 2, iv ya, iv yb, iv yc, iv yd, iv pp, .unset, .unset, .unset, .unset, .unset, .unset] [(.int ya), (.int 0), (.ref b412), (.ref b412)])) rfl rfl (hb hby at_71)
  have F421 : Arv Z h420 b412 k412 .char (2 : Int32) [(.int (nar .char ya)), (.int 0)] (.int 0) := Arv.set Ar420 q1420 Sz420 Nz420 Hh420 Gg420 (fits_nar_char _) W420 0 rfl (Nat.le_of_ble_eq_true rfl)
  have N420 := Fr.snoc X420 n2_N g413
  have hkS := Nat.le_trans hkS (Keep.of_wr W420).1
  have sf422 := Safe.wr W420 sf416 hH sf416
  have hR := hR.trans (CHr.wr W420 sf416 hH)
  have hH := CHv.wr W420 sf416 hH
  have O424 := O417.wr W420 g413
  have K425 := K418.wr W420 (Or.inr z414)
  refine own_GH.st (T' := T420) 72 [(.ref b412)] st420 ?_
  refine own_GH.sk 73 [(.ref b412), (.ref b412)] (fun _ kq => XS.dup X420.here hx rfl (hb hby at_72) rfl rfl kq) ?_
  refine own_GH.sk 74 [(.int 1), (.ref b412), (.ref b412)] (fun _ kq => XS.iconst X420.here hx rfl (hb hby at_73) kq) ?_
  refine own_GH.sk 76 [(.int yb), (.int 1), (.ref b412), (.ref b412)] (fun _ kq => XS.iload X420.here hx rfl (hb hby at_74) rfl kq) ?_
  obtain ⟨cl426, Ar426, q1426, Sz426, Nz426, Hh426, Gg426⟩ := id F421
  obtain ⟨T426, h426, X426, e426, W426, st426⟩ := stC X420 hx hZ e420 Ar426 (j := (1 : Int32)) (inb_of Sz426 ⟨by decide, by decide⟩) (g := (mkF m 76 #[iv ln, iv xa, iv xb, iv xc, iv xd, iv po, iv 2, iv ya, iv yb, iv yc, iv yd, iv pp, .unset, .unset, .unset, .unset, .unset, .unset] [(.int yb), (.int 1), (.ref b412), (.ref b412)])) rfl rfl (hb hby at_76)
  have F427 : Arv Z h426 b412 k412 .char (2 : Int32) [(.int (nar .char ya)), (.int (nar .char yb))] (.int 0) := Arv.set Ar426 q1426 Sz426 Nz426 Hh426 Gg426 (fits_nar_char _) W426 1 rfl (Nat.le_of_ble_eq_true rfl)
  have N426 := Fr.snoc X426 N420 g413
  have hkS := Nat.le_trans hkS (Keep.of_wr W426).1
  have sf428 := Safe.wr W426 sf422 hH sf422
  have hR := hR.trans (CHr.wr W426 sf422 hH)
  have hH := CHv.wr W426 sf422 hH
  have O430 := O424.wr W426 g413
  have K431 := K425.wr W426 (Or.inr z414)
  refine own_GH.st (T' := T426) 77 [(.ref b412)] st426 ?_
  refine own_GH.si 79 [] (fun _ kq => XS.astore X426.here hx rfl (hb hby at_77) rfl rfl (l' := #[iv ln, iv xa, iv xb, iv xc, iv xd, iv po, iv 2, iv ya, iv yb, iv yc, iv yd, iv pp, rv b412, .unset, .unset, .unset, .unset, .unset]) rfl kq) ?_
  refine own_GH.sk 136 [] (fun _ kq => XS.goto X426.here hx rfl (pc0 := 79) (pc' := 136) rfl (hb hby at_79) (by decide) (by decide) kq) ?_
  obtain ⟨T432, h432, X432, e432, E432, A432, D432, -, st432⟩ := newO X426 hx hZ hown (W_ 6 rfl) (W_ 7 rfl) (W_ 8 rfl) e426 (g := (mkF m 136 #[iv ln, iv xa, iv xb, iv xc, iv xd, iv po, iv 2, iv ya, iv yb, iv yc, iv yd, iv pp, rv b412, .unset, .unset, .unset, .unset, .unset] [])) rfl (hb hby at_136) (by decide) (by decide)
  obtain ⟨b432, g432⟩ : ∃ z, z = h426.size := ⟨_, rfl⟩
  rw [← g432] at A432 D432 st432
  have ne433 : b412 ≠ b432 := Nat.ne_of_lt (Nat.lt_of_lt_of_le F427.lt (Nat.le_of_eq g432.symm))
  have g434 : n0 ≤ b432 := Nat.le_trans O430.le (Nat.le_of_eq g432.symm)
  have z435 : h0.size ≤ b432 := Nat.le_trans K431.1 (Nat.le_of_eq g432.symm)
  have sf436 : Safe Z own_EL n2_vm h426 b432 := Safe.new (Nat.le_of_eq g432.symm)
  have hkS := Nat.le_trans hkS E432.1
  have sf437 := Safe.ext E432 hH sf428
  have sf438 := Safe.ext E432 hH sf436
  have hR := hR.trans (CHr.ext E432 hH)
  have hH := CHv.ext E432 hH
  have F439 := F427.ext E432
  have O440 := O430.ext E432
  have K441 := K431.ext E432
  have F442 : Fld Z h432 b432 "java/lang/String" "coder" "B" (.int 0) := D432 (Or.inr (W_ 32 rfl)) (ty := .byte) (by decide)
  have F443 : Fld Z h432 b432 "java/lang/String" "value" "[B" .null := D432 (Or.inr (W_ 34 rfl)) (ty := (.array .byte)) (by decide)
  refine own_GH.st (T' := T432) 139 [(.ref b432)] st432 ?_
  refine own_GH.sk 140 [(.ref b432), (.ref b432)] (fun _ kq => XS.dup X432.here hx rfl (hb hby at_139) rfl rfl kq) ?_
  refine own_GH.sk 142 [(.ref b412), (.ref b432), (.ref b432)] (fun _ kq => XS.aload X432.here hx rfl (hb hby at_140) rfl rfl kq) ?_
  have hp444 : ∀ c ∈ ([(nar .char ya), (nar .char yb)] : List Int32), ¬ c < 0 ∧ ¬ (255 : Int32) < c := by
    intro c hc
    simp only [List.mem_cons, List.not_mem_nil, or_false] at hc
    rcases hc with rfl | rfl
    · exact own_narb bya
    · exact own_narb byb
  obtain ⟨_, _, ⟨T445, L445, k445, n445⟩, -, X445, ⟨Lc445, hQ445, l445, y445, z445⟩, st445⟩ := X432.specialBack hx (y := own_y43) rfl hown (mvT hZ (W_ 9 rfl)) (mvT hZ (W_ 10 rfl)) (mvT hZ (W_ 11 rfl)) (by decide) (StrChars.Road.backV (W := 1) hZ hws (kI := 4) (W_ 7 rfl) (cs := ([(nar .char ya), (nar .char yb)] : List Int32)) (bs := (([(nar .char ya), (nar .char yb)] : List Int32).map (fun c => c.toInt8.toInt32))) (n := 2) g434 O440.le A432 F443 F442 F439 (Sta.ext O440.2 S_CS) hcs rfl rfl (by decide) (by decide) hp444 rfl (by decide) (by decide)) (g := (mkF m 142 #[iv ln, iv xa, iv xb, iv xc, iv xd, iv po, iv 2, iv ya, iv yb, iv yc, iv yd, iv pp, rv b412, .unset, .unset, .unset, .unset, .unset] [(.ref b412), (.ref b432), (.ref b432)])) rfl (by rw [hml]; rfl) (Steps.refl _) (a := b432) (argsL := [(.ref b412)]) (rest := [(.ref b432)]) (lenOf pd__28_5bC_29V rfl) rfl (by show 2 * 0 + _ ≤ _; exact Nat.le_of_eq rfl) (hb hby at_142) (fun _ _ => ⟨rfl, e432, (by decide : 2 + 1 ≤ _), (by decide : 6 + 2 ≤ _)⟩)
  dsimp only [Pt.U, Pt.locs, Pt.cells, Pt.slots] at X445 l445 y445 z445 st445 hQ445
  subst l445 y445 z445
  obtain ⟨rfl, P446, P447, P448, P449, b450, kx451, P452, P453, P454, P455, P456⟩ := hQ445
  have N445 := Fr.app N426 P446
  have ne457 : b412 ≠ b450 := Nat.ne_of_lt (Nat.lt_of_lt_of_le F439.lt P453)
  have ne458 : b432 ≠ b450 := Nat.ne_of_lt (Nat.lt_of_lt_of_le A432.lt P453)
  have g459 : n0 ≤ b450 := Nat.le_trans O440.le P453
  have z460 : h0.size ≤ b450 := Nat.le_trans K441.1 P453
  have sf461 : Safe Z own_EL n2_vm h432 b450 := Safe.new P453
  have hkS := Nat.le_trans hkS P447.1
  have sf462 := Safe.keep P447 (sfS sf438 sf0) hH sf437
  have sf463 := Safe.keep P447 (sfS sf438 sf0) hH sf438
  have sf464 := Safe.keep P447 (sfS sf438 sf0) hH sf461
  have hR := hR.trans (CHr.keep P447 (sfS sf438 sf0) hH)
  have hH := CHv.keep P447 (sfS sf438 sf0) hH
  have F465 := F439.keep P447 (ninS ne433 nin0)
  have F466 := A432.keep P447
  have O467 := O440.keep P447 (allS g434 all0)
  have K468 := K441.trans P447 (allS (Or.inr z435) all0)
  refine own_GH.st (T' := T445) 145 [(.ref b432)] (fun _ kq => st445.trans kq) ?_
  obtain ⟨ys, hys⟩ : ∃ z : List Int32, z = [own_by (nar .char ya), own_by (nar .char yb)] := ⟨_, rfl⟩
  have F469 : Arv Z T445.heap b450 kx451 .byte (2 : Int32) (own_B ys) (.int 0) := by rw [hys]; exact P456
  have hL4 : own_L4 ys (2 : Int32) := Or.inr (Or.inl (⟨_, _, hys, rfl⟩))
  refine own_GH.si 147 [] (fun _ kq => XS.astore X445.here hx rfl (hb hby at_145) rfl rfl (l' := #[iv ln, iv xa, iv xb, iv xc, iv xd, iv po, iv 2, iv ya, iv yb, iv yc, iv yd, iv pp, rv b412, rv b432, .unset, .unset, .unset, .unset]) rfl kq) ?_
  have th : ∀ (th_T : State) (th_h : Heap) (th_L : List Loc) (th_vm : Vm) (th_k : Nat) (co : Int32) (o : Addr) (kk : Int32) (ko : ClassId) (cs : List Int32), (Stand p l e room_1 (s.setVm th_vm) m #[(.int ln), (.int xa), (.int xb), (.int xc), (.int xd), (.int po)] below meth c th_T th_L 4 20) → (th_T.heap = th_h) → (s.Since th_vm th_k) → (th_k ≤ th_h.size) → (Z.Warmed39 (s.setVm th_vm).vm) → ((s.setVm th_vm).vm.findClass "com/example/redelivery/redelivery/settings/ListenAddressToStringPinLaw" = some m.cls) → (CHv Z own_EL th_vm th_h) → (CHr Z own_EL s.vm h0 th_vm th_h) → (Old Z n0 th_h) → (Keep h0 th_h []) → (Fr n0 th_L) → (Exa Z th_h b432 "java/lang/String") → (Fld Z th_h b432 "java/lang/String" "coder" "B" (.int 0)) → (Fld Z th_h b432 "java/lang/String" "value" "[B" (.ref b450)) → (Arv Z th_h b450 kx451 .byte (2 : Int32) (own_B ys) (.int 0)) → (Arv Z th_h o ko .char (12 : Int32) (own_B cs) (.int 0)) → (kk.toInt = (cs.length : Int)) → (cs.length ≤ 1) → (∀ c ∈ cs, ¬ c < (0 : Int32) ∧ ¬ (255 : Int32) < c) → ((co = (0 : Int32) → ¬ (58 : Int32) ∈ ys ∧ cs.map own_by = []) ∧ (¬ co = (0 : Int32) → (58 : Int32) ∈ ys ∧ cs.map own_by = [] ++ [(91 : Int32)])) → (n0 ≤ o) → (h0.size ≤ o) → (b450 ≠ o) → (b432 ≠ o) → own_GH Z own_EL p e below s 21 150 (Q_law Z ln xa xb xc xd po csz fm dga cga dgb cgb h0 n0) th_T (mkF m 227 #[iv ln, iv xa, iv xb, iv xc, iv xd, iv po, iv 2, iv ya, iv yb, iv yc, iv yd, iv pp, rv b412, rv b432, iv co, rv o, iv kk, .unset] []) := by
    intro th_T th_h th_L th_vm th_k co o kk ko cs th_X th_e hS hkS hZ hown hH hR th_O th_K th_N th_F0 th_F1 th_F2 th_F3 th_F4 hk hk1 hcb hq0 go zo uno sno
    refine own_GH.sk 229 [(.ref o)] (fun _ kq => XS.aload th_X.here hx rfl (hb hby at_227) rfl rfl kq) ?_
    refine own_GH.sk 231 [(.int kk), (.ref o)] (fun _ kq => XS.iload th_X.here hx rfl (hb hby at_229) rfl kq) ?_
    refine own_GH.sk 233 [(.int ya), (.int kk), (.ref o)] (fun _ kq => XS.iload th_X.here hx rfl (hb hby at_231) rfl kq) ?_
    have hk471 : (kk + (1 : Int32)).toInt = ((cs ++ [(nar .char ya)]).length : Int) := own_k1 hk (Nat.le_trans hk1 (by decide))
    obtain ⟨cl470, Ar470, -, Sz470, -, -, -⟩ := id th_F4
    obtain ⟨T470, h470, X470, e470, W470, st470⟩ := stC th_X hx hZ th_e Ar470 (j := kk) (inb_of Sz470 (own_in12 hk (Nat.lt_of_le_of_lt hk1 (by decide)))) (g := (mkF m 233 #[iv ln, iv xa, iv xb, iv xc, iv xd, iv po, iv 2, iv ya, iv yb, iv yc, iv yd, iv pp, rv b412, rv b432, iv co, rv o, iv kk, .unset] [(.int ya), (.int kk), (.ref o)])) rfl rfl (hb hby at_233)
    have F472 : Arv Z h470 o ko .char (12 : Int32) (own_B (cs ++ [(nar .char ya)])) (.int 0) := own_pushB th_F4 (fits_nar_char _) W470 hk
    have N470 := Fr.snoc X470 th_N go
    have hkS := Nat.le_trans hkS (Keep.of_wr W470).1
    have hR := hR.trans (CHr.wr W470 (Safe.arv hZ.alike th_F4 (by decide)) hH)
    have hH := CHv.wr W470 (Safe.arv hZ.alike th_F4 (by decide)) hH
    have F473 := th_F0.wr W470
    have F474 := th_F1.other W470 (Or.inl sno)
    have F475 := th_F2.other W470 (Or.inl sno)
    have F476 := th_F3.other W470 uno
    have O478 := th_O.wr W470 go
    have K479 := th_K.wr W470 (Or.inr zo)
    refine own_GH.st (T' := T470) 234 [] st470 ?_
    refine own_GH.sk 236 [(.int kk)] (fun _ kq => XS.iload X470.here hx rfl (hb hby at_234) rfl kq) ?_
    refine own_GH.sk 237 [(.int 1), (.int kk)] (fun _ kq => XS.iconst X470.here hx rfl (hb hby at_236) kq) ?_
    refine own_GH.sk 238 [(.int (kk + (1 : Int32)))] (fun _ kq => XS.iadd X470.here hx rfl (hb hby at_237) rfl kq) ?_
    refine own_GH.si 240 [] (fun _ kq => XS.istore X470.here hx rfl (hb hby at_238) rfl (l' := #[iv ln, iv xa, iv xb, iv xc, iv xd, iv po, iv 2, iv ya, iv yb, iv yc, iv yd, iv pp, rv b412, rv b432, iv co, rv o, .val (.int (kk + (1 : Int32))), .unset]) rfl kq) ?_
    refine own_GH.sk 242 [(.int 2)] (fun _ kq => XS.iload X470.here hx rfl (hb hby at_240) rfl kq) ?_
    refine own_GH.sk 243 [(.int 1), (.int 2)] (fun _ kq => XS.iconst X470.here hx rfl (hb hby at_242) kq) ?_
    have hc243 : (1 : Int32) < (2 : Int32) := (by decide)
    refine own_GH.sk 246 [] (fun _ kq => XS.icmpNo X470.here hx rfl (hb hby at_243) rfl (tlt hc243).2.2.2 kq) ?_
    refine own_GH.sk 248 [(.ref o)] (fun _ kq => XS.aload X470.here hx rfl (hb hby at_246) rfl rfl kq) ?_
    refine own_GH.sk 250 [(.int (kk + (1 : Int32))), (.ref o)] (fun _ kq => XS.iload X470.here hx rfl (hb hby at_248) rfl kq) ?_
    refine own_GH.sk 252 [(.int yb), (.int (kk + (1 : Int32))), (.ref o)] (fun _ kq => XS.iload X470.here hx rfl (hb hby at_250) rfl kq) ?_
    have hk481 : ((kk + (1 : Int32)) + (1 : Int32)).toInt = (((cs ++ [(nar .char ya)]) ++ [(nar .char yb)]).length : Int) := own_k1 hk471 (Nat.le_trans (own_le1 hk1) (by decide))
    obtain ⟨cl480, Ar480, -, Sz480, -, -, -⟩ := id F472
    obtain ⟨T480, h480, X480, e480, W480, st480⟩ := stC X470 hx hZ e470 Ar480 (j := (kk + (1 : Int32))) (inb_of Sz480 (own_in12 hk471 (Nat.lt_of_le_of_lt (own_le1 hk1) (by decide)))) (g := (mkF m 252 #[iv ln, iv xa, iv xb, iv xc, iv xd, iv po, iv 2, iv ya, iv yb, iv yc, iv yd, iv pp, rv b412, rv b432, iv co, rv o, .val (.int (kk + (1 : Int32))), .unset] [(.int yb), (.int (kk + (1 : Int32))), (.ref o)])) rfl rfl (hb hby at_252)
    have F482 : Arv Z h480 o ko .char (12 : Int32) (own_B ((cs ++ [(nar .char ya)]) ++ [(nar .char yb)])) (.int 0) := own_pushB F472 (fits_nar_char _) W480 hk471
    have N480 := Fr.snoc X480 N470 go
    have hkS := Nat.le_trans hkS (Keep.of_wr W480).1
    have hR := hR.trans (CHr.wr W480 (Safe.arv hZ.alike F472 (by decide)) hH)
    have hH := CHv.wr W480 (Safe.arv hZ.alike F472 (by decide)) hH
    have F483 := F473.wr W480
    have F484 := F474.other W480 (Or.inl sno)
    have F485 := F475.other W480 (Or.inl sno)
    have F486 := F476.other W480 uno
    have O488 := O478.wr W480 go
    have K489 := K479.wr W480 (Or.inr zo)
    refine own_GH.st (T' := T480) 253 [] st480 ?_
    refine own_GH.sk 255 [(.int (kk + (1 : Int32)))] (fun _ kq => XS.iload X480.here hx rfl (hb hby at_253) rfl kq) ?_
    refine own_GH.sk 256 [(.int 1), (.int (kk + (1 : Int32)))] (fun _ kq => XS.iconst X480.here hx rfl (hb hby at_255) kq) ?_
    refine own_GH.sk 257 [(.int ((kk + (1 : Int32)) + (1 : Int32)))] (fun _ kq => XS.iadd X480.here hx rfl (hb hby at_256) rfl kq) ?_
    refine own_GH.si 259 [] (fun _ kq => XS.istore X480.here hx rfl (hb hby at_257) rfl (l' := #[iv ln, iv xa, iv xb, iv xc, iv xd, iv po, iv 2, iv ya, iv yb, iv yc, iv yd, iv pp, rv b412, rv b432, iv co, rv o, .val (.int ((kk + (1 : Int32)) + (1 : Int32))), .unset]) rfl kq) ?_
    refine own_GH.sk 261 [(.int 2)] (fun _ kq => XS.iload X480.here hx rfl (hb hby at_259) rfl kq) ?_
    refine own_GH.sk 262 [(.int 2), (.int 2)] (fun _ kq => XS.iconst X480.here hx rfl (hb hby at_261) kq) ?_
    have hc262 : ¬ ((2 : Int32) < (2 : Int32)) := (by decide)
    refine own_GH.sk 278 [] (fun _ kq => XS.icmpYes X480.here hx rfl (pc0 := 262) (pc' := 278) rfl (hb hby at_262) rfl (flt hc262).2.2.2 (by decide) (by decide) kq) ?_
    refine own_GH.sk 280 [(.int 2)] (fun _ kq => XS.iload X480.here hx rfl (hb hby at_278) rfl kq) ?_
    refine own_GH.sk 281 [(.int 3), (.int 2)] (fun _ kq => XS.iconst X480.here hx rfl (hb hby at_280) kq) ?_
    have hc281 : ¬ ((3 : Int32) < (2 : Int32)) := (by decide)
    refine own_GH.sk 297 [] (fun _ kq => XS.icmpYes X480.here hx rfl (pc0 := 281) (pc' := 297) rfl (hb hby at_281) rfl (flt hc281).2.2.2 (by decide) (by decide) kq) ?_
    exact rm_law_tb cx _ _ _ _ _ (2 : Int32) ya yb yc yd pp b412 b432 co o ((kk + (1 : Int32)) + (1 : Int32)) b450 kx451 (2 : Int32) ys ko ((cs ++ [(nar .char ya)]) ++ [(nar .char yb)]) (X480.mono (by decide) (by decide)) e480 hS hkS hZ hown hH hR O488 K489 N480 F483 F485 F484 F486 F482 hL4 hp0 hp1 hk481 (Nat.le_trans (own_le1 (own_le1 hk1)) (by decide)) (own_c255 (own_narb byb) (own_c255 (own_narb bya) hcb)) (⟨fun z => ⟨(hq0.1 z).1, ((own_f1 (own_f1 (hq0.1 z).2 rfl) rfl).trans (by rw [hys]; try simp only [List.append_assoc, List.cons_append, List.nil_append]))⟩, fun z => ⟨(hq0.2 z).1, ((own_f1 (own_f1 (hq0.2 z).2 rfl) rfl).trans (by rw [hys]; try simp only [List.append_assoc, List.cons_append, List.nil_append]))⟩⟩) go zo uno sno
  have tc : ∀ (tc_T : State) (tc_h : Heap) (tc_L : List Loc) (tc_vm : Vm) (tc_k : Nat) (dm : Int32), (Stand p l e room_1 (s.setVm tc_vm) m #[(.int ln), (.int xa), (.int xb), (.int xc), (.int xd), (.int po)] below meth c tc_T tc_L 3 8) → (tc_T.heap = tc_h) → (s.Since tc_vm tc_k) → (tc_k ≤ tc_h.size) → (Z.Warmed39 (s.setVm tc_vm).vm) → ((s.setVm tc_vm).vm.findClass "com/example/redelivery/redelivery/settings/ListenAddressToStringPinLaw" = some m.cls) → (CHv Z own_EL tc_vm tc_h) → (CHr Z own_EL s.vm h0 tc_vm tc_h) → (Old Z n0 tc_h) → (Keep h0 tc_h []) → (Fr n0 tc_L) → (Exa Z tc_h b432 "java/lang/String") → (Fld Z tc_h b432 "java/lang/String" "coder" "B" (.int 0)) → (Fld Z tc_h b432 "java/lang/String" "value" "[B" (.ref b450)) → (Arv Z tc_h b450 kx451 .byte (2 : Int32) (own_B ys) (.int 0)) → ((58 : Int32) ∈ ys) → own_GH Z own_EL p e below s 21 150 (Q_law Z ln xa xb xc xd po csz fm dga cga dgb cgb h0 n0) tc_T (mkF m 193 #[iv ln, iv xa, iv xb, iv xc, iv xd, iv po, iv 2, iv ya, iv yb, iv yc, iv yd, iv pp, rv b412, rv b432, .unset, .unset, .unset, .unset] []) := by
    intro tc_T tc_h tc_L tc_vm tc_k dm tc_X tc_e hS hkS hZ hown hH hR tc_O tc_K tc_N tc_F0 tc_F1 tc_F2 tc_F3 hcol
    refine own_GH.sk 194 [(.int 1)] (fun _ kq => XS.iconst tc_X.here hx rfl (hb hby at_193) kq) ?_
    refine own_GH.sk 198 [(.int 1)] (fun _ kq => XS.goto tc_X.here hx rfl (pc0 := 194) (pc' := 198) rfl (hb hby at_194) (by decide) (by decide) kq) ?_
    refine own_GH.si 200 [] (fun _ kq => XS.istore tc_X.here hx rfl (hb hby at_198) rfl (l' := #[iv ln, iv xa, iv xb, iv xc, iv xd, iv po, iv 2, iv ya, iv yb, iv yc, iv yd, iv pp, rv b412, rv b432, iv 1, .unset, .unset, .unset]) rfl kq) ?_
    refine own_GH.sk 202 [(.int 12)] (fun _ kq => XS.bipush tc_X.here hx rfl (hb hby at_200) kq) ?_
    obtain ⟨T490, h490, k490, X490, e490, E490, A490, st490⟩ := newP tc_X hx hZ (W_ 5 rfl) tc_e (g := (mkF m 202 #[iv ln, iv xa, iv xb, iv xc, iv xd, iv po, iv 2, iv ya, iv yb, iv yc, iv yd, iv pp, rv b412, rv b432, iv 1, .unset, .unset, .unset] [(.int 12)])) rfl (hb hby at_202) rfl (by decide) (cap := 12) (by decide) (by decide) (by decide) (by decide)
    obtain ⟨b490, g490⟩ : ∃ z, z = tc_h.size := ⟨_, rfl⟩
    rw [← g490] at A490 st490
    have ne491 : b432 ≠ b490 := Nat.ne_of_lt (Nat.lt_of_lt_of_le tc_F0.lt (Nat.le_of_eq g490.symm))
    have ne492 : b450 ≠ b490 := Nat.ne_of_lt (Nat.lt_of_lt_of_le tc_F3.lt (Nat.le_of_eq g490.symm))
    have g493 : n0 ≤ b490 := Nat.le_trans tc_O.le (Nat.le_of_eq g490.symm)
    have z494 : h0.size ≤ b490 := Nat.le_trans tc_K.1 (Nat.le_of_eq g490.symm)
    have sf495 : Safe Z own_EL tc_vm tc_h b490 := Safe.new (Nat.le_of_eq g490.symm)
    have hkS := Nat.le_trans hkS E490.1
    have sf496 := Safe.ext E490 hH sf495
    have hR := hR.trans (CHr.ext E490 hH)
    have hH := CHv.ext E490 hH
    have F497 := tc_F0.ext E490
    have F498 := tc_F1.ext E490
    have F499 := tc_F2.ext E490
    have F500 := tc_F3.ext E490
    have O501 := tc_O.ext E490
    have K502 := tc_K.ext E490
    have F503 : Arv Z h490 b490 k490 .char (12 : Int32) [] (.int 0) := Arv.new A490 (by decide)
    refine own_GH.st (T' := T490) 204 [(.ref b490)] st490 ?_
    have F504 : Arv Z h490 b490 k490 .char (12 : Int32) (own_B ([] : List Int32)) (.int 0) := F503
    have hkz : (0 : Int32).toInt = ((([] : List Int32).length : Nat) : Int) := by decide
    refine own_GH.si 206 [] (fun _ kq => XS.astore X490.here hx rfl (hb hby at_204) rfl rfl (l' := #[iv ln, iv xa, iv xb, iv xc, iv xd, iv po, iv 2, iv ya, iv yb, iv yc, iv yd, iv pp, rv b412, rv b432, iv 1, rv b490, .unset, .unset]) rfl kq) ?_
    refine own_GH.sk 207 [(.int 0)] (fun _ kq => XS.iconst X490.here hx rfl (hb hby at_206) kq) ?_
    refine own_GH.si 209 [] (fun _ kq => XS.istore X490.here hx rfl (hb hby at_207) rfl (l' := #[iv ln, iv xa, iv xb, iv xc, iv xd, iv po, iv 2, iv ya, iv yb, iv yc, iv yd, iv pp, rv b412, rv b432, iv 1, rv b490, iv 0, .unset]) rfl kq) ?_
    refine own_GH.sk 211 [(.int 1)] (fun _ kq => XS.iload X490.here hx rfl (hb hby at_209) rfl kq) ?_
    have hc211 : ¬ ((1 : Int32) = (0 : Int32)) := (by decide)
    refine own_GH.sk 214 [] (fun _ kq => XS.ifNo X490.here hx rfl (hb hby at_211) rfl ((if0 _ _).trans (feq hc211).1) kq) ?_
    refine own_GH.sk 216 [(.ref b490)] (fun _ kq => XS.aload X490.here hx rfl (hb hby at_214) rfl rfl kq) ?_
    refine own_GH.sk 218 [(.int 0), (.ref b490)] (fun _ kq => XS.iload X490.here hx rfl (hb hby at_216) rfl kq) ?_
    refine own_GH.sk 220 [(.int 91), (.int 0), (.ref b490)] (fun _ kq => XS.bipush X490.here hx rfl (hb hby at_218) kq) ?_
    have hk506 : ((0 : Int32) + (1 : Int32)).toInt = ((([] : List Int32) ++ [(nar .char (91 : Int32))]).length : Int) := own_k1 hkz (Nat.le_trans (Nat.le_refl 0) (by decide))
    obtain ⟨cl505, Ar505, -, Sz505, -, -, -⟩ := id F504
    obtain ⟨T505, h505, X505, e505, W505, st505⟩ := stC X490 hx hZ e490 Ar505 (j := (0 : Int32)) (inb_of Sz505 (own_in12 hkz (Nat.lt_of_le_of_lt (Nat.le_refl 0) (by decide)))) (g := (mkF m 220 #[iv ln, iv xa, iv xb, iv xc, iv xd, iv po, iv 2, iv ya, iv yb, iv yc, iv yd, iv pp, rv b412, rv b432, iv 1, rv b490, iv 0, .unset] [(.int 91), (.int 0), (.ref b490)])) rfl rfl (hb hby at_220)
    have F507 : Arv Z h505 b490 k490 .char (12 : Int32) (own_B (([] : List Int32) ++ [(nar .char (91 : Int32))])) (.int 0) := own_pushB F504 (fits_nar_char _) W505 hkz
    have N505 := Fr.snoc X505 tc_N g493
    have hkS := Nat.le_trans hkS (Keep.of_wr W505).1
    have sf508 := Safe.wr W505 sf496 hH sf496
    have hR := hR.trans (CHr.wr W505 sf496 hH)
    have hH := CHv.wr W505 sf496 hH
    have F509 := F497.wr W505
    have F510 := F498.other W505 (Or.inl ne491)
    have F511 := F499.other W505 (Or.inl ne491)
    have F512 := F500.other W505 ne492
    have O514 := O501.wr W505 g493
    have K515 := K502.wr W505 (Or.inr z494)
    refine own_GH.st (T' := T505) 221 [] st505 ?_
    refine own_GH.sk 223 [(.int 0)] (fun _ kq => XS.iload X505.here hx rfl (hb hby at_221) rfl kq) ?_
    refine own_GH.sk 224 [(.int 1), (.int 0)] (fun _ kq => XS.iconst X505.here hx rfl (hb hby at_223) kq) ?_
    refine own_GH.sk 225 [(.int ((0 : Int32) + (1 : Int32)))] (fun _ kq => XS.iadd X505.here hx rfl (hb hby at_224) rfl kq) ?_
    refine own_GH.si 227 [] (fun _ kq => XS.istore X505.here hx rfl (hb hby at_225) rfl (l' := #[iv ln, iv xa, iv xb, iv xc, iv xd, iv po, iv 2, iv ya, iv yb, iv yc, iv yd, iv pp, rv b412, rv b432, iv 1, rv b490, .val (.int ((0 : Int32) + (1 : Int32))), .unset]) rfl kq) ?_
    exact th _ _ _ _ _ (1 : Int32) b490 ((0 : Int32) + (1 : Int32)) k490 (([] : List Int32) ++ [(nar .char (91 : Int32))]) (X505.mono (by decide) (by decide)) e505 hS hkS hZ hown hH hR O514 K515 N505 F509 F510 F511 F512 F507 hk506 (own_le1 (Nat.le_refl 0)) (own_c255 ⟨by decide, by decide⟩ own_n255) (⟨fun z => absurd z (by decide), fun _ => ⟨hcol, own_f1 rfl own_k91⟩⟩) g493 z494 ne492 ne491
  refine own_GH.sk 149 [(.int ya)] (fun _ kq => XS.iload X445.here hx rfl (hb hby at_147) rfl kq) ?_
  refine own_GH.sk 151 [(.int 58), (.int ya)] (fun _ kq => XS.bipush X445.here hx rfl (hb hby at_149) kq) ?_
  rcases Classical.em (ya = (58 : Int32)) with hc151 | hc151
  · refine own_GH.sk 193 [] (fun _ kq => XS.icmpYes X445.here hx rfl (pc0 := 151) (pc' := 193) rfl (hb hby at_151) rfl (teq hc151).1 (by decide) (by decide) kq) ?_
    exact tc _ _ _ _ _ (0 : Int32) (X445.mono (by decide) (by decide)) rfl hS hkS hZ hown hH hR O467 K468 N445 P448 P449 P455 F469 (by rw [hys, own_m58 bya hc151]; simp)
  · refine own_GH.sk 154 [] (fun _ kq => XS.icmpNo X445.here hx rfl (hb hby at_151) rfl (feq hc151).1 kq) ?_
    refine own_GH.sk 156 [(.int 2)] (fun _ kq => XS.iload X445.here hx rfl (hb hby at_154) rfl kq) ?_
    refine own_GH.sk 157 [(.int 1), (.int 2)] (fun _ kq => XS.iconst X445.here hx rfl (hb hby at_156) kq) ?_
    have hc157 : (1 : Int32) < (2 : Int32) := (by decide)
    refine own_GH.sk 160 [] (fun _ kq => XS.icmpNo X445.here hx rfl (hb hby at_157) rfl (tlt hc157).2.2.2 kq) ?_
    refine own_GH.sk 162 [(.int yb)] (fun _ kq => XS.iload X445.here hx rfl (hb hby at_160) rfl kq) ?_
    refine own_GH.sk 164 [(.int 58), (.int yb)] (fun _ kq => XS.bipush X445.here hx rfl (hb hby at_162) kq) ?_
    rcases Classical.em (yb = (58 : Int32)) with hc164 | hc164
    · refine own_GH.sk 193 [] (fun _ kq => XS.icmpYes X445.here hx rfl (pc0 := 164) (pc' := 193) rfl (hb hby at_164) rfl (teq hc164).1 (by decide) (by decide) kq) ?_
      exact tc _ _ _ _ _ (0 : Int32) (X445.mono (by decide) (by decide)) rfl hS hkS hZ hown hH hR O467 K468 N445 P448 P449 P455 F469 (by rw [hys, own_m58 byb hc164]; simp)
    · refine own_GH.sk 167 [] (fun _ kq => XS.icmpNo X445.here hx rfl (hb hby at_164) rfl (feq hc164).1 kq) ?_
      refine own_GH.sk 169 [(.int 2)] (fun _ kq => XS.iload X445.here hx rfl (hb hby at_167) rfl kq) ?_
      refine own_GH.sk 170 [(.int 2), (.int 2)] (fun _ kq => XS.iconst X445.here hx rfl (hb hby at_169) kq) ?_
      have hc170 : ¬ ((2 : Int32) < (2 : Int32)) := (by decide)
      refine own_GH.sk 180 [] (fun _ kq => XS.icmpYes X445.here hx rfl (pc0 := 170) (pc' := 180) rfl (hb hby at_170) rfl (flt hc170).2.2.2 (by decide) (by decide) kq) ?_
      refine own_GH.sk 182 [(.int 2)] (fun _ kq => XS.iload X445.here hx rfl (hb hby at_180) rfl kq) ?_
      refine own_GH.sk 183 [(.int 3), (.int 2)] (fun _ kq => XS.iconst X445.here hx rfl (hb hby at_182) kq) ?_
      have hc183 : ¬ ((3 : Int32) < (2 : Int32)) := (by decide)
      refine own_GH.sk 197 [] (fun _ kq => XS.icmpYes X445.here hx rfl (pc0 := 183) (pc' := 197) rfl (hb hby at_183) rfl (flt hc183).2.2.2 (by decide) (by decide) kq) ?_
      have hcol : ¬ (58 : Int32) ∈ ys := by
        rw [hys]
        simp only [List.mem_cons, List.not_mem_nil, or_false, not_or]
        exact ⟨fun q => hc151 ((own_by58 bya).mp q.symm), fun q => hc164 ((own_by58 byb).mp q.symm)⟩
      refine own_GH.sk 198 [(.int 0)] (fun _ kq => XS.iconst X445.here hx rfl (hb hby at_197) kq) ?_
      refine own_GH.si 200 [] (fun _ kq => XS.istore X445.here hx rfl (hb hby at_198) rfl (l' := #[iv ln, iv xa, iv xb, iv xc, iv xd, iv po, iv 2, iv ya, iv yb, iv yc, iv yd, iv pp, rv b412, rv b432, iv 0, .unset, .unset, .unset]) rfl kq) ?_
      refine own_GH.sk 202 [(.int 12)] (fun _ kq => XS.bipush X445.here hx rfl (hb hby at_200) kq) ?_
      obtain ⟨T516, h516, k516, X516, e516, E516, A516, st516⟩ := newP X445 hx hZ (W_ 5 rfl) rfl (g := (mkF m 202 #[iv ln, iv xa, iv xb, iv xc, iv xd, iv po, iv 2, iv ya, iv yb, iv yc, iv yd, iv pp, rv b412, rv b432, iv 0, .unset, .unset, .unset] [(.int 12)])) rfl (hb hby at_202) rfl (by decide) (cap := 12) (by decide) (by decide) (by decide) (by decide)
      obtain ⟨b516, g516⟩ : ∃ z, z = T445.heap.size := ⟨_, rfl⟩
      rw [← g516] at A516 st516
      have ne517 : b432 ≠ b516 := Nat.ne_of_lt (Nat.lt_of_lt_of_le P448.lt (Nat.le_of_eq g516.symm))
      have ne518 : b450 ≠ b516 := Nat.ne_of_lt (Nat.lt_of_lt_of_le F469.lt (Nat.le_of_eq g516.symm))
      have g519 : n0 ≤ b516 := Nat.le_trans O467.le (Nat.le_of_eq g516.symm)
      have z520 : h0.size ≤ b516 := Nat.le_trans K468.1 (Nat.le_of_eq g516.symm)
      have sf521 : Safe Z own_EL n2_vm T445.heap b516 := Safe.new (Nat.le_of_eq g516.symm)
      have hkS := Nat.le_trans hkS E516.1
      have sf522 := Safe.ext E516 hH sf462
      have sf523 := Safe.ext E516 hH sf463
      have sf524 := Safe.ext E516 hH sf464
      have sf525 := Safe.ext E516 hH sf521
      have hR := hR.trans (CHr.ext E516 hH)
      have hH := CHv.ext E516 hH
      have F526 := P448.ext E516
      have F527 := P449.ext E516
      have F528 := P455.ext E516
      have F529 := F469.ext E516
      have O530 := O467.ext E516
      have K531 := K468.ext E516
      have F532 : Arv Z h516 b516 k516 .char (12 : Int32) [] (.int 0) := Arv.new A516 (by decide)
      refine own_GH.st (T' := T516) 204 [(.ref b516)] st516 ?_
      have F533 : Arv Z h516 b516 k516 .char (12 : Int32) (own_B ([] : List Int32)) (.int 0) := F532
      have hkz : (0 : Int32).toInt = ((([] : List Int32).length : Nat) : Int) := by decide
      refine own_GH.si 206 [] (fun _ kq => XS.astore X516.here hx rfl (hb hby at_204) rfl rfl (l' := #[iv ln, iv xa, iv xb, iv xc, iv xd, iv po, iv 2, iv ya, iv yb, iv yc, iv yd, iv pp, rv b412, rv b432, iv 0, rv b516, .unset, .unset]) rfl kq) ?_
      refine own_GH.sk 207 [(.int 0)] (fun _ kq => XS.iconst X516.here hx rfl (hb hby at_206) kq) ?_
      refine own_GH.si 209 [] (fun _ kq => XS.istore X516.here hx rfl (hb hby at_207) rfl (l' := #[iv ln, iv xa, iv xb, iv xc, iv xd, iv po, iv 2, iv ya, iv yb, iv yc, iv yd, iv pp, rv b412, rv b432, iv 0, rv b516, iv 0, .unset]) rfl kq) ?_
      refine own_GH.sk 211 [(.int 0)] (fun _ kq => XS.iload X516.here hx rfl (hb hby at_209) rfl kq) ?_
      have hc211 : (0 : Int32) = (0 : Int32) := (by decide)
      refine own_GH.sk 227 [] (fun _ kq => XS.ifYes X516.here hx rfl (pc0 := 211) (pc' := 227) rfl (hb hby at_211) rfl ((if0 _ _).trans (teq hc211).1) (by decide) (by decide) kq) ?_
      exact th _ _ _ _ _ (0 : Int32) b516 (0 : Int32) k516 ([] : List Int32) (X516.mono (by decide) (by decide)) e516 hS hkS hZ hown hH hR O530 K531 N445 F526 F527 F528 F529 F533 hkz (Nat.le_trans (Nat.le_refl 0) (by decide)) own_n255 (⟨fun _ => ⟨hcol, rfl⟩, fun z => absurd rfl z⟩) g519 z520 ne518 ne517
set_option maxRecDepth 65536 in
set_option maxHeartbeats 40000000 in
theorem rm_law_n3 (cx : own_Cx_law l Z a0 ws ln xa xb xc xd po csz fm dga cga dgb cgb h0 n0 p e s m below meth c s₁) :
    ∀ (n3_T : State) (n3_h : Heap) (n3_L : List Loc) (n3_vm : Vm) (n3_k : Nat) (ya : Int32) (yb : Int32) (yc : Int32) (yd : Int32) (pp : Int32), (Stand p l e room_1 (s.setVm n3_vm) m #[(.int ln), (.int xa), (.int xb), (.int xc), (.int xd), (.int po)] below meth c n3_T n3_L 0 0) → (n3_T.heap = n3_h) → (s.Since n3_vm n3_k) → (n3_k ≤ n3_h.size) → (Z.Warmed39 (s.setVm n3_vm).vm) → ((s.setVm n3_vm).vm.findClass "com/example/redelivery/redelivery/settings/ListenAddressToStringPinLaw" = some m.cls) → (CHv Z own_EL n3_vm n3_h) → (CHr Z own_EL s.vm h0 n3_vm n3_h) → (Old Z n0 n3_h) → (Keep h0 n3_h []) → (Fr n0 n3_L) → (0 ≤ pp.toInt) → (pp.toInt ≤ 65535) → (¬ ya < (0 : Int32) ∧ ¬ (255 : Int32) < ya) → (¬ yb < (0 : Int32) ∧ ¬ (255 : Int32) < yb) → (¬ yc < (0 : Int32) ∧ ¬ (255 : Int32) < yc) → (¬ yd < (0 : Int32) ∧ ¬ (255 : Int32) < yd) → own_GH Z own_EL p e below s 21 150 (Q_law Z ln xa xb xc xd po csz fm dga cga dgb cgb h0 n0) n3_T (mkF m 39 #[iv ln, iv xa, iv xb, iv xc, iv xd, iv po, iv 3, iv ya, iv yb, iv yc, iv yd, iv pp, .unset, .unset, .unset, .unset, .unset, .unset] []) := by
  obtain ⟨hw, O0, S_CS, hcs, S_IO, hio, S_D1, TB1, S_D2, TB2, Bd, hml, hh⟩ := id cx
  have W_ : ∀ {d : Jvm.Cond} (i : Nat), tables_1[i]? = some d → d.before a0 Z = true := fun i h => hw _ (List.mem_of_getElem? h)
  have hx := Bd.exec
  have hby := Bd.bytes
  have hnm := (name_of_methodNamed Bd.named Bd.method).1
  have ew := own_EW Z a0 hw
  have hws : ∀ d ∈ StrChars.Road.words, d.before a0 Z = true := fun d hd => hw d (own_hws d hd)
  intro n3_T n3_h n3_L n3_vm n3_k ya yb yc yd pp n3_X n3_e hS hkS hZ hown hH hR n3_O n3_K n3_N hp0 hp1 bya byb byc byd
  refine own_GH.sk 41 [(.int 3)] (fun _ kq => XS.iload n3_X.here hx rfl (hb hby at_39) rfl kq) ?_
  refine own_GH.sk 42 [(.int 1), (.int 3)] (fun _ kq => XS.iconst n3_X.here hx rfl (hb hby at_41) kq) ?_
  have hc42 : ¬ ((3 : Int32) = (1 : Int32)) := (by decide)
  refine own_GH.sk 58 [] (fun _ kq => XS.icmpYes n3_X.here hx rfl (pc0 := 42) (pc' := 58) rfl (hb hby at_42) rfl (feq hc42).2 (by decide) (by decide) kq) ?_
  refine own_GH.sk 60 [(.int 3)] (fun _ kq => XS.iload n3_X.here hx rfl (hb hby at_58) rfl kq) ?_
  refine own_GH.sk 61 [(.int 2), (.int 3)] (fun _ kq => XS.iconst n3_X.here hx rfl (hb hby at_60) kq) ?_
  have hc61 : ¬ ((3 : Int32) = (2 : Int32)) := (by decide)
  refine own_GH.sk 82 [] (fun _ kq => XS.icmpYes n3_X.here hx rfl (pc0 := 61) (pc' := 82) rfl (hb hby at_61) rfl (feq hc61).2 (by decide) (by decide) kq) ?_
  refine own_GH.sk 84 [(.int 3)] (fun _ kq => XS.iload n3_X.here hx rfl (hb hby at_82) rfl kq) ?_
  refine own_GH.sk 85 [(.int 3), (.int 3)] (fun _ kq => XS.iconst n3_X.here hx rfl (hb hby at_84) kq) ?_
  have hc85 : (3 : Int32) = (3 : Int32) := (by decide)
  refine own_GH.sk 88 [] (fun _ kq => XS.icmpNo n3_X.here hx rfl (hb hby at_85) rfl (teq hc85).2 kq) ?_
  refine own_GH.sk 89 [(.int 3)] (fun _ kq => XS.iconst n3_X.here hx rfl (hb hby at_88) kq) ?_
  obtain ⟨T534, h534, k534, X534, e534, E534, A534, st534⟩ := newP n3_X hx hZ (W_ 5 rfl) n3_e (g := (mkF m 89 #[iv ln, iv xa, iv xb, iv xc, iv xd, iv po, iv 3, iv ya, iv yb, iv yc, iv yd, iv pp, .unset, .unset, .unset, .unset, .unset, .unset] [(.int 3)])) rfl (hb hby at_89) rfl (by decide) (cap := 3) (by decide) (by decide) (by decide) (by decide)
  obtain ⟨b534, g534⟩ : ∃ z, z = n3_h.size := ⟨_, rfl⟩
  rw [← g534] at A534 st534
  have g535 : n0 ≤ b534 := Nat.le_trans n3_O.le (Nat.le_of_eq g534.symm)
  have z536 : h0.size ≤ b534 := Nat.le_trans n3_K.1 (Nat.le_of_eq g534.symm)
  have sf537 : Safe Z own_EL n3_vm n3_h b534 := Safe.new (Nat.le_of_eq g534.symm)
  have hkS := Nat.le_trans hkS E534.1
  have sf538 := Safe.ext E534 hH sf537
  have hR := hR.trans (CHr.ext E534 hH)
  have hH := CHv.ext E534 hH
  have O539 := n3_O.ext E534
  have K540 := n3_K.ext E534
  have F541 : Arv Z h534 b534 k534 .char (3 : Int32) [(.int 0), (.int 0), (.int 0)] (.int 0) := (Arv.new A534 (by decide)).pad (pad_rep [] (.int 0) 3)
  refine own_GH.st (T' := T534) 91 [(.ref b534)] st534 ?_
  refine own_GH.sk 92 [(.ref b534), (.ref b534)] (fun _ kq => XS.dup X534.here hx rfl (hb hby at_91) rfl rfl kq) ?_
  refine own_GH.sk 93 [(.int 0), (.ref b534), (.ref b534)] (fun _ kq => XS.iconst X534.here hx rfl (hb hby at_92) kq) ?_
  refine own_GH.sk 95 [(.int ya), (.int 0), (.ref b534), (.ref b534)] (fun _ kq => XS.iload X534.here hx rfl (hb hby at_93) rfl kq) ?_
  obtain ⟨cl542, Ar542, q1542, Sz542, Nz542, Hh542, Gg542⟩ := id F541
  obtain ⟨T542, h542, X542, e542, W542, st542⟩ := stC X534 hx hZ e534 Ar542 (j := (0 : Int32)) (inb_of Sz542 ⟨by decide, by decide⟩) (g := (mkF m 95 #[iv ln, iv xa, iv xb, iv xc, iv xd, iv po, iv 3, iv ya, iv yb, iv yc, iv yd, iv pp, .unset, .unset, .unset, .unset, .unset, .unset] [(.int ya), (.int 0), (.ref b534), (.ref b534)])) rfl rfl (hb hby at_95)
  have F543 : Arv Z h542 b534 k534 .char (3 : Int32) [(.int (nar .char ya)), (.int 0), (.int 0)] (.int 0) := Arv.set Ar542 q1542 Sz542 Nz542 Hh542 Gg542 (fits_nar_char _) W542 0 rfl (Nat.le_of_ble_eq_true rfl)
  have N542 := Fr.snoc X542 n3_N g535
  have hkS := Nat.le_trans hkS (Keep.of_wr W542).1
  have sf544 := Safe.wr W542 sf538 hH sf538
  have hR := hR.trans (CHr.wr W542 sf538 hH)
  have hH := CHv.wr W542 sf538 hH
  have O546 := O539.wr W542 g535
  have K547 := K540.wr W542 (Or.inr z536)
  refine own_GH.st (T' := T542) 96 [(.ref b534)] st542 ?_
  refine own_GH.sk 97 [(.ref b534), (.ref b534)] (fun _ kq => XS.dup X542.here hx rfl (hb hby at_96) rfl rfl kq) ?_
  refine own_GH.sk 98 [(.int 1), (.ref b534), (.ref b534)] (fun _ kq => XS.iconst X542.here hx rfl (hb hby at_97) kq) ?_
  refine own_GH.sk 100 [(.int yb), (.int 1), (.ref b534), (.ref b534)] (fun _ kq => XS.iload X542.here hx rfl (hb hby at_98) rfl kq) ?_
  obtain ⟨cl548, Ar548, q1548, Sz548, Nz548, Hh548, Gg548⟩ := id F543
  obtain ⟨T548, h548, X548, e548, W548, st548⟩ := stC X542 hx hZ e542 Ar548 (j := (1 : Int32)) (inb_of Sz548 ⟨by decide, by decide⟩) (g := (mkF m 100 #[iv ln, iv xa, iv xb, iv xc, iv xd, iv po, iv 3, iv ya, iv yb, iv yc, iv yd, iv pp, .unset, .unset, .unset, .unset, .unset, .unset] [(.int yb), (.int 1), (.ref b534), (.ref b534)])) rfl rfl (hb hby at_100)
  have F549 : Arv Z h548 b534 k534 .char (3 : Int32) [(.int (nar .char ya)), (.int (nar .char yb)), (.int 0)] (.int 0) := Arv.set Ar548 q1548 Sz548 Nz548 Hh548 Gg548 (fits_nar_char _) W548 1 rfl (Nat.le_of_ble_eq_true rfl)
  have N548 := Fr.snoc X548 N542 g535
  have hkS := Nat.le_trans hkS (Keep.of_wr W548).1
  have sf550 := Safe.wr W548 sf544 hH sf544
  have hR := hR.trans (CHr.wr W548 sf544 hH)
  have hH := CHv.wr W548 sf544 hH
  have O552 := O546.wr W548 g535
  have K553 := K547.wr W548 (Or.inr z536)
  refine own_GH.st (T' := T548) 101 [(.ref b534)] st548 ?_
  refine own_GH.sk 102 [(.ref b534), (.ref b534)] (fun _ kq => XS.dup X548.here hx rfl (hb hby at_101) rfl rfl kq) ?_
  refine own_GH.sk 103 [(.int 2), (.ref b534), (.ref b534)] (fun _ kq => XS.iconst X548.here hx rfl (hb hby at_102) kq) ?_
  refine own_GH.sk 105 [(.int yc), (.int 2), (.ref b534), (.ref b534)] (fun _ kq => XS.iload X548.here hx rfl (hb hby at_103) rfl kq) ?_
  obtain ⟨cl554, Ar554, q1554, Sz554, Nz554, Hh554, Gg554⟩ := id F549
  obtain ⟨T554, h554, X554, e554, W554, st554⟩ := stC X548 hx hZ e548 Ar554 (j := (2 : Int32)) (inb_of Sz554 ⟨by decide, by decide⟩) (g := (mkF m 105 #[iv ln, iv xa, iv xb, iv xc, iv xd, iv po, iv 3, iv ya, iv yb, iv yc, iv yd, iv pp, .unset, .unset, .unset, .unset, .unset, .unset] [(.int yc), (.int 2), (.ref b534), (.ref b534)])) rfl rfl (hb hby at_105)
  have F555 : Arv Z h554 b534 k534 .char (3 : Int32) [(.int (nar .char ya)), (.int (nar .char yb)), (.int (nar .char yc))] (.int 0) := Arv.set Ar554 q1554 Sz554 Nz554 Hh554 Gg554 (fits_nar_char _) W554 2 rfl (Nat.le_of_ble_eq_true rfl)
  have N554 := Fr.snoc X554 N548 g535
  have hkS := Nat.le_trans hkS (Keep.of_wr W554).1
  have sf556 := Safe.wr W554 sf550 hH sf550
  have hR := hR.trans (CHr.wr W554 sf550 hH)
  have hH := CHv.wr W554 sf550 hH
  have O558 := O552.wr W554 g535
  have K559 := K553.wr W554 (Or.inr z536)
  refine own_GH.st (T' := T554) 106 [(.ref b534)] st554 ?_
  refine own_GH.si 108 [] (fun _ kq => XS.astore X554.here hx rfl (hb hby at_106) rfl rfl (l' := #[iv ln, iv xa, iv xb, iv xc, iv xd, iv po, iv 3, iv ya, iv yb, iv yc, iv yd, iv pp, rv b534, .unset, .unset, .unset, .unset, .unset]) rfl kq) ?_
  refine own_GH.sk 136 [] (fun _ kq => XS.goto X554.here hx rfl (pc0 := 108) (pc' := 136) rfl (hb hby at_108) (by decide) (by decide) kq) ?_
  obtain ⟨T560, h560, X560, e560, E560, A560, D560, -, st560⟩ := newO X554 hx hZ hown (W_ 6 rfl) (W_ 7 rfl) (W_ 8 rfl) e554 (g := (mkF m 136 #[iv ln, iv xa, iv xb, iv xc, iv xd, iv po, iv 3, iv ya, iv yb, iv yc, iv yd, iv pp, rv b534, .unset, .unset, .unset, .unset, .unset] [])) rfl (hb hby at_136) (by decide) (by decide)
  obtain ⟨b560, g560⟩ : ∃ z, z = h554.size := ⟨_, rfl⟩
  rw [← g560] at A560 D560 st560
  have ne561 : b534 ≠ b560 := Nat.ne_of_lt (Nat.lt_of_lt_of_le F555.lt (Nat.le_of_eq g560.symm))
  have g562 : n0 ≤ b560 := Nat.le_trans O558.le (Nat.le_of_eq g560.symm)
  have z563 : h0.size ≤ b560 := Nat.le_trans K559.1 (Nat.le_of_eq g560.symm)
  have sf564 : Safe Z own_EL n3_vm h554 b560 := Safe.new (Nat.le_of_eq g560.symm)
  have hkS := Nat.le_trans hkS E560.1
  have sf565 := Safe.ext E560 hH sf556
  have sf566 := Safe.ext E560 hH sf564
  have hR := hR.trans (CHr.ext E560 hH)
  have hH := CHv.ext E560 hH
  have F567 := F555.ext E560
  have O568 := O558.ext E560
  have K569 := K559.ext E560
  have F570 : Fld Z h560 b560 "java/lang/String" "coder" "B" (.int 0) := D560 (Or.inr (W_ 32 rfl)) (ty := .byte) (by decide)
  have F571 : Fld Z h560 b560 "java/lang/String" "value" "[B" .null := D560 (Or.inr (W_ 34 rfl)) (ty := (.array .byte)) (by decide)
  refine own_GH.st (T' := T560) 139 [(.ref b560)] st560 ?_
  refine own_GH.sk 140 [(.ref b560), (.ref b560)] (fun _ kq => XS.dup X560.here hx rfl (hb hby at_139) rfl rfl kq) ?_
  refine own_GH.sk 142 [(.ref b534), (.ref b560), (.ref b560)] (fun _ kq => XS.aload X560.here hx rfl (hb hby at_140) rfl rfl kq) ?_
  have hp572 : ∀ c ∈ ([(nar .char ya), (nar .char yb), (nar .char yc)] : List Int32), ¬ c < 0 ∧ ¬ (255 : Int32) < c := by
    intro c hc
    simp only [List.mem_cons, List.not_mem_nil, or_false] at hc
    rcases hc with rfl | rfl | rfl
    · exact own_narb bya
    · exact own_narb byb
    · exact own_narb byc
  obtain ⟨_, _, ⟨T573, L573, k573, n573⟩, -, X573, ⟨Lc573, hQ573, l573, y573, z573⟩, st573⟩ := X560.specialBack hx (y := own_y43) rfl hown (mvT hZ (W_ 9 rfl)) (mvT hZ (W_ 10 rfl)) (mvT hZ (W_ 11 rfl)) (by decide) (StrChars.Road.backV (W := 1) hZ hws (kI := 4) (W_ 7 rfl) (cs := ([(nar .char ya), (nar .char yb), (nar .char yc)] : List Int32)) (bs := (([(nar .char ya), (nar .char yb), (nar .char yc)] : List Int32).map (fun c => c.toInt8.toInt32))) (n := 3) g562 O568.le A560 F571 F570 F567 (Sta.ext O568.2 S_CS) hcs rfl rfl (by decide) (by decide) hp572 rfl (by decide) (by decide)) (g := (mkF m 142 #[iv ln, iv xa, iv xb, iv xc, iv xd, iv po, iv 3, iv ya, iv yb, iv yc, iv yd, iv pp, rv b534, .unset, .unset, .unset, .unset, .unset] [(.ref b534), (.ref b560), (.ref b560)])) rfl (by rw [hml]; rfl) (Steps.refl _) (a := b560) (argsL := [(.ref b534)]) (rest := [(.ref b560)]) (lenOf pd__28_5bC_29V rfl) rfl (by show 2 * 0 + _ ≤ _; exact Nat.le_of_eq rfl) (hb hby at_142) (fun _ _ => ⟨rfl, e560, (by decide : 2 + 1 ≤ _), (by decide : 7 + 3 ≤ _)⟩)
  dsimp only [Pt.U, Pt.locs, Pt.cells, Pt.slots] at X573 l573 y573 z573 st573 hQ573
  subst l573 y573 z573
  obtain ⟨rfl, P574, P575, P576, P577, b578, kx579, P580, P581, P582, P583, P584⟩ := hQ573
  have N573 := Fr.app N554 P574
  have ne585 : b534 ≠ b578 := Nat.ne_of_lt (Nat.lt_of_lt_of_le F567.lt P581)
  have ne586 : b560 ≠ b578 := Nat.ne_of_lt (Nat.lt_of_lt_of_le A560.lt P581)
  have g587 : n0 ≤ b578 := Nat.le_trans O568.le P581
  have z588 : h0.size ≤ b578 := Nat.le_trans K569.1 P581
  have sf589 : Safe Z own_EL n3_vm h560 b578 := Safe.new P581
  have hkS := Nat.le_trans hkS P575.1
  have sf590 := Safe.keep P575 (sfS sf566 sf0) hH sf565
  have sf591 := Safe.keep P575 (sfS sf566 sf0) hH sf566
  have sf592 := Safe.keep P575 (sfS sf566 sf0) hH sf589
  have hR := hR.trans (CHr.keep P575 (sfS sf566 sf0) hH)
  have hH := CHv.keep P575 (sfS sf566 sf0) hH
  have F593 := F567.keep P575 (ninS ne561 nin0)
  have F594 := A560.keep P575
  have O595 := O568.keep P575 (allS g562 all0)
  have K596 := K569.trans P575 (allS (Or.inr z563) all0)
  refine own_GH.st (T' := T573) 145 [(.ref b560)] (fun _ kq => st573.trans kq) ?_
  obtain ⟨ys, hys⟩ : ∃ z : List Int32, z = [own_by (nar .char ya), own_by (nar .char yb), own_by (nar .char yc)] := ⟨_, rfl⟩
  have F597 : Arv Z T573.heap b578 kx579 .byte (3 : Int32) (own_B ys) (.int 0) := by rw [hys]; exact P584
  have hL4 : own_L4 ys (3 : Int32) := Or.inr (Or.inr (Or.inl (⟨_, _, _, hys, rfl⟩)))
  refine own_GH.si 147 [] (fun _ kq => XS.astore X573.here hx rfl (hb hby at_145) rfl rfl (l' := #[iv ln, iv xa, iv xb, iv xc, iv xd, iv po, iv 3, iv ya, iv yb, iv yc, iv yd, iv pp, rv b534, rv b560, .unset, .unset, .unset, .unset]) rfl kq) ?_
  have th : ∀ (th_T : State) (th_h : Heap) (th_L : List Loc) (th_vm : Vm) (th_k : Nat) (co : Int32) (o : Addr) (kk : Int32) (ko : ClassId) (cs : List Int32), (Stand p l e room_1 (s.setVm th_vm) m #[(.int ln), (.int xa), (.int xb), (.int xc), (.int xd), (.int po)] below meth c th_T th_L 4 22) → (th_T.heap = th_h) → (s.Since th_vm th_k) → (th_k ≤ th_h.size) → (Z.Warmed39 (s.setVm th_vm).vm) → ((s.setVm th_vm).vm.findClass "com/example/redelivery/redelivery/settings/ListenAddressToStringPinLaw" = some m.cls) → (CHv Z own_EL th_vm th_h) → (CHr Z own_EL s.vm h0 th_vm th_h) → (Old Z n0 th_h) → (Keep h0 th_h []) → (Fr n0 th_L) → (Exa Z th_h b560 "java/lang/String") → (Fld Z th_h b560 "java/lang/String" "coder" "B" (.int 0)) → (Fld Z th_h b560 "java/lang/String" "value" "[B" (.ref b578)) → (Arv Z th_h b578 kx579 .byte (3 : Int32) (own_B ys) (.int 0)) → (Arv Z th_h o ko .char (12 : Int32) (own_B cs) (.int 0)) → (kk.toInt = (cs.length : Int)) → (cs.length ≤ 1) → (∀ c ∈ cs, ¬ c < (0 : Int32) ∧ ¬ (255 : Int32) < c) → ((co = (0 : Int32) → ¬ (58 : Int32) ∈ ys ∧ cs.map own_by = []) ∧ (¬ co = (0 : Int32) → (58 : Int32) ∈ ys ∧ cs.map own_by = [] ++ [(91 : Int32)])) → (n0 ≤ o) → (h0.size ≤ o) → (b578 ≠ o) → (b560 ≠ o) → own_GH Z own_EL p e below s 21 150 (Q_law Z ln xa xb xc xd po csz fm dga cga dgb cgb h0 n0) th_T (mkF m 227 #[iv ln, iv xa, iv xb, iv xc, iv xd, iv po, iv 3, iv ya, iv yb, iv yc, iv yd, iv pp, rv b534, rv b560, iv co, rv o, iv kk, .unset] []) := by
    intro th_T th_h th_L th_vm th_k co o kk ko cs th_X th_e hS hkS hZ hown hH hR th_O th_K th_N th_F0 th_F1 th_F2 th_F3 th_F4 hk hk1 hcb hq0 go zo uno sno
    refine own_GH.sk 229 [(.ref o)] (fun _ kq => XS.aload th_X.here hx rfl (hb hby at_227) rfl rfl kq) ?_
    refine own_GH.sk 231 [(.int kk), (.ref o)] (fun _ kq => XS.iload th_X.here hx rfl (hb hby at_229) rfl kq) ?_
    refine own_GH.sk 233 [(.int ya), (.int kk), (.ref o)] (fun _ kq => XS.iload th_X.here hx rfl (hb hby at_231) rfl kq) ?_
    have hk599 : (kk + (1 : Int32)).toInt = ((cs ++ [(nar .char ya)]).length : Int) := own_k1 hk (Nat.le_trans hk1 (by decide))
    obtain ⟨cl598, Ar598, -, Sz598, -, -, -⟩ := id th_F4
    obtain ⟨T598, h598, X598, e598, W598, st598⟩ := stC th_X hx hZ th_e Ar598 (j := kk) (inb_of Sz598 (own_in12 hk (Nat.lt_of_le_of_lt hk1 (by decide)))) (g := (mkF m 233 #[iv ln, iv xa, iv xb, iv xc, iv xd, iv po, iv 3, iv ya, iv yb, iv yc, iv yd, iv pp, rv b534, rv b560, iv co, rv o, iv kk, .unset] [(.int ya), (.int kk), (.ref o)])) rfl rfl (hb hby at_233)
    have F600 : Arv Z h598 o ko .char (12 : Int32) (own_B (cs ++ [(nar .char ya)])) (.int 0) := own_pushB th_F4 (fits_nar_char _) W598 hk
    have N598 := Fr.snoc X598 th_N go
    have hkS := Nat.le_trans hkS (Keep.of_wr W598).1
    have hR := hR.trans (CHr.wr W598 (Safe.arv hZ.alike th_F4 (by decide)) hH)
    have hH := CHv.wr W598 (Safe.arv hZ.alike th_F4 (by decide)) hH
    have F601 := th_F0.wr W598
    have F602 := th_F1.other W598 (Or.inl sno)
    have F603 := th_F2.other W598 (Or.inl sno)
    have F604 := th_F3.other W598 uno
    have O606 := th_O.wr W598 go
    have K607 := th_K.wr W598 (Or.inr zo)
    refine own_GH.st (T' := T598) 234 [] st598 ?_
    refine own_GH.sk 236 [(.int kk)] (fun _ kq => XS.iload X598.here hx rfl (hb hby at_234) rfl kq) ?_
    refine own_GH.sk 237 [(.int 1), (.int kk)] (fun _ kq => XS.iconst X598.here hx rfl (hb hby at_236) kq) ?_
    refine own_GH.sk 238 [(.int (kk + (1 : Int32)))] (fun _ kq => XS.iadd X598.here hx rfl (hb hby at_237) rfl kq) ?_
    refine own_GH.si 240 [] (fun _ kq => XS.istore X598.here hx rfl (hb hby at_238) rfl (l' := #[iv ln, iv xa, iv xb, iv xc, iv xd, iv po, iv 3, iv ya, iv yb, iv yc, iv yd, iv pp, rv b534, rv b560, iv co, rv o, .val (.int (kk + (1 : Int32))), .unset]) rfl kq) ?_
    refine own_GH.sk 242 [(.int 3)] (fun _ kq => XS.iload X598.here hx rfl (hb hby at_240) rfl kq) ?_
    refine own_GH.sk 243 [(.int 1), (.int 3)] (fun _ kq => XS.iconst X598.here hx rfl (hb hby at_242) kq) ?_
    have hc243 : (1 : Int32) < (3 : Int32) := (by decide)
    refine own_GH.sk 246 [] (fun _ kq => XS.icmpNo X598.here hx rfl (hb hby at_243) rfl (tlt hc243).2.2.2 kq) ?_
    refine own_GH.sk 248 [(.ref o)] (fun _ kq => XS.aload X598.here hx rfl (hb hby at_246) rfl rfl kq) ?_
    refine own_GH.sk 250 [(.int (kk + (1 : Int32))), (.ref o)] (fun _ kq => XS.iload X598.here hx rfl (hb hby at_248) rfl kq) ?_
    refine own_GH.sk 252 [(.int yb), (.int (kk + (1 : Int32))), (.ref o)] (fun _ kq => XS.iload X598.here hx rfl (hb hby at_250) rfl kq) ?_
    have hk609 : ((kk + (1 : Int32)) + (1 : Int32)).toInt = (((cs ++ [(nar .char ya)]) ++ [(nar .char yb)]).length : Int) := own_k1 hk599 (Nat.le_trans (own_le1 hk1) (by decide))
    obtain ⟨cl608, Ar608, -, Sz608, -, -, -⟩ := id F600
    obtain ⟨T608, h608, X608, e608, W608, st608⟩ := stC X598 hx hZ e598 Ar608 (j := (kk + (1 : Int32))) (inb_of Sz608 (own_in12 hk599 (Nat.lt_of_le_of_lt (own_le1 hk1) (by decide)))) (g := (mkF m 252 #[iv ln, iv xa, iv xb, iv xc, iv xd, iv po, iv 3, iv ya, iv yb, iv yc, iv yd, iv pp, rv b534, rv b560, iv co, rv o, .val (.int (kk + (1 : Int32))), .unset] [(.int yb), (.int (kk + (1 : Int32))), (.ref o)])) rfl rfl (hb hby at_252)
    have F610 : Arv Z h608 o ko .char (12 : Int32) (own_B ((cs ++ [(nar .char ya)]) ++ [(nar .char yb)])) (.int 0) := own_pushB F600 (fits_nar_char _) W608 hk599
    have N608 := Fr.snoc X608 N598 go
    have hkS := Nat.le_trans hkS (Keep.of_wr W608).1
    have hR := hR.trans (CHr.wr W608 (Safe.arv hZ.alike F600 (by decide)) hH)
    have hH := CHv.wr W608 (Safe.arv hZ.alike F600 (by decide)) hH
    have F611 := F601.wr W608
    have F612 := F602.other W608 (Or.inl sno)
    have F613 := F603.other W608 (Or.inl sno)
    have F614 := F604.other W608 uno
    have O616 := O606.wr W608 go
    have K617 := K607.wr W608 (Or.inr zo)
    refine own_GH.st (T' := T608) 253 [] st608 ?_
    refine own_GH.sk 255 [(.int (kk + (1 : Int32)))] (fun _ kq => XS.iload X608.here hx rfl (hb hby at_253) rfl kq) ?_
    refine own_GH.sk 256 [(.int 1), (.int (kk + (1 : Int32)))] (fun _ kq => XS.iconst X608.here hx rfl (hb hby at_255) kq) ?_
    refine own_GH.sk 257 [(.int ((kk + (1 : Int32)) + (1 : Int32)))] (fun _ kq => XS.iadd X608.here hx rfl (hb hby at_256) rfl kq) ?_
    refine own_GH.si 259 [] (fun _ kq => XS.istore X608.here hx rfl (hb hby at_257) rfl (l' := #[iv ln, iv xa, iv xb, iv xc, iv xd, iv po, iv 3, iv ya, iv yb, iv yc, iv yd, iv pp, rv b534, rv b560, iv co, rv o, .val (.int ((kk + (1 : Int32)) + (1 : Int32))), .unset]) rfl kq) ?_
    refine own_GH.sk 261 [(.int 3)] (fun _ kq => XS.iload X608.here hx rfl (hb hby at_259) rfl kq) ?_
    refine own_GH.sk 262 [(.int 2), (.int 3)] (fun _ kq => XS.iconst X608.here hx rfl (hb hby at_261) kq) ?_
    have hc262 : (2 : Int32) < (3 : Int32) := (by decide)
    refine own_GH.sk 265 [] (fun _ kq => XS.icmpNo X608.here hx rfl (hb hby at_262) rfl (tlt hc262).2.2.2 kq) ?_
    refine own_GH.sk 267 [(.ref o)] (fun _ kq => XS.aload X608.here hx rfl (hb hby at_265) rfl rfl kq) ?_
    refine own_GH.sk 269 [(.int ((kk + (1 : Int32)) + (1 : Int32))), (.ref o)] (fun _ kq => XS.iload X608.here hx rfl (hb hby at_267) rfl kq) ?_
    refine own_GH.sk 271 [(.int yc), (.int ((kk + (1 : Int32)) + (1 : Int32))), (.ref o)] (fun _ kq => XS.iload X608.here hx rfl (hb hby at_269) rfl kq) ?_
    have hk619 : (((kk + (1 : Int32)) + (1 : Int32)) + (1 : Int32)).toInt = ((((cs ++ [(nar .char ya)]) ++ [(nar .char yb)]) ++ [(nar .char yc)]).length : Int) := own_k1 hk609 (Nat.le_trans (own_le1 (own_le1 hk1)) (by decide))
    obtain ⟨cl618, Ar618, -, Sz618, -, -, -⟩ := id F610
    obtain ⟨T618, h618, X618, e618, W618, st618⟩ := stC X608 hx hZ e608 Ar618 (j := ((kk + (1 : Int32)) + (1 : Int32))) (inb_of Sz618 (own_in12 hk609 (Nat.lt_of_le_of_lt (own_le1 (own_le1 hk1)) (by decide)))) (g := (mkF m 271 #[iv ln, iv xa, iv xb, iv xc, iv xd, iv po, iv 3, iv ya, iv yb, iv yc, iv yd, iv pp, rv b534, rv b560, iv co, rv o, .val (.int ((kk + (1 : Int32)) + (1 : Int32))), .unset] [(.int yc), (.int ((kk + (1 : Int32)) + (1 : Int32))), (.ref o)])) rfl rfl (hb hby at_271)
    have F620 : Arv Z h618 o ko .char (12 : Int32) (own_B (((cs ++ [(nar .char ya)]) ++ [(nar .char yb)]) ++ [(nar .char yc)])) (.int 0) := own_pushB F610 (fits_nar_char _) W618 hk609
    have N618 := Fr.snoc X618 N608 go
    have hkS := Nat.le_trans hkS (Keep.of_wr W618).1
    have hR := hR.trans (CHr.wr W618 (Safe.arv hZ.alike F610 (by decide)) hH)
    have hH := CHv.wr W618 (Safe.arv hZ.alike F610 (by decide)) hH
    have F621 := F611.wr W618
    have F622 := F612.other W618 (Or.inl sno)
    have F623 := F613.other W618 (Or.inl sno)
    have F624 := F614.other W618 uno
    have O626 := O616.wr W618 go
    have K627 := K617.wr W618 (Or.inr zo)
    refine own_GH.st (T' := T618) 272 [] st618 ?_
    refine own_GH.sk 274 [(.int ((kk + (1 : Int32)) + (1 : Int32)))] (fun _ kq => XS.iload X618.here hx rfl (hb hby at_272) rfl kq) ?_
    refine own_GH.sk 275 [(.int 1), (.int ((kk + (1 : Int32)) + (1 : Int32)))] (fun _ kq => XS.iconst X618.here hx rfl (hb hby at_274) kq) ?_
    refine own_GH.sk 276 [(.int (((kk + (1 : Int32)) + (1 : Int32)) + (1 : Int32)))] (fun _ kq => XS.iadd X618.here hx rfl (hb hby at_275) rfl kq) ?_
    refine own_GH.si 278 [] (fun _ kq => XS.istore X618.here hx rfl (hb hby at_276) rfl (l' := #[iv ln, iv xa, iv xb, iv xc, iv xd, iv po, iv 3, iv ya, iv yb, iv yc, iv yd, iv pp, rv b534, rv b560, iv co, rv o, .val (.int (((kk + (1 : Int32)) + (1 : Int32)) + (1 : Int32))), .unset]) rfl kq) ?_
    refine own_GH.sk 280 [(.int 3)] (fun _ kq => XS.iload X618.here hx rfl (hb hby at_278) rfl kq) ?_
    refine own_GH.sk 281 [(.int 3), (.int 3)] (fun _ kq => XS.iconst X618.here hx rfl (hb hby at_280) kq) ?_
    have hc281 : ¬ ((3 : Int32) < (3 : Int32)) := (by decide)
    refine own_GH.sk 297 [] (fun _ kq => XS.icmpYes X618.here hx rfl (pc0 := 281) (pc' := 297) rfl (hb hby at_281) rfl (flt hc281).2.2.2 (by decide) (by decide) kq) ?_
    exact rm_law_tb cx _ _ _ _ _ (3 : Int32) ya yb yc yd pp b534 b560 co o (((kk + (1 : Int32)) + (1 : Int32)) + (1 : Int32)) b578 kx579 (3 : Int32) ys ko (((cs ++ [(nar .char ya)]) ++ [(nar .char yb)]) ++ [(nar .char yc)]) (X618.mono (by decide) (by decide)) e618 hS hkS hZ hown hH hR O626 K627 N618 F621 F623 F622 F624 F620 hL4 hp0 hp1 hk619 (Nat.le_trans (own_le1 (own_le1 (own_le1 hk1))) (by decide)) (own_c255 (own_narb byc) (own_c255 (own_narb byb) (own_c255 (own_narb bya) hcb))) (⟨fun z => ⟨(hq0.1 z).1, ((own_f1 (own_f1 (own_f1 (hq0.1 z).2 rfl) rfl) rfl).trans (by rw [hys]; try simp only [List.append_assoc, List.cons_append, List.nil_append]))⟩, fun z => ⟨(hq0.2 z).1, ((own_f1 (own_f1 (own_f1 (hq0.2 z).2 rfl) rfl) rfl).trans (by rw [hys]; try simp only [List.append_assoc, List.cons_append, List.nil_append]))⟩⟩) go zo uno sno
  have tc : ∀ (tc_T : State) (tc_h : Heap) (tc_L : List Loc) (tc_vm : Vm) (tc_k : Nat) (dm : Int32), (Stand p l e room_1 (s.setVm tc_vm) m #[(.int ln), (.int xa), (.int xb), (.int xc), (.int xd), (.int po)] below meth c tc_T tc_L 3 10) → (tc_T.heap = tc_h) → (s.Since tc_vm tc_k) → (tc_k ≤ tc_h.size) → (Z.Warmed39 (s.setVm tc_vm).vm) → ((s.setVm tc_vm).vm.findClass "com/example/redelivery/redelivery/settings/ListenAddressToStringPinLaw" = some m.cls) → (CHv Z own_EL tc_vm tc_h) → (CHr Z own_EL s.vm h0 tc_vm tc_h) → (Old Z n0 tc_h) → (Keep h0 tc_h []) → (Fr n0 tc_L) → (Exa Z tc_h b560 "java/lang/String") → (Fld Z tc_h b560 "java/lang/String" "coder" "B" (.int 0)) → (Fld Z tc_h b560 "java/lang/String" "value" "[B" (.ref b578)) → (Arv Z tc_h b578 kx579 .byte (3 : Int32) (own_B ys) (.int 0)) → ((58 : Int32) ∈ ys) → own_GH Z own_EL p e below s 21 150 (Q_law Z ln xa xb xc xd po csz fm dga cga dgb cgb h0 n0) tc_T (mkF m 193 #[iv ln, iv xa, iv xb, iv xc, iv xd, iv po, iv 3, iv ya, iv yb, iv yc, iv yd, iv pp, rv b534, rv b560, .unset, .unset, .unset, .unset] []) := by
    intro tc_T tc_h tc_L tc_vm tc_k dm tc_X tc_e hS hkS hZ hown hH hR tc_O tc_K tc_N tc_F0 tc_F1 tc_F2 tc_F3 hcol
    refine own_GH.sk 194 [(.int 1)] (fun _ kq => XS.iconst tc_X.here hx rfl (hb hby at_193) kq) ?_
    refine own_GH.sk 198 [(.int 1)] (fun _ kq => XS.goto tc_X.here hx rfl (pc0 := 194) (pc' := 198) rfl (hb hby at_194) (by decide) (by decide) kq) ?_
    refine own_GH.si 200 [] (fun _ kq => XS.istore tc_X.here hx rfl (hb hby at_198) rfl (l' := #[iv ln, iv xa, iv xb, iv xc, iv xd, iv po, iv 3, iv ya, iv yb, iv yc, iv yd, iv pp, rv b534, rv b560, iv 1, .unset, .unset, .unset]) rfl kq) ?_
    refine own_GH.sk 202 [(.int 12)] (fun _ kq => XS.bipush tc_X.here hx rfl (hb hby at_200) kq) ?_
    obtain ⟨T628, h628, k628, X628, e628, E628, A628, st628⟩ := newP tc_X hx hZ (W_ 5 rfl) tc_e (g := (mkF m 202 #[iv ln, iv xa, iv xb, iv xc, iv xd, iv po, iv 3, iv ya, iv yb, iv yc, iv yd, iv pp, rv b534, rv b560, iv 1, .unset, .unset, .unset] [(.int 12)])) rfl (hb hby at_202) rfl (by decide) (cap := 12) (by decide) (by decide) (by decide) (by decide)
    obtain ⟨b628, g628⟩ : ∃ z, z = tc_h.size := ⟨_, rfl⟩
    rw [← g628] at A628 st628
    have ne629 : b560 ≠ b628 := Nat.ne_of_lt (Nat.lt_of_lt_of_le tc_F0.lt (Nat.le_of_eq g628.symm))
    have ne630 : b578 ≠ b628 := Nat.ne_of_lt (Nat.lt_of_lt_of_le tc_F3.lt (Nat.le_of_eq g628.symm))
    have g631 : n0 ≤ b628 := Nat.le_trans tc_O.le (Nat.le_of_eq g628.symm)
    have z632 : h0.size ≤ b628 := Nat.le_trans tc_K.1 (Nat.le_of_eq g628.symm)
    have sf633 : Safe Z own_EL tc_vm tc_h b628 := Safe.new (Nat.le_of_eq g628.symm)
    have hkS := Nat.le_trans hkS E628.1
    have sf634 := Safe.ext E628 hH sf633
    have hR := hR.trans (CHr.ext E628 hH)
    have hH := CHv.ext E628 hH
    have F635 := tc_F0.ext E628
    have F636 := tc_F1.ext E628
    have F637 := tc_F2.ext E628
    have F638 := tc_F3.ext E628
    have O639 := tc_O.ext E628
    have K640 := tc_K.ext E628
    have F641 : Arv Z h628 b628 k628 .char (12 : Int32) [] (.int 0) := Arv.new A628 (by decide)
    refine own_GH.st (T' := T628) 204 [(.ref b628)] st628 ?_
    have F642 : Arv Z h628 b628 k628 .char (12 : Int32) (own_B ([] : List Int32)) (.int 0) := F641
    have hkz : (0 : Int32).toInt = ((([] : List Int32).length : Nat) : Int) := by decide
    refine own_GH.si 206 [] (fun _ kq => XS.astore X628.here hx rfl (hb hby at_204) rfl rfl (l' := #[iv ln, iv xa, iv xb, iv xc, iv xd, iv po, iv 3, iv ya, iv yb, iv yc, iv yd, iv pp, rv b534, rv b560, iv 1, rv b628, .unset, .unset]) rfl kq) ?_
    refine own_GH.sk 207 [(.int 0)] (fun _ kq => XS.iconst X628.here hx rfl (hb hby at_206) kq) ?_
    refine own_GH.si 209 [] (fun _ kq => XS.istore X628.here hx rfl (hb hby at_207) rfl (l' := #[iv ln, iv xa, iv xb, iv xc, iv xd, iv po, iv 3, iv ya, iv yb, iv yc, iv yd, iv pp, rv b534, rv b560, iv 1, rv b628, iv 0, .unset]) rfl kq) ?_
    refine own_GH.sk 211 [(.int 1)] (fun _ kq => XS.iload X628.here hx rfl (hb hby at_209) rfl kq) ?_
    have hc211 : ¬ ((1 : Int32) = (0 : Int32)) := (by decide)
    refine own_GH.sk 214 [] (fun _ kq => XS.ifNo X628.here hx rfl (hb hby at_211) rfl ((if0 _ _).trans (feq hc211).1) kq) ?_
    refine own_GH.sk 216 [(.ref b628)] (fun _ kq => XS.aload X628.here hx rfl (hb hby at_214) rfl rfl kq) ?_
    refine own_GH.sk 218 [(.int 0), (.ref b628)] (fun _ kq => XS.iload X628.here hx rfl (hb hby at_216) rfl kq) ?_
    refine own_GH.sk 220 [(.int 91), (.int 0), (.ref b628)] (fun _ kq => XS.bipush X628.here hx rfl (hb hby at_218) kq) ?_
    have hk644 : ((0 : Int32) + (1 : Int32)).toInt = ((([] : List Int32) ++ [(nar .char (91 : Int32))]).length : Int) := own_k1 hkz (Nat.le_trans (Nat.le_refl 0) (by decide))
    obtain ⟨cl643, Ar643, -, Sz643, -, -, -⟩ := id F642
    obtain ⟨T643, h643, X643, e643, W643, st643⟩ := stC X628 hx hZ e628 Ar643 (j := (0 : Int32)) (inb_of Sz643 (own_in12 hkz (Nat.lt_of_le_of_lt (Nat.le_refl 0) (by decide)))) (g := (mkF m 220 #[iv ln, iv xa, iv xb, iv xc, iv xd, iv po, iv 3, iv ya, iv yb, iv yc, iv yd, iv pp, rv b534, rv b560, iv 1, rv b628, iv 0, .unset] [(.int 91), (.int 0), (.ref b628)])) rfl rfl (hb hby at_220)
    have F645 : Arv Z h643 b628 k628 .char (12 : Int32) (own_B (([] : List Int32) ++ [(nar .char (91 : Int32))])) (.int 0) := own_pushB F642 (fits_nar_char _) W643 hkz
    have N643 := Fr.snoc X643 tc_N g631
    have hkS := Nat.le_trans hkS (Keep.of_wr W643).1
    have sf646 := Safe.wr W643 sf634 hH sf634
    have hR := hR.trans (CHr.wr W643 sf634 hH)
    have hH := CHv.wr W643 sf634 hH
    have F647 := F635.wr W643
    have F648 := F636.other W643 (Or.inl ne629)
    have F649 := F637.other W643 (Or.inl ne629)
    have F650 := F638.other W643 ne630
    have O652 := O639.wr W643 g631
    have K653 := K640.wr W643 (Or.inr z632)
    refine own_GH.st (T' := T643) 221 [] st643 ?_
    refine own_GH.sk 223 [(.int 0)] (fun _ kq => XS.iload X643.here hx rfl (hb hby at_221) rfl kq) ?_
    refine own_GH.sk 224 [(.int 1), (.int 0)] (fun _ kq => XS.iconst X643.here hx rfl (hb hby at_223) kq) ?_
    refine own_GH.sk 225 [(.int ((0 : Int32) + (1 : Int32)))] (fun _ kq => XS.iadd X643.here hx rfl (hb hby at_224) rfl kq) ?_
    refine own_GH.si 227 [] (fun _ kq => XS.istore X643.here hx rfl (hb hby at_225) rfl (l' := #[iv ln, iv xa, iv xb, iv xc, iv xd, iv po, iv 3, iv ya, iv yb, iv yc, iv yd, iv pp, rv b534, rv b560, iv 1, rv b628, .val (.int ((0 : Int32) + (1 : Int32))), .unset]) rfl kq) ?_
    exact th _ _ _ _ _ (1 : Int32) b628 ((0 : Int32) + (1 : Int32)) k628 (([] : List Int32) ++ [(nar .char (91 : Int32))]) (X643.mono (by decide) (by decide)) e643 hS hkS hZ hown hH hR O652 K653 N643 F647 F648 F649 F650 F645 hk644 (own_le1 (Nat.le_refl 0)) (own_c255 ⟨by decide, by decide⟩ own_n255) (⟨fun z => absurd z (by decide), fun _ => ⟨hcol, own_f1 rfl own_k91⟩⟩) g631 z632 ne630 ne629
  refine own_GH.sk 149 [(.int ya)] (fun _ kq => XS.iload X573.here hx rfl (hb hby at_147) rfl kq) ?_
  refine own_GH.sk 151 [(.int 58), (.int ya)] (fun _ kq => XS.bipush X573.here hx rfl (hb hby at_149) kq) ?_
  rcases Classical.em (ya = (58 : Int32)) with hc151 | hc151
  · refine own_GH.sk 193 [] (fun _ kq => XS.icmpYes X573.here hx rfl (pc0 := 151) (pc' := 193) rfl (hb hby at_151) rfl (teq hc151).1 (by decide) (by decide) kq) ?_
    exact tc _ _ _ _ _ (0 : Int32) (X573.mono (by decide) (by decide)) rfl hS hkS hZ hown hH hR O595 K596 N573 P576 P577 P583 F597 (by rw [hys, own_m58 bya hc151]; simp)
  · refine own_GH.sk 154 [] (fun _ kq => XS.icmpNo X573.here hx rfl (hb hby at_151) rfl (feq hc151).1 kq) ?_
    refine own_GH.sk 156 [(.int 3)] (fun _ kq => XS.iload X573.here hx rfl (hb hby at_154) rfl kq) ?_
    refine own_GH.sk 157 [(.int 1), (.int 3)] (fun _ kq => XS.iconst X573.here hx rfl (hb hby at_156) kq) ?_
    have hc157 : (1 : Int32) < (3 : Int32) := (by decide)
    refine own_GH.sk 160 [] (fun _ kq => XS.icmpNo X573.here hx rfl (hb hby at_157) rfl (tlt hc157).2.2.2 kq) ?_
    refine own_GH.sk 162 [(.int yb)] (fun _ kq => XS.iload X573.here hx rfl (hb hby at_160) rfl kq) ?_
    refine own_GH.sk 164 [(.int 58), (.int yb)] (fun _ kq => XS.bipush X573.here hx rfl (hb hby at_162) kq) ?_
    rcases Classical.em (yb = (58 : Int32)) with hc164 | hc164
    · refine own_GH.sk 193 [] (fun _ kq => XS.icmpYes X573.here hx rfl (pc0 := 164) (pc' := 193) rfl (hb hby at_164) rfl (teq hc164).1 (by decide) (by decide) kq) ?_
      exact tc _ _ _ _ _ (0 : Int32) (X573.mono (by decide) (by decide)) rfl hS hkS hZ hown hH hR O595 K596 N573 P576 P577 P583 F597 (by rw [hys, own_m58 byb hc164]; simp)
    · refine own_GH.sk 167 [] (fun _ kq => XS.icmpNo X573.here hx rfl (hb hby at_164) rfl (feq hc164).1 kq) ?_
      refine own_GH.sk 169 [(.int 3)] (fun _ kq => XS.iload X573.here hx rfl (hb hby at_167) rfl kq) ?_
      refine own_GH.sk 170 [(.int 2), (.int 3)] (fun _ kq => XS.iconst X573.here hx rfl (hb hby at_169) kq) ?_
      have hc170 : (2 : Int32) < (3 : Int32) := (by decide)
      refine own_GH.sk 173 [] (fun _ kq => XS.icmpNo X573.here hx rfl (hb hby at_170) rfl (tlt hc170).2.2.2 kq) ?_
      refine own_GH.sk 175 [(.int yc)] (fun _ kq => XS.iload X573.here hx rfl (hb hby at_173) rfl kq) ?_
      refine own_GH.sk 177 [(.int 58), (.int yc)] (fun _ kq => XS.bipush X573.here hx rfl (hb hby at_175) kq) ?_
      rcases Classical.em (yc = (58 : Int32)) with hc177 | hc177
      · refine own_GH.sk 193 [] (fun _ kq => XS.icmpYes X573.here hx rfl (pc0 := 177) (pc' := 193) rfl (hb hby at_177) rfl (teq hc177).1 (by decide) (by decide) kq) ?_
        exact tc _ _ _ _ _ (0 : Int32) (X573.mono (by decide) (by decide)) rfl hS hkS hZ hown hH hR O595 K596 N573 P576 P577 P583 F597 (by rw [hys, own_m58 byc hc177]; simp)
      · refine own_GH.sk 180 [] (fun _ kq => XS.icmpNo X573.here hx rfl (hb hby at_177) rfl (feq hc177).1 kq) ?_
        refine own_GH.sk 182 [(.int 3)] (fun _ kq => XS.iload X573.here hx rfl (hb hby at_180) rfl kq) ?_
        refine own_GH.sk 183 [(.int 3), (.int 3)] (fun _ kq => XS.iconst X573.here hx rfl (hb hby at_182) kq) ?_
        have hc183 : ¬ ((3 : Int32) < (3 : Int32)) := (by decide)
        refine own_GH.sk 197 [] (fun _ kq => XS.icmpYes X573.here hx rfl (pc0 := 183) (pc' := 197) rfl (hb hby at_183) rfl (flt hc183).2.2.2 (by decide) (by decide) kq) ?_
        have hcol : ¬ (58 : Int32) ∈ ys := by
          rw [hys]
          simp only [List.mem_cons, List.not_mem_nil, or_false, not_or]
          exact ⟨fun q => hc151 ((own_by58 bya).mp q.symm), fun q => hc164 ((own_by58 byb).mp q.symm), fun q => hc177 ((own_by58 byc).mp q.symm)⟩
        refine own_GH.sk 198 [(.int 0)] (fun _ kq => XS.iconst X573.here hx rfl (hb hby at_197) kq) ?_
        refine own_GH.si 200 [] (fun _ kq => XS.istore X573.here hx rfl (hb hby at_198) rfl (l' := #[iv ln, iv xa, iv xb, iv xc, iv xd, iv po, iv 3, iv ya, iv yb, iv yc, iv yd, iv pp, rv b534, rv b560, iv 0, .unset, .unset, .unset]) rfl kq) ?_
        refine own_GH.sk 202 [(.int 12)] (fun _ kq => XS.bipush X573.here hx rfl (hb hby at_200) kq) ?_
        obtain ⟨T654, h654, k654, X654, e654, E654, A654, st654⟩ := newP X573 hx hZ (W_ 5 rfl) rfl (g := (mkF m 202 #[iv ln, iv xa, iv xb, iv xc, iv xd, iv po, iv 3, iv ya, iv yb, iv yc, iv yd, iv pp, rv b534, rv b560, iv 0, .unset, .unset, .unset] [(.int 12)])) rfl (hb hby at_202) rfl (by decide) (cap := 12) (by decide) (by decide) (by decide) (by decide)
        obtain ⟨b654, g654⟩ : ∃ z, z = T573.heap.size := ⟨_, rfl⟩
        rw [← g654] at A654 st654
        have ne655 : b560 ≠ b654 := Nat.ne_of_lt (Nat.lt_of_lt_of_le P576.lt (Nat.le_of_eq g654.symm))
        have ne656 : b578 ≠ b654 := Nat.ne_of_lt (Nat.lt_of_lt_of_le F597.lt (Nat.le_of_eq g654.symm))
        have g657 : n0 ≤ b654 := Nat.le_trans O595.le (Nat.le_of_eq g654.symm)
        have z658 : h0.size ≤ b654 := Nat.le_trans K596.1 (Nat.le_of_eq g654.symm)
        have sf659 : Safe Z own_EL n3_vm T573.heap b654 := Safe.new (Nat.le_of_eq g654.symm)
        have hkS := Nat.le_trans hkS E654.1
        have sf660 := Safe.ext E654 hH sf590
        have sf661 := Safe.ext E654 hH sf591
        have sf662 := Safe.ext E654 hH sf592
        have sf663 := Safe.ext E654 hH sf659
        have hR := hR.trans (CHr.ext E654 hH)
        have hH := CHv.ext E654 hH
        have F664 := P576.ext E654
        have F665 := P577.ext E654
        have F666 := P583.ext E654
        have F667 := F597.ext E654
        have O668 := O595.ext E654
        have K669 := K596.ext E654
        have F670 : Arv Z h654 b654 k654 .char (12 : Int32) [] (.int 0) := Arv.new A654 (by decide)
        refine own_GH.st (T' := T654) 204 [(.ref b654)] st654 ?_
        have F671 : Arv Z h654 b654 k654 .char (12 : Int32) (own_B ([] : List Int32)) (.int 0) := F670
        have hkz : (0 : Int32).toInt = ((([] : List Int32).length : Nat) : Int) := by decide
        refine own_GH.si 206 [] (fun _ kq => XS.astore X654.here hx rfl (hb hby at_204) rfl rfl (l' := #[iv ln, iv xa, iv xb, iv xc, iv xd, iv po, iv 3, iv ya, iv yb, iv yc, iv yd, iv pp, rv b534, rv b560, iv 0, rv b654, .unset, .unset]) rfl kq) ?_
        refine own_GH.sk 207 [(.int 0)] (fun _ kq => XS.iconst X654.here hx rfl (hb hby at_206) kq) ?_
        refine own_GH.si 209 [] (fun _ kq => XS.istore X654.here hx rfl (hb hby at_207) rfl (l' := #[iv ln, iv xa, iv xb, iv xc, iv xd, iv po, iv 3, iv ya, iv yb, iv yc, iv yd, iv pp, rv b534, rv b560, iv 0, rv b654, iv 0, .unset]) rfl kq) ?_
        refine own_GH.sk 211 [(.int 0)] (fun _ kq => XS.iload X654.here hx rfl (hb hby at_209) rfl kq) ?_
        have hc211 : (0 : Int32) = (0 : Int32) := (by decide)
        refine own_GH.sk 227 [] (fun _ kq => XS.ifYes X654.here hx rfl (pc0 := 211) (pc' := 227) rfl (hb hby at_211) rfl ((if0 _ _).trans (teq hc211).1) (by decide) (by decide) kq) ?_
        exact th _ _ _ _ _ (0 : Int32) b654 (0 : Int32) k654 ([] : List Int32) (X654.mono (by decide) (by decide)) e654 hS hkS hZ hown hH hR O668 K669 N573 F664 F665 F666 F667 F671 hkz (Nat.le_trans (Nat.le_refl 0) (by decide)) own_n255 (⟨fun _ => ⟨hcol, rfl⟩, fun z => absurd rfl z⟩) g657 z658 ne656 ne655
set_option maxRecDepth 65536 in
set_option maxHeartbeats 40000000 in
theorem rm_law_n4 (cx : own_Cx_law l Z a0 ws ln xa xb xc xd po csz fm dga cga dgb cgb h0 n0 p e s m below meth c s₁) :
    ∀ (n4_T : State) (n4_h : Heap) (n4_L : List Loc) (n4_vm : Vm) (n4_k : Nat) (ya : Int32) (yb : Int32) (yc : Int32) (yd : Int32) (pp : Int32), (Stand p l e room_1 (s.setVm n4_vm) m #[(.int ln), (.int xa), (.int xb), (.int xc), (.int xd), (.int po)] below meth c n4_T n4_L 0 0) → (n4_T.heap = n4_h) → (s.Since n4_vm n4_k) → (n4_k ≤ n4_h.size) → (Z.Warmed39 (s.setVm n4_vm).vm) → ((s.setVm n4_vm).vm.findClass "com/example/redelivery/redelivery/settings/ListenAddressToStringPinLaw" = some m.cls) → (CHv Z own_EL n4_vm n4_h) → (CHr Z own_EL s.vm h0 n4_vm n4_h) → (Old Z n0 n4_h) → (Keep h0 n4_h []) → (Fr n0 n4_L) → (0 ≤ pp.toInt) → (pp.toInt ≤ 65535) → (¬ ya < (0 : Int32) ∧ ¬ (255 : Int32) < ya) → (¬ yb < (0 : Int32) ∧ ¬ (255 : Int32) < yb) → (¬ yc < (0 : Int32) ∧ ¬ (255 : Int32) < yc) → (¬ yd < (0 : Int32) ∧ ¬ (255 : Int32) < yd) → own_GH Z own_EL p e below s 21 150 (Q_law Z ln xa xb xc xd po csz fm dga cga dgb cgb h0 n0) n4_T (mkF m 39 #[iv ln, iv xa, iv xb, iv xc, iv xd, iv po, iv 4, iv ya, iv yb, iv yc, iv yd, iv pp, .unset, .unset, .unset, .unset, .unset, .unset] []) := by
  obtain ⟨hw, O0, S_CS, hcs, S_IO, hio, S_D1, TB1, S_D2, TB2, Bd, hml, hh⟩ := id cx
  have W_ : ∀ {d : Jvm.Cond} (i : Nat), tables_1[i]? = some d → d.before a0 Z = true := fun i h => hw _ (List.mem_of_getElem? h)
  have hx := Bd.exec
  have hby := Bd.bytes
  have hnm := (name_of_methodNamed Bd.named Bd.method).1
  have ew := own_EW Z a0 hw
  have hws : ∀ d ∈ StrChars.Road.words, d.before a0 Z = true := fun d hd => hw d (own_hws d hd)
  intro n4_T n4_h n4_L n4_vm n4_k ya yb yc yd pp n4_X n4_e hS hkS hZ hown hH hR n4_O n4_K n4_N hp0 hp1 bya byb byc byd
  refine own_GH.sk 41 [(.int 4)] (fun _ kq => XS.iload n4_X.here hx rfl (hb hby at_39) rfl kq) ?_
  refine own_GH.sk 42 [(.int 1), (.int 4)] (fun _ kq => XS.iconst n4_X.here hx rfl (hb hby at_41) kq) ?_
  have hc42 : ¬ ((4 : Int32) = (1 : Int32)) := (by decide)
  refine own_GH.sk 58 [] (fun _ kq => XS.icmpYes n4_X.here hx rfl (pc0 := 42) (pc' := 58) rfl (hb hby at_42) rfl (feq hc42).2 (by decide) (by decide) kq) ?_
  refine own_GH.sk 60 [(.int 4)] (fun _ kq => XS.iload n4_X.here hx rfl (hb hby at_58) rfl kq) ?_
  refine own_GH.sk 61 [(.int 2), (.int 4)] (fun _ kq => XS.iconst n4_X.here hx rfl (hb hby at_60) kq) ?_
  have hc61 : ¬ ((4 : Int32) = (2 : Int32)) := (by decide)
  refine own_GH.sk 82 [] (fun _ kq => XS.icmpYes n4_X.here hx rfl (pc0 := 61) (pc' := 82) rfl (hb hby at_61) rfl (feq hc61).2 (by decide) (by decide) kq) ?_
  refine own_GH.sk 84 [(.int 4)] (fun _ kq => XS.iload n4_X.here hx rfl (hb hby at_82) rfl kq) ?_
  refine own_GH.sk 85 [(.int 3), (.int 4)] (fun _ kq => XS.iconst n4_X.here hx rfl (hb hby at_84) kq) ?_
  have hc85 : ¬ ((4 : Int32) = (3 : Int32)) := (by decide)
  refine own_GH.sk 111 [] (fun _ kq => XS.icmpYes n4_X.here hx rfl (pc0 := 85) (pc' := 111) rfl (hb hby at_85) rfl (feq hc85).2 (by decide) (by decide) kq) ?_
  refine own_GH.sk 112 [(.int 4)] (fun _ kq => XS.iconst n4_X.here hx rfl (hb hby at_111) kq) ?_
  obtain ⟨T672, h672, k672, X672, e672, E672, A672, st672⟩ := newP n4_X hx hZ (W_ 5 rfl) n4_e (g := (mkF m 112 #[iv ln, iv xa, iv xb, iv xc, iv xd, iv po, iv 4, iv ya, iv yb, iv yc, iv yd, iv pp, .unset, .unset, .unset, .unset, .unset, .unset] [(.int 4)])) rfl (hb hby at_112) rfl (by decide) (cap := 4) (by decide) (by decide) (by decide) (by decide)
  obtain ⟨b672, g672⟩ : ∃ z, z = n4_h.size := ⟨_, rfl⟩
  rw [← g672] at A672 st672
  have g673 : n0 ≤ b672 := Nat.le_trans n4_O.le (Nat.le_of_eq g672.symm)
  have z674 : h0.size ≤ b672 := Nat.le_trans n4_K.1 (Nat.le_of_eq g672.symm)
  have sf675 : Safe Z own_EL n4_vm n4_h b672 := Safe.new (Nat.le_of_eq g672.symm)
  have hkS := Nat.le_trans hkS E672.1
  have sf676 := Safe.ext E672 hH sf675
  have hR := hR.trans (CHr.ext E672 hH)
  have hH := CHv.ext E672 hH
  have O677 := n4_O.ext E672
  have K678 := n4_K.ext E672
  have F679 : Arv Z h672 b672 k672 .char (4 : Int32) [(.int 0), (.int 0), (.int 0), (.int 0)] (.int 0) := (Arv.new A672 (by decide)).pad (pad_rep [] (.int 0) 4)
  refine own_GH.st (T' := T672) 114 [(.ref b672)] st672 ?_
  refine own_GH.sk 115 [(.ref b672), (.ref b672)] (fun _ kq => XS.dup X672.here hx rfl (hb hby at_114) rfl rfl kq) ?_
  refine own_GH.sk 116 [(.int 0), (.ref b672), (.ref b672)] (fun _ kq => XS.iconst X672.here hx rfl (hb hby at_115) kq) ?_
  refine own_GH.sk 118 [(.int ya), (.int 0), (.ref b672), (.ref b672)] (fun _ kq => XS.iload X672.here hx rfl (hb hby at_116) rfl kq) ?_
  obtain ⟨cl680, Ar680, q1680, Sz680, Nz680, Hh680, Gg680⟩ := id F679
  obtain ⟨T680, h680, X680, e680, W680, st680⟩ := stC X672 hx hZ e672 Ar680 (j := (0 : Int32)) (inb_of Sz680 ⟨by decide, by decide⟩) (g := (mkF m 118 #[iv ln, iv xa, iv xb, iv xc, iv xd, iv po, iv 4, iv ya, iv yb, iv yc, iv yd, iv pp, .unset, .unset, .unset, .unset, .unset, .unset] [(.int ya), (.int 0), (.ref b672), (.ref b672)])) rfl rfl (hb hby at_118)
  have F681 : Arv Z h680 b672 k672 .char (4 : Int32) [(.int (nar .char ya)), (.int 0), (.int 0), (.int 0)] (.int 0) := Arv.set Ar680 q1680 Sz680 Nz680 Hh680 Gg680 (fits_nar_char _) W680 0 rfl (Nat.le_of_ble_eq_true rfl)
  have N680 := Fr.snoc X680 n4_N g673
  have hkS := Nat.le_trans hkS (Keep.of_wr W680).1
  have sf682 := Safe.wr W680 sf676 hH sf676
  have hR := hR.trans (CHr.wr W680 sf676 hH)
  have hH := CHv.wr W680 sf676 hH
  have O684 := O677.wr W680 g673
  have K685 := K678.wr W680 (Or.inr z674)
  refine own_GH.st (T' := T680) 119 [(.ref b672)] st680 ?_
  refine own_GH.sk 120 [(.ref b672), (.ref b672)] (fun _ kq => XS.dup X680.here hx rfl (hb hby at_119) rfl rfl kq) ?_
  refine own_GH.sk 121 [(.int 1), (.ref b672), (.ref b672)] (fun _ kq => XS.iconst X680.here hx rfl (hb hby at_120) kq) ?_
  refine own_GH.sk 123 [(.int yb), (.int 1), (.ref b672), (.ref b672)] (fun _ kq => XS.iload X680.here hx rfl (hb hby at_121) rfl kq) ?_
  obtain ⟨cl686, Ar686, q1686, Sz686, Nz686, Hh686, Gg686⟩ := id F681
  obtain ⟨T686, h686, X686, e686, W686, st686⟩ := stC X680 hx hZ e680 Ar686 (j := (1 : Int32)) (inb_of Sz686 ⟨by decide, by decide⟩) (g := (mkF m 123 #[iv ln, iv xa, iv xb, iv xc, iv xd, iv po, iv 4, iv ya, iv yb, iv yc, iv yd, iv pp, .unset, .unset, .unset, .unset, .unset, .unset] [(.int yb), (.int 1), (.ref b672), (.ref b672)])) rfl rfl (hb hby at_123)
  have F687 : Arv Z h686 b672 k672 .char (4 : Int32) [(.int (nar .char ya)), (.int (nar .char yb)), (.int 0), (.int 0)] (.int 0) := Arv.set Ar686 q1686 Sz686 Nz686 Hh686 Gg686 (fits_nar_char _) W686 1 rfl (Nat.le_of_ble_eq_true rfl)
  have N686 := Fr.snoc X686 N680 g673
  have hkS := Nat.le_trans hkS (Keep.of_wr W686).1
  have sf688 := Safe.wr W686 sf682 hH sf682
  have hR := hR.trans (CHr.wr W686 sf682 hH)
  have hH := CHv.wr W686 sf682 hH
  have O690 := O684.wr W686 g673
  have K691 := K685.wr W686 (Or.inr z674)
  refine own_GH.st (T' := T686) 124 [(.ref b672)] st686 ?_
  refine own_GH.sk 125 [(.ref b672), (.ref b672)] (fun _ kq => XS.dup X686.here hx rfl (hb hby at_124) rfl rfl kq) ?_
  refine own_GH.sk 126 [(.int 2), (.ref b672), (.ref b672)] (fun _ kq => XS.iconst X686.here hx rfl (hb hby at_125) kq) ?_
  refine own_GH.sk 128 [(.int yc), (.int 2), (.ref b672), (.ref b672)] (fun _ kq => XS.iload X686.here hx rfl (hb hby at_126) rfl kq) ?_
  obtain ⟨cl692, Ar692, q1692, Sz692, Nz692, Hh692, Gg692⟩ := id F687
  obtain ⟨T692, h692, X692, e692, W692, st692⟩ := stC X686 hx hZ e686 Ar692 (j := (2 : Int32)) (inb_of Sz692 ⟨by decide, by decide⟩) (g := (mkF m 128 #[iv ln, iv xa, iv xb, iv xc, iv xd, iv po, iv 4, iv ya, iv yb, iv yc, iv yd, iv pp, .unset, .unset, .unset, .unset, .unset, .unset] [(.int yc), (.int 2), (.ref b672), (.ref b672)])) rfl rfl (hb hby at_128)
  have F693 : Arv Z h692 b672 k672 .char (4 : Int32) [(.int (nar .char ya)), (.int (nar .char yb)), (.int (nar .char yc)), (.int 0)] (.int 0) := Arv.set Ar692 q1692 Sz692 Nz692 Hh692 Gg692 (fits_nar_char _) W692 2 rfl (Nat.le_of_ble_eq_true rfl)
  have N692 := Fr.snoc X692 N686 g673
  have hkS := Nat.le_trans hkS (Keep.of_wr W692).1
  have sf694 := Safe.wr W692 sf688 hH sf688
  have hR := hR.trans (CHr.wr W692 sf688 hH)
  have hH := CHv.wr W692 sf688 hH
  have O696 := O690.wr W692 g673
  have K697 := K691.wr W692 (Or.inr z674)
  refine own_GH.st (T' := T692) 129 [(.ref b672)] st692 ?_
  refine own_GH.sk 130 [(.ref b672), (.ref b672)] (fun _ kq => XS.dup X692.here hx rfl (hb hby at_129) rfl rfl kq) ?_
  refine own_GH.sk 131 [(.int 3), (.ref b672), (.ref b672)] (fun _ kq => XS.iconst X692.here hx rfl (hb hby at_130) kq) ?_
  refine own_GH.sk 133 [(.int yd), (.int 3), (.ref b672), (.ref b672)] (fun _ kq => XS.iload X692.here hx rfl (hb hby at_131) rfl kq) ?_
  obtain ⟨cl698, Ar698, q1698, Sz698, Nz698, Hh698, Gg698⟩ := id F693
  obtain ⟨T698, h698, X698, e698, W698, st698⟩ := stC X692 hx hZ e692 Ar698 (j := (3 : Int32)) (inb_of Sz698 ⟨by decide, by decide⟩) (g := (mkF m 133 #[iv ln, iv xa, iv xb, iv xc, iv xd, iv po, iv 4, iv ya, iv yb, iv yc, iv yd, iv pp, .unset, .unset, .unset, .unset, .unset, .unset] [(.int yd), (.int 3), (.ref b672), (.ref b672)])) rfl rfl (hb hby at_133)
  have F699 : Arv Z h698 b672 k672 .char (4 : Int32) [(.int (nar .char ya)), (.int (nar .char yb)), (.int (nar .char yc)), (.int (nar .char yd))] (.int 0) := Arv.set Ar698 q1698 Sz698 Nz698 Hh698 Gg698 (fits_nar_char _) W698 3 rfl (Nat.le_of_ble_eq_true rfl)
  have N698 := Fr.snoc X698 N692 g673
  have hkS := Nat.le_trans hkS (Keep.of_wr W698).1
  have sf700 := Safe.wr W698 sf694 hH sf694
  have hR := hR.trans (CHr.wr W698 sf694 hH)
  have hH := CHv.wr W698 sf694 hH
  have O702 := O696.wr W698 g673
  have K703 := K697.wr W698 (Or.inr z674)
  refine own_GH.st (T' := T698) 134 [(.ref b672)] st698 ?_
  refine own_GH.si 136 [] (fun _ kq => XS.astore X698.here hx rfl (hb hby at_134) rfl rfl (l' := #[iv ln, iv xa, iv xb, iv xc, iv xd, iv po, iv 4, iv ya, iv yb, iv yc, iv yd, iv pp, rv b672, .unset, .unset, .unset, .unset, .unset]) rfl kq) ?_
  obtain ⟨T704, h704, X704, e704, E704, A704, D704, -, st704⟩ := newO X698 hx hZ hown (W_ 6 rfl) (W_ 7 rfl) (W_ 8 rfl) e698 (g := (mkF m 136 #[iv ln, iv xa, iv xb, iv xc, iv xd, iv po, iv 4, iv ya, iv yb, iv yc, iv yd, iv pp, rv b672, .unset, .unset, .unset, .unset, .unset] [])) rfl (hb hby at_136) (by decide) (by decide)
  obtain ⟨b704, g704⟩ : ∃ z, z = h698.size := ⟨_, rfl⟩
  rw [← g704] at A704 D704 st704
  have ne705 : b672 ≠ b704 := Nat.ne_of_lt (Nat.lt_of_lt_of_le F699.lt (Nat.le_of_eq g704.symm))
  have g706 : n0 ≤ b704 := Nat.le_trans O702.le (Nat.le_of_eq g704.symm)
  have z707 : h0.size ≤ b704 := Nat.le_trans K703.1 (Nat.le_of_eq g704.symm)
  have sf708 : Safe Z own_EL n4_vm h698 b704 := Safe.new (Nat.le_of_eq g704.symm)
  have hkS := Nat.le_trans hkS E704.1
  have sf709 := Safe.ext E704 hH sf700
  have sf710 := Safe.ext E704 hH sf708
  have hR := hR.trans (CHr.ext E704 hH)
  have hH := CHv.ext E704 hH
  have F711 := F699.ext E704
  have O712 := O702.ext E704
  have K713 := K703.ext E704
  have F714 : Fld Z h704 b704 "java/lang/String" "coder" "B" (.int 0) := D704 (Or.inr (W_ 32 rfl)) (ty := .byte) (by decide)
  have F715 : Fld Z h704 b704 "java/lang/String" "value" "[B" .null := D704 (Or.inr (W_ 34 rfl)) (ty := (.array .byte)) (by decide)
  refine own_GH.st (T' := T704) 139 [(.ref b704)] st704 ?_
  refine own_GH.sk 140 [(.ref b704), (.ref b704)] (fun _ kq => XS.dup X704.here hx rfl (hb hby at_139) rfl rfl kq) ?_
  refine own_GH.sk 142 [(.ref b672), (.ref b704), (.ref b704)] (fun _ kq => XS.aload X704.here hx rfl (hb hby at_140) rfl rfl kq) ?_
  have hp716 : ∀ c ∈ ([(nar .char ya), (nar .char yb), (nar .char yc), (nar .char yd)] : List Int32), ¬ c < 0 ∧ ¬ (255 : Int32) < c := by
    intro c hc
    simp only [List.mem_cons, List.not_mem_nil, or_false] at hc
    rcases hc with rfl | rfl | rfl | rfl
    · exact own_narb bya
    · exact own_narb byb
    · exact own_narb byc
    · exact own_narb byd
  obtain ⟨_, _, ⟨T717, L717, k717, n717⟩, -, X717, ⟨Lc717, hQ717, l717, y717, z717⟩, st717⟩ := X704.specialBack hx (y := own_y43) rfl hown (mvT hZ (W_ 9 rfl)) (mvT hZ (W_ 10 rfl)) (mvT hZ (W_ 11 rfl)) (by decide) (StrChars.Road.backV (W := 1) hZ hws (kI := 4) (W_ 7 rfl) (cs := ([(nar .char ya), (nar .char yb), (nar .char yc), (nar .char yd)] : List Int32)) (bs := (([(nar .char ya), (nar .char yb), (nar .char yc), (nar .char yd)] : List Int32).map (fun c => c.toInt8.toInt32))) (n := 4) g706 O712.le A704 F715 F714 F711 (Sta.ext O712.2 S_CS) hcs rfl rfl (by decide) (by decide) hp716 rfl (by decide) (by decide)) (g := (mkF m 142 #[iv ln, iv xa, iv xb, iv xc, iv xd, iv po, iv 4, iv ya, iv yb, iv yc, iv yd, iv pp, rv b672, .unset, .unset, .unset, .unset, .unset] [(.ref b672), (.ref b704), (.ref b704)])) rfl (by rw [hml]; rfl) (Steps.refl _) (a := b704) (argsL := [(.ref b672)]) (rest := [(.ref b704)]) (lenOf pd__28_5bC_29V rfl) rfl (by show 2 * 0 + _ ≤ _; exact Nat.le_of_eq rfl) (hb hby at_142) (fun _ _ => ⟨rfl, e704, (by decide : 2 + 1 ≤ _), (by decide : 8 + 4 ≤ _)⟩)
  dsimp only [Pt.U, Pt.locs, Pt.cells, Pt.slots] at X717 l717 y717 z717 st717 hQ717
  subst l717 y717 z717
  obtain ⟨rfl, P718, P719, P720, P721, b722, kx723, P724, P725, P726, P727, P728⟩ := hQ717
  have N717 := Fr.app N698 P718
  have ne729 : b672 ≠ b722 := Nat.ne_of_lt (Nat.lt_of_lt_of_le F711.lt P725)
  have ne730 : b704 ≠ b722 := Nat.ne_of_lt (Nat.lt_of_lt_of_le A704.lt P725)
  have g731 : n0 ≤ b722 := Nat.le_trans O712.le P725
  have z732 : h0.size ≤ b722 := Nat.le_trans K713.1 P725
  have sf733 : Safe Z own_EL n4_vm h704 b722 := Safe.new P725
  have hkS := Nat.le_trans hkS P719.1
  have sf734 := Safe.keep P719 (sfS sf710 sf0) hH sf709
  have sf735 := Safe.keep P719 (sfS sf710 sf0) hH sf710
  have sf736 := Safe.keep P719 (sfS sf710 sf0) hH sf733
  have hR := hR.trans (CHr.keep P719 (sfS sf710 sf0) hH)
  have hH := CHv.keep P719 (sfS sf710 sf0) hH
  have F737 := F711.keep P719 (ninS ne705 nin0)
  have F738 := A704.keep P719
  have O739 := O712.keep P719 (allS g706 all0)
  have K740 := K713.trans P719 (allS (Or.inr z707) all0)
  refine own_GH.st (T' := T717) 145 [(.ref b704)] (fun _ kq => st717.trans kq) ?_
  obtain ⟨ys, hys⟩ : ∃ z : List Int32, z = [own_by (nar .char ya), own_by (nar .char yb), own_by (nar .char yc), own_by (nar .char yd)] := ⟨_, rfl⟩
  have F741 : Arv Z T717.heap b722 kx723 .byte (4 : Int32) (own_B ys) (.int 0) := by rw [hys]; exact P728
  have hL4 : own_L4 ys (4 : Int32) := Or.inr (Or.inr (Or.inr ((⟨_, _, _, _, hys, rfl⟩))))
  refine own_GH.si 147 [] (fun _ kq => XS.astore X717.here hx rfl (hb hby at_145) rfl rfl (l' := #[iv ln, iv xa, iv xb, iv xc, iv xd, iv po, iv 4, iv ya, iv yb, iv yc, iv yd, iv pp, rv b672, rv b704, .unset, .unset, .unset, .unset]) rfl kq) ?_
  have th : ∀ (th_T : State) (th_h : Heap) (th_L : List Loc) (th_vm : Vm) (th_k : Nat) (co : Int32) (o : Addr) (kk : Int32) (ko : ClassId) (cs : List Int32), (Stand p l e room_1 (s.setVm th_vm) m #[(.int ln), (.int xa), (.int xb), (.int xc), (.int xd), (.int po)] below meth c th_T th_L 4 24) → (th_T.heap = th_h) → (s.Since th_vm th_k) → (th_k ≤ th_h.size) → (Z.Warmed39 (s.setVm th_vm).vm) → ((s.setVm th_vm).vm.findClass "com/example/redelivery/redelivery/settings/ListenAddressToStringPinLaw" = some m.cls) → (CHv Z own_EL th_vm th_h) → (CHr Z own_EL s.vm h0 th_vm th_h) → (Old Z n0 th_h) → (Keep h0 th_h []) → (Fr n0 th_L) → (Exa Z th_h b704 "java/lang/String") → (Fld Z th_h b704 "java/lang/String" "coder" "B" (.int 0)) → (Fld Z th_h b704 "java/lang/String" "value" "[B" (.ref b722)) → (Arv Z th_h b722 kx723 .byte (4 : Int32) (own_B ys) (.int 0)) → (Arv Z th_h o ko .char (12 : Int32) (own_B cs) (.int 0)) → (kk.toInt = (cs.length : Int)) → (cs.length ≤ 1) → (∀ c ∈ cs, ¬ c < (0 : Int32) ∧ ¬ (255 : Int32) < c) → ((co = (0 : Int32) → ¬ (58 : Int32) ∈ ys ∧ cs.map own_by = []) ∧ (¬ co = (0 : Int32) → (58 : Int32) ∈ ys ∧ cs.map own_by = [] ++ [(91 : Int32)])) → (n0 ≤ o) → (h0.size ≤ o) → (b722 ≠ o) → (b704 ≠ o) → own_GH Z own_EL p e below s 21 150 (Q_law Z ln xa xb xc xd po csz fm dga cga dgb cgb h0 n0) th_T (mkF m 227 #[iv ln, iv xa, iv xb, iv xc, iv xd, iv po, iv 4, iv ya, iv yb, iv yc, iv yd, iv pp, rv b672, rv b704, iv co, rv o, iv kk, .unset] []) := by
    intro th_T th_h th_L th_vm th_k co o kk ko cs th_X th_e hS hkS hZ hown hH hR th_O th_K th_N th_F0 th_F1 th_F2 th_F3 th_F4 hk hk1 hcb hq0 go zo uno sno
    refine own_GH.sk 229 [(.ref o)] (fun _ kq => XS.aload th_X.here hx rfl (hb hby at_227) rfl rfl kq) ?_
    refine own_GH.sk 231 [(.int kk), (.ref o)] (fun _ kq => XS.iload th_X.here hx rfl (hb hby at_229) rfl kq) ?_
    refine own_GH.sk 233 [(.int ya), (.int kk), (.ref o)] (fun _ kq => XS.iload th_X.here hx rfl (hb hby at_231) rfl kq) ?_
    have hk743 : (kk + (1 : Int32)).toInt = ((cs ++ [(nar .char ya)]).length : Int) := own_k1 hk (Nat.le_trans hk1 (by decide))
    obtain ⟨cl742, Ar742, -, Sz742, -, -, -⟩ := id th_F4
    obtain ⟨T742, h742, X742, e742, W742, st742⟩ := stC th_X hx hZ th_e Ar742 (j := kk) (inb_of Sz742 (own_in12 hk (Nat.lt_of_le_of_lt hk1 (by decide)))) (g := (mkF m 233 #[iv ln, iv xa, iv xb, iv xc, iv xd, iv po, iv 4, iv ya, iv yb, iv yc, iv yd, iv pp, rv b672, rv b704, iv co, rv o, iv kk, .unset] [(.int ya), (.int kk), (.ref o)])) rfl rfl (hb hby at_233)
    have F744 : Arv Z h742 o ko .char (12 : Int32) (own_B (cs ++ [(nar .char ya)])) (.int 0) := own_pushB th_F4 (fits_nar_char _) W742 hk
    have N742 := Fr.snoc X742 th_N go
    have hkS := Nat.le_trans hkS (Keep.of_wr W742).1
    have hR := hR.trans (CHr.wr W742 (Safe.arv hZ.alike th_F4 (by decide)) hH)
    have hH := CHv.wr W742 (Safe.arv hZ.alike th_F4 (by decide)) hH
    have F745 := th_F0.wr W742
    have F746 := th_F1.other W742 (Or.inl sno)
    have F747 := th_F2.other W742 (Or.inl sno)
    have F748 := th_F3.other W742 uno
    have O750 := th_O.wr W742 go
    have K751 := th_K.wr W742 (Or.inr zo)
    refine own_GH.st (T' := T742) 234 [] st742 ?_
    refine own_GH.sk 236 [(.int kk)] (fun _ kq => XS.iload X742.here hx rfl (hb hby at_234) rfl kq) ?_
    refine own_GH.sk 237 [(.int 1), (.int kk)] (fun _ kq => XS.iconst X742.here hx rfl (hb hby at_236) kq) ?_
    refine own_GH.sk 238 [(.int (kk + (1 : Int32)))] (fun _ kq => XS.iadd X742.here hx rfl (hb hby at_237) rfl kq) ?_
    refine own_GH.si 240 [] (fun _ kq => XS.istore X742.here hx rfl (hb hby at_238) rfl (l' := #[iv ln, iv xa, iv xb, iv xc, iv xd, iv po, iv 4, iv ya, iv yb, iv yc, iv yd, iv pp, rv b672, rv b704, iv co, rv o, .val (.int (kk + (1 : Int32))), .unset]) rfl kq) ?_
    refine own_GH.sk 242 [(.int 4)] (fun _ kq => XS.iload X742.here hx rfl (hb hby at_240) rfl kq) ?_
    refine own_GH.sk 243 [(.int 1), (.int 4)] (fun _ kq => XS.iconst X742.here hx rfl (hb hby at_242) kq) ?_
    have hc243 : (1 : Int32) < (4 : Int32) := (by decide)
    refine own_GH.sk 246 [] (fun _ kq => XS.icmpNo X742.here hx rfl (hb hby at_243) rfl (tlt hc243).2.2.2 kq) ?_
    refine own_GH.sk 248 [(.ref o)] (fun _ kq => XS.aload X742.here hx rfl (hb hby at_246) rfl rfl kq) ?_
    refine own_GH.sk 250 [(.int (kk + (1 : Int32))), (.ref o)] (fun _ kq => XS.iload X742.here hx rfl (hb hby at_248) rfl kq) ?_
    refine own_GH.sk 252 [(.int yb), (.int (kk + (1 : Int32))), (.ref o)] (fun _ kq => XS.iload X742.here hx rfl (hb hby at_250) rfl kq) ?_
    have hk753 : ((kk + (1 : Int32)) + (1 : Int32)).toInt = (((cs ++ [(nar .char ya)]) ++ [(nar .char yb)]).length : Int) := own_k1 hk743 (Nat.le_trans (own_le1 hk1) (by decide))
    obtain ⟨cl752, Ar752, -, Sz752, -, -, -⟩ := id F744
    obtain ⟨T752, h752, X752, e752, W752, st752⟩ := stC X742 hx hZ e742 Ar752 (j := (kk + (1 : Int32))) (inb_of Sz752 (own_in12 hk743 (Nat.lt_of_le_of_lt (own_le1 hk1) (by decide)))) (g := (mkF m 252 #[iv ln, iv xa, iv xb, iv xc, iv xd, iv po, iv 4, iv ya, iv yb, iv yc, iv yd, iv pp, rv b672, rv b704, iv co, rv o, .val (.int (kk + (1 : Int32))), .unset] [(.int yb), (.int (kk + (1 : Int32))), (.ref o)])) rfl rfl (hb hby at_252)
    have F754 : Arv Z h752 o ko .char (12 : Int32) (own_B ((cs ++ [(nar .char ya)]) ++ [(nar .char yb)])) (.int 0) := own_pushB F744 (fits_nar_char _) W752 hk743
    have N752 := Fr.snoc X752 N742 go
    have hkS := Nat.le_trans hkS (Keep.of_wr W752).1
    have hR := hR.trans (CHr.wr W752 (Safe.arv hZ.alike F744 (by decide)) hH)
    have hH := CHv.wr W752 (Safe.arv hZ.alike F744 (by decide)) hH
    have F755 := F745.wr W752
    have F756 := F746.other W752 (Or.inl sno)
    have F757 := F747.other W752 (Or.inl sno)
    have F758 := F748.other W752 uno
    have O760 := O750.wr W752 go
    have K761 := K751.wr W752 (Or.inr zo)
    refine own_GH.st (T' := T752) 253 [] st752 ?_
    refine own_GH.sk 255 [(.int (kk + (1 : Int32)))] (fun _ kq => XS.iload X752.here hx rfl (hb hby at_253) rfl kq) ?_
    refine own_GH.sk 256 [(.int 1), (.int (kk + (1 : Int32)))] (fun _ kq => XS.iconst X752.here hx rfl (hb hby at_255) kq) ?_
    refine own_GH.sk 257 [(.int ((kk + (1 : Int32)) + (1 : Int32)))] (fun _ kq => XS.iadd X752.here hx rfl (hb hby at_256) rfl kq) ?_
    refine own_GH.si 259 [] (fun _ kq => XS.istore X752.here hx rfl (hb hby at_257) rfl (l' := #[iv ln, iv xa, iv xb, iv xc, iv xd, iv po, iv 4, iv ya, iv yb, iv yc, iv yd, iv pp, rv b672, rv b704, iv co, rv o, .val (.int ((kk + (1 : Int32)) + (1 : Int32))), .unset]) rfl kq) ?_
    refine own_GH.sk 261 [(.int 4)] (fun _ kq => XS.iload X752.here hx rfl (hb hby at_259) rfl kq) ?_
    refine own_GH.sk 262 [(.int 2), (.int 4)] (fun _ kq => XS.iconst X752.here hx rfl (hb hby at_261) kq) ?_
    have hc262 : (2 : Int32) < (4 : Int32) := (by decide)
    refine own_GH.sk 265 [] (fun _ kq => XS.icmpNo X752.here hx rfl (hb hby at_262) rfl (tlt hc262).2.2.2 kq) ?_
    refine own_GH.sk 267 [(.ref o)] (fun _ kq => XS.aload X752.here hx rfl (hb hby at_265) rfl rfl kq) ?_
    refine own_GH.sk 269 [(.int ((kk + (1 : Int32)) + (1 : Int32))), (.ref o)] (fun _ kq => XS.iload X752.here hx rfl (hb hby at_267) rfl kq) ?_
    refine own_GH.sk 271 [(.int yc), (.int ((kk + (1 : Int32)) + (1 : Int32))), (.ref o)] (fun _ kq => XS.iload X752.here hx rfl (hb hby at_269) rfl kq) ?_
    have hk763 : (((kk + (1 : Int32)) + (1 : Int32)) + (1 : Int32)).toInt = ((((cs ++ [(nar .char ya)]) ++ [(nar .char yb)]) ++ [(nar .char yc)]).length : Int) := own_k1 hk753 (Nat.le_trans (own_le1 (own_le1 hk1)) (by decide))
    obtain ⟨cl762, Ar762, -, Sz762, -, -, -⟩ := id F754
    obtain ⟨T762, h762, X762, e762, W762, st762⟩ := stC X752 hx hZ e752 Ar762 (j := ((kk + (1 : Int32)) + (1 : Int32))) (inb_of Sz762 (own_in12 hk753 (Nat.lt_of_le_of_lt (own_le1 (own_le1 hk1)) (by decide)))) (g := (mkF m 271 #[iv ln, iv xa, iv xb, iv xc, iv xd, iv po, iv 4, iv ya, iv yb, iv yc, iv yd, iv pp, rv b672, rv b704, iv co, rv o, .val (.int ((kk + (1 : Int32)) + (1 : Int32))), .unset] [(.int yc), (.int ((kk + (1 : Int32)) + (1 : Int32))), (.ref o)])) rfl rfl (hb hby at_271)
    have F764 : Arv Z h762 o ko .char (12 : Int32) (own_B (((cs ++ [(nar .char ya)]) ++ [(nar .char yb)]) ++ [(nar .char yc)])) (.int 0) := own_pushB F754 (fits_nar_char _) W762 hk753
    have N762 := Fr.snoc X762 N752 go
    have hkS := Nat.le_trans hkS (Keep.of_wr W762).1
    have hR := hR.trans (CHr.wr W762 (Safe.arv hZ.alike F754 (by decide)) hH)
    have hH := CHv.wr W762 (Safe.arv hZ.alike F754 (by decide)) hH
    have F765 := F755.wr W762
    have F766 := F756.other W762 (Or.inl sno)
    have F767 := F757.other W762 (Or.inl sno)
    have F768 := F758.other W762 uno
    have O770 := O760.wr W762 go
    have K771 := K761.wr W762 (Or.inr zo)
    refine own_GH.st (T' := T762) 272 [] st762 ?_
    refine own_GH.sk 274 [(.int ((kk + (1 : Int32)) + (1 : Int32)))] (fun _ kq => XS.iload X762.here hx rfl (hb hby at_272) rfl kq) ?_
    refine own_GH.sk 275 [(.int 1), (.int ((kk + (1 : Int32)) + (1 : Int32)))] (fun _ kq => XS.iconst X762.here hx rfl (hb hby at_274) kq) ?_
    refine own_GH.sk 276 [(.int (((kk + (1 : Int32)) + (1 : Int32)) + (1 : Int32)))] (fun _ kq => XS.iadd X762.here hx rfl (hb hby at_275) rfl kq) ?_
    refine own_GH.si 278 [] (fun _ kq => XS.istore X762.here hx rfl (hb hby at_276) rfl (l' := #[iv ln, iv xa, iv xb, iv xc, iv xd, iv po, iv 4, iv ya, iv yb, iv yc, iv yd, iv pp, rv b672, rv b704, iv co, rv o, .val (.int (((kk + (1 : Int32)) + (1 : Int32)) + (1 : Int32))), .unset]) rfl kq) ?_
    refine own_GH.sk 280 [(.int 4)] (fun _ kq => XS.iload X762.here hx rfl (hb hby at_278) rfl kq) ?_
    refine own_GH.sk 281 [(.int 3), (.int 4)] (fun _ kq => XS.iconst X762.here hx rfl (hb hby at_280) kq) ?_
    have hc281 : (3 : Int32) < (4 : Int32) := (by decide)
    refine own_GH.sk 284 [] (fun _ kq => XS.icmpNo X762.here hx rfl (hb hby at_281) rfl (tlt hc281).2.2.2 kq) ?_
    refine own_GH.sk 286 [(.ref o)] (fun _ kq => XS.aload X762.here hx rfl (hb hby at_284) rfl rfl kq) ?_
    refine own_GH.sk 288 [(.int (((kk + (1 : Int32)) + (1 : Int32)) + (1 : Int32))), (.ref o)] (fun _ kq => XS.iload X762.here hx rfl (hb hby at_286) rfl kq) ?_
    refine own_GH.sk 290 [(.int yd), (.int (((kk + (1 : Int32)) + (1 : Int32)) + (1 : Int32))), (.ref o)] (fun _ kq => XS.iload X762.here hx rfl (hb hby at_288) rfl kq) ?_
    have hk773 : ((((kk + (1 : Int32)) + (1 : Int32)) + (1 : Int32)) + (1 : Int32)).toInt = (((((cs ++ [(nar .char ya)]) ++ [(nar .char yb)]) ++ [(nar .char yc)]) ++ [(nar .char yd)]).length : Int) := own_k1 hk763 (Nat.le_trans (own_le1 (own_le1 (own_le1 hk1))) (by decide))
    obtain ⟨cl772, Ar772, -, Sz772, -, -, -⟩ := id F764
    obtain ⟨T772, h772, X772, e772, W772, st772⟩ := stC X762 hx hZ e762 Ar772 (j := (((kk + (1 : Int32)) + (1 : Int32)) + (1 : Int32))) (inb_of Sz772 (own_in12 hk763 (Nat.lt_of_le_of_lt (own_le1 (own_le1 (own_le1 hk1))) (by decide)))) (g := (mkF m 290 #[iv ln, iv xa, iv xb, iv xc, iv xd, iv po, iv 4, iv ya, iv yb, iv yc, iv yd, iv pp, rv b672, rv b704, iv co, rv o, .val (.int (((kk + (1 : Int32)) + (1 : Int32)) + (1 : Int32))), .unset] [(.int yd), (.int (((kk + (1 : Int32)) + (1 : Int32)) + (1 : Int32))), (.ref o)])) rfl rfl (hb hby at_290)
    have F774 : Arv Z h772 o ko .char (12 : Int32) (own_B ((((cs ++ [(nar .char ya)]) ++ [(nar .char yb)]) ++ [(nar .char yc)]) ++ [(nar .char yd)])) (.int 0) := own_pushB F764 (fits_nar_char _) W772 hk763
    have N772 := Fr.snoc X772 N762 go
    have hkS := Nat.le_trans hkS (Keep.of_wr W772).1
    have hR := hR.trans (CHr.wr W772 (Safe.arv hZ.alike F764 (by decide)) hH)
    have hH := CHv.wr W772 (Safe.arv hZ.alike F764 (by decide)) hH
    have F775 := F765.wr W772
    have F776 := F766.other W772 (Or.inl sno)
    have F777 := F767.other W772 (Or.inl sno)
    have F778 := F768.other W772 uno
    have O780 := O770.wr W772 go
    have K781 := K771.wr W772 (Or.inr zo)
    refine own_GH.st (T' := T772) 291 [] st772 ?_
    refine own_GH.sk 293 [(.int (((kk + (1 : Int32)) + (1 : Int32)) + (1 : Int32)))] (fun _ kq => XS.iload X772.here hx rfl (hb hby at_291) rfl kq) ?_
    refine own_GH.sk 294 [(.int 1), (.int (((kk + (1 : Int32)) + (1 : Int32)) + (1 : Int32)))] (fun _ kq => XS.iconst X772.here hx rfl (hb hby at_293) kq) ?_
    refine own_GH.sk 295 [(.int ((((kk + (1 : Int32)) + (1 : Int32)) + (1 : Int32)) + (1 : Int32)))] (fun _ kq => XS.iadd X772.here hx rfl (hb hby at_294) rfl kq) ?_
    refine own_GH.si 297 [] (fun _ kq => XS.istore X772.here hx rfl (hb hby at_295) rfl (l' := #[iv ln, iv xa, iv xb, iv xc, iv xd, iv po, iv 4, iv ya, iv yb, iv yc, iv yd, iv pp, rv b672, rv b704, iv co, rv o, .val (.int ((((kk + (1 : Int32)) + (1 : Int32)) + (1 : Int32)) + (1 : Int32))), .unset]) rfl kq) ?_
    exact rm_law_tb cx _ _ _ _ _ (4 : Int32) ya yb yc yd pp b672 b704 co o ((((kk + (1 : Int32)) + (1 : Int32)) + (1 : Int32)) + (1 : Int32)) b722 kx723 (4 : Int32) ys ko ((((cs ++ [(nar .char ya)]) ++ [(nar .char yb)]) ++ [(nar .char yc)]) ++ [(nar .char yd)]) (X772.mono (by decide) (by decide)) e772 hS hkS hZ hown hH hR O780 K781 N772 F775 F777 F776 F778 F774 hL4 hp0 hp1 hk773 (own_le1 (own_le1 (own_le1 (own_le1 hk1)))) (own_c255 (own_narb byd) (own_c255 (own_narb byc) (own_c255 (own_narb byb) (own_c255 (own_narb bya) hcb)))) (⟨fun z => ⟨(hq0.1 z).1, ((own_f1 (own_f1 (own_f1 (own_f1 (hq0.1 z).2 rfl) rfl) rfl) rfl).trans (by rw [hys]; try simp only [List.append_assoc, List.cons_append, List.nil_append]))⟩, fun z => ⟨(hq0.2 z).1, ((own_f1 (own_f1 (own_f1 (own_f1 (hq0.2 z).2 rfl) rfl) rfl) rfl).trans (by rw [hys]; try simp only [List.append_assoc, List.cons_append, List.nil_append]))⟩⟩) go zo uno sno
  have tc : ∀ (tc_T : State) (tc_h : Heap) (tc_L : List Loc) (tc_vm : Vm) (tc_k : Nat) (dm : Int32), (Stand p l e room_1 (s.setVm tc_vm) m #[(.int ln), (.int xa), (.int xb), (.int xc), (.int xd), (.int po)] below meth c tc_T tc_L 3 12) → (tc_T.heap = tc_h) → (s.Since tc_vm tc_k) → (tc_k ≤ tc_h.size) → (Z.Warmed39 (s.setVm tc_vm).vm) → ((s.setVm tc_vm).vm.findClass "com/example/redelivery/redelivery/settings/ListenAddressToStringPinLaw" = some m.cls) → (CHv Z own_EL tc_vm tc_h) → (CHr Z own_EL s.vm h0 tc_vm tc_h) → (Old Z n0 tc_h) → (Keep h0 tc_h []) → (Fr n0 tc_L) → (Exa Z tc_h b704 "java/lang/String") → (Fld Z tc_h b704 "java/lang/String" "coder" "B" (.int 0)) → (Fld Z tc_h b704 "java/lang/String" "value" "[B" (.ref b722)) → (Arv Z tc_h b722 kx723 .byte (4 : Int32) (own_B ys) (.int 0)) → ((58 : Int32) ∈ ys) → own_GH Z own_EL p e below s 21 150 (Q_law Z ln xa xb xc xd po csz fm dga cga dgb cgb h0 n0) tc_T (mkF m 193 #[iv ln, iv xa, iv xb, iv xc, iv xd, iv po, iv 4, iv ya, iv yb, iv yc, iv yd, iv pp, rv b672, rv b704, .unset, .unset, .unset, .unset] []) := by
    intro tc_T tc_h tc_L tc_vm tc_k dm tc_X tc_e hS hkS hZ hown hH hR tc_O tc_K tc_N tc_F0 tc_F1 tc_F2 tc_F3 hcol
    refine own_GH.sk 194 [(.int 1)] (fun _ kq => XS.iconst tc_X.here hx rfl (hb hby at_193) kq) ?_
    refine own_GH.sk 198 [(.int 1)] (fun _ kq => XS.goto tc_X.here hx rfl (pc0 := 194) (pc' := 198) rfl (hb hby at_194) (by decide) (by decide) kq) ?_
    refine own_GH.si 200 [] (fun _ kq => XS.istore tc_X.here hx rfl (hb hby at_198) rfl (l' := #[iv ln, iv xa, iv xb, iv xc, iv xd, iv po, iv 4, iv ya, iv yb, iv yc, iv yd, iv pp, rv b672, rv b704, iv 1, .unset, .unset, .unset]) rfl kq) ?_
    refine own_GH.sk 202 [(.int 12)] (fun _ kq => XS.bipush tc_X.here hx rfl (hb hby at_200) kq) ?_
    obtain ⟨T782, h782, k782, X782, e782, E782, A782, st782⟩ := newP tc_X hx hZ (W_ 5 rfl) tc_e (g := (mkF m 202 #[iv ln, iv xa, iv xb, iv xc, iv xd, iv po, iv 4, iv ya, iv yb, iv yc, iv yd, iv pp, rv b672, rv b704, iv 1, .unset, .unset, .unset] [(.int 12)])) rfl (hb hby at_202) rfl (by decide) (cap := 12) (by decide) (by decide) (by decide) (by decide)
    obtain ⟨b782, g782⟩ : ∃ z, z = tc_h.size := ⟨_, rfl⟩
    rw [← g782] at A782 st782
    have ne783 : b704 ≠ b782 := Nat.ne_of_lt (Nat.lt_of_lt_of_le tc_F0.lt (Nat.le_of_eq g782.symm))
    have ne784 : b722 ≠ b782 := Nat.ne_of_lt (Nat.lt_of_lt_of_le tc_F3.lt (Nat.le_of_eq g782.symm))
    have g785 : n0 ≤ b782 := Nat.le_trans tc_O.le (Nat.le_of_eq g782.symm)
    have z786 : h0.size ≤ b782 := Nat.le_trans tc_K.1 (Nat.le_of_eq g782.symm)
    have sf787 : Safe Z own_EL tc_vm tc_h b782 := Safe.new (Nat.le_of_eq g782.symm)
    have hkS := Nat.le_trans hkS E782.1
    have sf788 := Safe.ext E782 hH sf787
    have hR := hR.trans (CHr.ext E782 hH)
    have hH := CHv.ext E782 hH
    have F789 := tc_F0.ext E782
    have F790 := tc_F1.ext E782
    have F791 := tc_F2.ext E782
    have F792 := tc_F3.ext E782
    have O793 := tc_O.ext E782
    have K794 := tc_K.ext E782
    have F795 : Arv Z h782 b782 k782 .char (12 : Int32) [] (.int 0) := Arv.new A782 (by decide)
    refine own_GH.st (T' := T782) 204 [(.ref b782)] st782 ?_
    have F796 : Arv Z h782 b782 k782 .char (12 : Int32) (own_B ([] : List Int32)) (.int 0) := F795
    have hkz : (0 : Int32).toInt = ((([] : List Int32).length : Nat) : Int) := by decide
    refine own_GH.si 206 [] (fun _ kq => XS.astore X782.here hx rfl (hb hby at_204) rfl rfl (l' := #[iv ln, iv xa, iv xb, iv xc, iv xd, iv po, iv 4, iv ya, iv yb, iv yc, iv yd, iv pp, rv b672, rv b704, iv 1, rv b782, .unset, .unset]) rfl kq) ?_
    refine own_GH.sk 207 [(.int 0)] (fun _ kq => XS.iconst X782.here hx rfl (hb hby at_206) kq) ?_
    refine own_GH.si 209 [] (fun _ kq => XS.istore X782.here hx rfl (hb hby at_207) rfl (l' := #[iv ln, iv xa, iv xb, iv xc, iv xd, iv po, iv 4, iv ya, iv yb, iv yc, iv yd, iv pp, rv b672, rv b704, iv 1, rv b782, iv 0, .unset]) rfl kq) ?_
    refine own_GH.sk 211 [(.int 1)] (fun _ kq => XS.iload X782.here hx rfl (hb hby at_209) rfl kq) ?_
    have hc211 : ¬ ((1 : Int32) = (0 : Int32)) := (by decide)
    refine own_GH.sk 214 [] (fun _ kq => XS.ifNo X782.here hx rfl (hb hby at_211) rfl ((if0 _ _).trans (feq hc211).1) kq) ?_
    refine own_GH.sk 216 [(.ref b782)] (fun _ kq => XS.aload X782.here hx rfl (hb hby at_214) rfl rfl kq) ?_
    refine own_GH.sk 218 [(.int 0), (.ref b782)] (fun _ kq => XS.iload X782.here hx rfl (hb hby at_216) rfl kq) ?_
    refine own_GH.sk 220 [(.int 91), (.int 0), (.ref b782)] (fun _ kq => XS.bipush X782.here hx rfl (hb hby at_218) kq) ?_
    have hk798 : ((0 : Int32) + (1 : Int32)).toInt = ((([] : List Int32) ++ [(nar .char (91 : Int32))]).length : Int) := own_k1 hkz (Nat.le_trans (Nat.le_refl 0) (by decide))
    obtain ⟨cl797, Ar797, -, Sz797, -, -, -⟩ := id F796
    obtain ⟨T797, h797, X797, e797, W797, st797⟩ := stC X782 hx hZ e782 Ar797 (j := (0 : Int32)) (inb_of Sz797 (own_in12 hkz (Nat.lt_of_le_of_lt (Nat.le_refl 0) (by decide)))) (g := (mkF m 220 #[iv ln, iv xa, iv xb, iv xc, iv xd, iv po, iv 4, iv ya, iv yb, iv yc, iv yd, iv pp, rv b672, rv b704, iv 1, rv b782, iv 0, .unset] [(.int 91), (.int 0), (.ref b782)])) rfl rfl (hb hby at_220)
    have F799 : Arv Z h797 b782 k782 .char (12 : Int32) (own_B (([] : List Int32) ++ [(nar .char (91 : Int32))])) (.int 0) := own_pushB F796 (fits_nar_char _) W797 hkz
    have N797 := Fr.snoc X797 tc_N g785
    have hkS := Nat.le_trans hkS (Keep.of_wr W797).1
    have sf800 := Safe.wr W797 sf788 hH sf788
    have hR := hR.trans (CHr.wr W797 sf788 hH)
    have hH := CHv.wr W797 sf788 hH
    have F801 := F789.wr W797
    have F802 := F790.other W797 (Or.inl ne783)
    have F803 := F791.other W797 (Or.inl ne783)
    have F804 := F792.other W797 ne784
    have O806 := O793.wr W797 g785
    have K807 := K794.wr W797 (Or.inr z786)
    refine own_GH.st (T' := T797) 221 [] st797 ?_
    refine own_GH.sk 223 [(.int 0)] (fun _ kq => XS.iload X797.here hx rfl (hb hby at_221) rfl kq) ?_
    refine own_GH.sk 224 [(.int 1), (.int 0)] (fun _ kq => XS.iconst X797.here hx rfl (hb hby at_223) kq) ?_
    refine own_GH.sk 225 [(.int ((0 : Int32) + (1 : Int32)))] (fun _ kq => XS.iadd X797.here hx rfl (hb hby at_224) rfl kq) ?_
    refine own_GH.si 227 [] (fun _ kq => XS.istore X797.here hx rfl (hb hby at_225) rfl (l' := #[iv ln, iv xa, iv xb, iv xc, iv xd, iv po, iv 4, iv ya, iv yb, iv yc, iv yd, iv pp, rv b672, rv b704, iv 1, rv b782, .val (.int ((0 : Int32) + (1 : Int32))), .unset]) rfl kq) ?_
    exact th _ _ _ _ _ (1 : Int32) b782 ((0 : Int32) + (1 : Int32)) k782 (([] : List Int32) ++ [(nar .char (91 : Int32))]) (X797.mono (by decide) (by decide)) e797 hS hkS hZ hown hH hR O806 K807 N797 F801 F802 F803 F804 F799 hk798 (own_le1 (Nat.le_refl 0)) (own_c255 ⟨by decide, by decide⟩ own_n255) (⟨fun z => absurd z (by decide), fun _ => ⟨hcol, own_f1 rfl own_k91⟩⟩) g785 z786 ne784 ne783
  refine own_GH.sk 149 [(.int ya)] (fun _ kq => XS.iload X717.here hx rfl (hb hby at_147) rfl kq) ?_
  refine own_GH.sk 151 [(.int 58), (.int ya)] (fun _ kq => XS.bipush X717.here hx rfl (hb hby at_149) kq) ?_
  rcases Classical.em (ya = (58 : Int32)) with hc151 | hc151
  · refine own_GH.sk 193 [] (fun _ kq => XS.icmpYes X717.here hx rfl (pc0 := 151) (pc' := 193) rfl (hb hby at_151) rfl (teq hc151).1 (by decide) (by decide) kq) ?_
    exact tc _ _ _ _ _ (0 : Int32) (X717.mono (by decide) (by decide)) rfl hS hkS hZ hown hH hR O739 K740 N717 P720 P721 P727 F741 (by rw [hys, own_m58 bya hc151]; simp)
  · refine own_GH.sk 154 [] (fun _ kq => XS.icmpNo X717.here hx rfl (hb hby at_151) rfl (feq hc151).1 kq) ?_
    refine own_GH.sk 156 [(.int 4)] (fun _ kq => XS.iload X717.here hx rfl (hb hby at_154) rfl kq) ?_
    refine own_GH.sk 157 [(.int 1), (.int 4)] (fun _ kq => XS.iconst X717.here hx rfl (hb hby at_156) kq) ?_
    have hc157 : (1 : Int32) < (4 : Int32) := (by decide)
    refine own_GH.sk 160 [] (fun _ kq => XS.icmpNo X717.here hx rfl (hb hby at_157) rfl (tlt hc157).2.2.2 kq) ?_
    refine own_GH.sk 162 [(.int yb)] (fun _ kq => XS.iload X717.here hx rfl (hb hby at_160) rfl kq) ?_
    refine own_GH.sk 164 [(.int 58), (.int yb)] (fun _ kq => XS.bipush X717.here hx rfl (hb hby at_162) kq) ?_
    rcases Classical.em (yb = (58 : Int32)) with hc164 | hc164
    · refine own_GH.sk 193 [] (fun _ kq => XS.icmpYes X717.here hx rfl (pc0 := 164) (pc' := 193) rfl (hb hby at_164) rfl (teq hc164).1 (by decide) (by decide) kq) ?_
      exact tc _ _ _ _ _ (0 : Int32) (X717.mono (by decide) (by decide)) rfl hS hkS hZ hown hH hR O739 K740 N717 P720 P721 P727 F741 (by rw [hys, own_m58 byb hc164]; simp)
    · refine own_GH.sk 167 [] (fun _ kq => XS.icmpNo X717.here hx rfl (hb hby at_164) rfl (feq hc164).1 kq) ?_
      refine own_GH.sk 169 [(.int 4)] (fun _ kq => XS.iload X717.here hx rfl (hb hby at_167) rfl kq) ?_
      refine own_GH.sk 170 [(.int 2), (.int 4)] (fun _ kq => XS.iconst X717.here hx rfl (hb hby at_169) kq) ?_
      have hc170 : (2 : Int32) < (4 : Int32) := (by decide)
      refine own_GH.sk 173 [] (fun _ kq => XS.icmpNo X717.here hx rfl (hb hby at_170) rfl (tlt hc170).2.2.2 kq) ?_
      refine own_GH.sk 175 [(.int yc)] (fun _ kq => XS.iload X717.here hx rfl (hb hby at_173) rfl kq) ?_
      refine own_GH.sk 177 [(.int 58), (.int yc)] (fun _ kq => XS.bipush X717.here hx rfl (hb hby at_175) kq) ?_
      rcases Classical.em (yc = (58 : Int32)) with hc177 | hc177
      · refine own_GH.sk 193 [] (fun _ kq => XS.icmpYes X717.here hx rfl (pc0 := 177) (pc' := 193) rfl (hb hby at_177) rfl (teq hc177).1 (by decide) (by decide) kq) ?_
        exact tc _ _ _ _ _ (0 : Int32) (X717.mono (by decide) (by decide)) rfl hS hkS hZ hown hH hR O739 K740 N717 P720 P721 P727 F741 (by rw [hys, own_m58 byc hc177]; simp)
      · refine own_GH.sk 180 [] (fun _ kq => XS.icmpNo X717.here hx rfl (hb hby at_177) rfl (feq hc177).1 kq) ?_
        refine own_GH.sk 182 [(.int 4)] (fun _ kq => XS.iload X717.here hx rfl (hb hby at_180) rfl kq) ?_
        refine own_GH.sk 183 [(.int 3), (.int 4)] (fun _ kq => XS.iconst X717.here hx rfl (hb hby at_182) kq) ?_
        have hc183 : (3 : Int32) < (4 : Int32) := (by decide)
        refine own_GH.sk 186 [] (fun _ kq => XS.icmpNo X717.here hx rfl (hb hby at_183) rfl (tlt hc183).2.2.2 kq) ?_
        refine own_GH.sk 188 [(.int yd)] (fun _ kq => XS.iload X717.here hx rfl (hb hby at_186) rfl kq) ?_
        refine own_GH.sk 190 [(.int 58), (.int yd)] (fun _ kq => XS.bipush X717.here hx rfl (hb hby at_188) kq) ?_
        rcases Classical.em (yd = (58 : Int32)) with hc190 | hc190
        · refine own_GH.sk 193 [] (fun _ kq => XS.icmpNo X717.here hx rfl (hb hby at_190) rfl (teq hc190).2 kq) ?_
          exact tc _ _ _ _ _ (0 : Int32) (X717.mono (by decide) (by decide)) rfl hS hkS hZ hown hH hR O739 K740 N717 P720 P721 P727 F741 (by rw [hys, own_m58 byd hc190]; simp)
        · refine own_GH.sk 197 [] (fun _ kq => XS.icmpYes X717.here hx rfl (pc0 := 190) (pc' := 197) rfl (hb hby at_190) rfl (feq hc190).2 (by decide) (by decide) kq) ?_
          have hcol : ¬ (58 : Int32) ∈ ys := by
            rw [hys]
            simp only [List.mem_cons, List.not_mem_nil, or_false, not_or]
            exact ⟨fun q => hc151 ((own_by58 bya).mp q.symm), fun q => hc164 ((own_by58 byb).mp q.symm), fun q => hc177 ((own_by58 byc).mp q.symm), fun q => hc190 ((own_by58 byd).mp q.symm)⟩
          refine own_GH.sk 198 [(.int 0)] (fun _ kq => XS.iconst X717.here hx rfl (hb hby at_197) kq) ?_
          refine own_GH.si 200 [] (fun _ kq => XS.istore X717.here hx rfl (hb hby at_198) rfl (l' := #[iv ln, iv xa, iv xb, iv xc, iv xd, iv po, iv 4, iv ya, iv yb, iv yc, iv yd, iv pp, rv b672, rv b704, iv 0, .unset, .unset, .unset]) rfl kq) ?_
          refine own_GH.sk 202 [(.int 12)] (fun _ kq => XS.bipush X717.here hx rfl (hb hby at_200) kq) ?_
          obtain ⟨T808, h808, k808, X808, e808, E808, A808, st808⟩ := newP X717 hx hZ (W_ 5 rfl) rfl (g := (mkF m 202 #[iv ln, iv xa, iv xb, iv xc, iv xd, iv po, iv 4, iv ya, iv yb, iv yc, iv yd, iv pp, rv b672, rv b704, iv 0, .unset, .unset, .unset] [(.int 12)])) rfl (hb hby at_202) rfl (by decide) (cap := 12) (by decide) (by decide) (by decide) (by decide)
          obtain ⟨b808, g808⟩ : ∃ z, z = T717.heap.size := ⟨_, rfl⟩
          rw [← g808] at A808 st808
          have ne809 : b704 ≠ b808 := Nat.ne_of_lt (Nat.lt_of_lt_of_le P720.lt (Nat.le_of_eq g808.symm))
          have ne810 : b722 ≠ b808 := Nat.ne_of_lt (Nat.lt_of_lt_of_le F741.lt (Nat.le_of_eq g808.symm))
          have g811 : n0 ≤ b808 := Nat.le_trans O739.le (Nat.le_of_eq g808.symm)
          have z812 : h0.size ≤ b808 := Nat.le_trans K740.1 (Nat.le_of_eq g808.symm)
          have sf813 : Safe Z own_EL n4_vm T717.heap b808 := Safe.new (Nat.le_of_eq g808.symm)
          have hkS := Nat.le_trans hkS E808.1
          have sf814 := Safe.ext E808 hH sf734
          have sf815 := Safe.ext E808 hH sf735
          have sf816 := Safe.ext E808 hH sf736
          have sf817 := Safe.ext E808 hH sf813
          have hR := hR.trans (CHr.ext E808 hH)
          have hH := CHv.ext E808 hH
          have F818 := P720.ext E808
          have F819 := P721.ext E808
          have F820 := P727.ext E808
          have F821 := F741.ext E808
          have O822 := O739.ext E808
          have K823 := K740.ext E808
          have F824 : Arv Z h808 b808 k808 .char (12 : Int32) [] (.int 0) := Arv.new A808 (by decide)
          refine own_GH.st (T' := T808) 204 [(.ref b808)] st808 ?_
          have F825 : Arv Z h808 b808 k808 .char (12 : Int32) (own_B ([] : List Int32)) (.int 0) := F824
          have hkz : (0 : Int32).toInt = ((([] : List Int32).length : Nat) : Int) := by decide
          refine own_GH.si 206 [] (fun _ kq => XS.astore X808.here hx rfl (hb hby at_204) rfl rfl (l' := #[iv ln, iv xa, iv xb, iv xc, iv xd, iv po, iv 4, iv ya, iv yb, iv yc, iv yd, iv pp, rv b672, rv b704, iv 0, rv b808, .unset, .unset]) rfl kq) ?_
          refine own_GH.sk 207 [(.int 0)] (fun _ kq => XS.iconst X808.here hx rfl (hb hby at_206) kq) ?_
          refine own_GH.si 209 [] (fun _ kq => XS.istore X808.here hx rfl (hb hby at_207) rfl (l' := #[iv ln, iv xa, iv xb, iv xc, iv xd, iv po, iv 4, iv ya, iv yb, iv yc, iv yd, iv pp, rv b672, rv b704, iv 0, rv b808, iv 0, .unset]) rfl kq) ?_
          refine own_GH.sk 211 [(.int 0)] (fun _ kq => XS.iload X808.here hx rfl (hb hby at_209) rfl kq) ?_
          have hc211 : (0 : Int32) = (0 : Int32) := (by decide)
          refine own_GH.sk 227 [] (fun _ kq => XS.ifYes X808.here hx rfl (pc0 := 211) (pc' := 227) rfl (hb hby at_211) rfl ((if0 _ _).trans (teq hc211).1) (by decide) (by decide) kq) ?_
          exact th _ _ _ _ _ (0 : Int32) b808 (0 : Int32) k808 ([] : List Int32) (X808.mono (by decide) (by decide)) e808 hS hkS hZ hown hH hR O822 K823 N717 F818 F819 F820 F821 F825 hkz (Nat.le_trans (Nat.le_refl 0) (by decide)) own_n255 (⟨fun _ => ⟨hcol, rfl⟩, fun z => absurd rfl z⟩) g811 z812 ne810 ne809
end Tops
set_option maxRecDepth 65536 in
set_option maxHeartbeats 40000000 in
theorem rm_law (l : Launch) (Z : State) (a0 : Array Value) (hw : ∀ d ∈ tables_1, d.before a0 Z = true) (ws : List Jvm.Cond) (ln : Int32) (xa : Int32) (xb : Int32) (xc : Int32) (xd : Int32) (po : Int32) (csz : Int32) (fm : Value) (dga : Addr) (cga : Cell) (dgb : Addr) (cgb : Cell) (h0 : Heap) (n0 : Nat) (O0 : Old Z n0 h0) (S_CS : Sta Z Z.heap "java/lang/String" "COMPACT_STRINGS" "Z" (.int csz)) (hcs : ¬ csz = (0 : Int32)) (S_IO : Sta Z Z.heap "jdk/internal/util/Preconditions" "SIOOBE_FORMATTER" "Ljava/util/function/BiFunction;" fm) (hio : fm.isRef = true) (S_D1 : Sta Z Z.heap "java/lang/Integer" "DigitOnes" "[B" (.ref dga)) (TB1 : own_Tb Z dga cga (fun j => (48 : Int32) + (j % (10 : Int32)))) (S_D2 : Sta Z Z.heap "java/lang/Integer" "DigitTens" "[B" (.ref dgb)) (TB2 : own_Tb Z dgb cgb (fun j => (48 : Int32) + (j / (10 : Int32)))) :
    MetFree l x (head1 (Jvm.Cond.code x code maxLocals ret :: ws) room_1) (fun aq_ Uq_ => aq_ = #[(.int ln), (.int xa), (.int xb), (.int xc), (.int xd), (.int po)] ∧ Z.Warmed39 Uq_.vm ∧ Uq_.heap = h0 ∧ CHv Z own_EL Uq_.vm h0) (fun _ _ _ _ _ => True) (fun _ Uq_ oq_ Ur_ => ∃ vq_ Lq_, oq_ = .returned vq_ ∧ Q_law Z ln xa xb xc xd po csz fm dga cga dgb cgb h0 n0 vq_ Ur_.heap Lq_ ∧ CHr Z own_EL Uq_.vm Uq_.heap Ur_.vm Ur_.heap ∧ ReturnedEndW Uq_ oq_ Ur_ Lq_ 21 150) := by
  refine MetFree.of_bodySF (plainFor_of_name pn_com_2fexample_2fredelivery_2fredelivery_2fsettings_2fListenAddressToStringPinLaw) hisR ?_
  intro p e s m args below meth c s₁ Bd hml0 hP hK
  obtain ⟨rfl, hZ, hh, hH⟩ := hP
  have W_ : ∀ {d : Jvm.Cond} (i : Nat), tables_1[i]? = some d → d.before a0 Z = true := fun i h => hw _ (List.mem_of_getElem? h)
  have hx := Bd.exec
  have hby := Bd.bytes
  have hml : c.maxLocals = 18 := hml0
  have hown : s.vm.findClass "com/example/redelivery/redelivery/settings/ListenAddressToStringPinLaw" = some m.cls := findClass_of_methodNamed Bd.named
  have hnm := (name_of_methodNamed Bd.named Bd.method).1
  have X0 : Stand p l e room_1 (s.setVm s.vm) m #[(.int ln), (.int xa), (.int xb), (.int xc), (.int xd), (.int po)] below meth c s₁ [] 0 0 := Stand.of_body Bd
  have e0 : s₁.heap = h0 := by rw [← hh, Bd.state]; rfl
  have N0 := Fr.nil n0
  have K0 := Keep.refl h0 []
  have hS : s.Since s.vm s.heap.size := (State.WarmedH.refl s).since _
  have hkS : s.heap.size ≤ h0.size := by rw [hh]; exact Nat.le_refl _
  have hZ : Z.Warmed39 (s.setVm s.vm).vm := hZ
  have hown : (s.setVm s.vm).vm.findClass "com/example/redelivery/redelivery/settings/ListenAddressToStringPinLaw" = some m.cls := hown
  have ew := own_EW Z a0 hw
  have hR := CHr.refl hH
  refine own_GH.start (Q := Q_law Z ln xa xb xc xd po csz fm dga cga dgb cgb h0 n0) (ef_law m ln xa xb xc xd po) ?_
  have cx : own_Cx_law l Z a0 ws ln xa xb xc xd po csz fm dga cga dgb cgb h0 n0 p e s m below meth c s₁ := ⟨hw, O0, S_CS, hcs, S_IO, hio, S_D1, TB1, S_D2, TB2, Bd, hml, hh⟩
  have hws : ∀ d ∈ StrChars.Road.words, d.before a0 Z = true := fun d hd => hw d (own_hws d hd)
  refine own_GH.sk 1 [(.int ln)] (fun _ kq => XS.iloadN X0.here hx rfl (hb hby at_0) rfl kq) ?_
  refine own_GH.sk 2 [(.int 3), (.int ln)] (fun _ kq => XS.iconst X0.here hx rfl (hb hby at_1) kq) ?_
  refine own_GH.sk 3 [(.int (ln &&& (3 : Int32)))] (fun _ kq => XS.iand X0.here hx rfl (hb hby at_2) rfl kq) ?_
  refine own_GH.sk 4 [(.int 1), (.int (ln &&& (3 : Int32)))] (fun _ kq => XS.iconst X0.here hx rfl (hb hby at_3) kq) ?_
  refine own_GH.sk 5 [(.int ((ln &&& (3 : Int32)) + (1 : Int32)))] (fun _ kq => XS.iadd X0.here hx rfl (hb hby at_4) rfl kq) ?_
  refine own_GH.si 7 [] (fun _ kq => XS.istore X0.here hx rfl (hb hby at_5) rfl (l' := #[iv ln, iv xa, iv xb, iv xc, iv xd, iv po, .val (.int ((ln &&& (3 : Int32)) + (1 : Int32))), .unset, .unset, .unset, .unset, .unset, .unset, .unset, .unset, .unset, .unset, .unset]) rfl kq) ?_
  refine own_GH.sk 8 [(.int xa)] (fun _ kq => XS.iloadN X0.here hx rfl (hb hby at_7) rfl kq) ?_
  obtain ⟨_, _, ⟨T290, L290, k290, n290⟩, -, X290, ⟨Lc290, hQ290, l290, y290, z290⟩, st290⟩ := Jvm.LawKit.callS X0 hx (y := own_y41) hown (mvT hZ (W_ 0 rfl)) (mvT hZ (W_ 1 rfl)) (mvT hZ (W_ 2 rfl)) (mvT hZ (W_ 3 rfl)) (by decide) (backOf (W := 0) (rm_ch l Z a0 hw [] xa h0 n0 O0 ) hZ (W_ 3 rfl) (W_ 2 rfl) (by decide) (by decide)) (g := (mkF m 8 #[iv ln, iv xa, iv xb, iv xc, iv xd, iv po, .val (.int ((ln &&& (3 : Int32)) + (1 : Int32))), .unset, .unset, .unset, .unset, .unset, .unset, .unset, .unset, .unset, .unset, .unset] [(.int xa)])) rfl (by rw [hml]; rfl) (argsL := [(.int xa)]) (rest := []) (lenOf pd__28I_29C rfl) rfl (by show 2 * 0 + _ ≤ _; exact Nat.le_of_eq rfl) (hb hby at_8) (fun _ _ => ⟨rfl, e0, (by decide : 0 + 0 ≤ _), (by decide : 0 + 0 ≤ _)⟩)
  dsimp only [Pt.U, Pt.locs, Pt.cells, Pt.slots] at X290 l290 y290 z290 st290 hQ290
  subst l290 y290 z290
  obtain ⟨i291, rfl, Nq290, P292, P293⟩ := hQ290
  have N290 := Fr.app N0 Nq290
  refine own_GH.st (T' := T290) 11 [(.int i291)] (fun _ kq => st290 _ kq) ?_
  refine own_GH.si 13 [] (fun _ kq => XS.istore X290.here hx rfl (hb hby at_11) rfl (l' := #[iv ln, iv xa, iv xb, iv xc, iv xd, iv po, .val (.int ((ln &&& (3 : Int32)) + (1 : Int32))), iv i291, .unset, .unset, .unset, .unset, .unset, .unset, .unset, .unset, .unset, .unset]) rfl kq) ?_
  refine own_GH.sk 14 [(.int xb)] (fun _ kq => XS.iloadN X290.here hx rfl (hb hby at_13) rfl kq) ?_
  obtain ⟨_, _, ⟨T294, L294, k294, n294⟩, -, X294, ⟨Lc294, hQ294, l294, y294, z294⟩, st294⟩ := Jvm.LawKit.callS X290 hx (y := own_y41) hown (mvT hZ (W_ 0 rfl)) (mvT hZ (W_ 1 rfl)) (mvT hZ (W_ 2 rfl)) (mvT hZ (W_ 3 rfl)) (by decide) (backOf (W := 0) (rm_ch l Z a0 hw [] xb h0 n0 O0 ) hZ (W_ 3 rfl) (W_ 2 rfl) (by decide) (by decide)) (g := (mkF m 14 #[iv ln, iv xa, iv xb, iv xc, iv xd, iv po, .val (.int ((ln &&& (3 : Int32)) + (1 : Int32))), iv i291, .unset, .unset, .unset, .unset, .unset, .unset, .unset, .unset, .unset, .unset] [(.int xb)])) rfl (by rw [hml]; rfl) (argsL := [(.int xb)]) (rest := []) (lenOf pd__28I_29C rfl) rfl (by show 2 * 0 + _ ≤ _; exact Nat.le_of_eq rfl) (hb hby at_14) (fun _ _ => ⟨rfl, P292, (by decide : 0 + 0 ≤ _), (by decide : 0 + 0 ≤ _)⟩)
  dsimp only [Pt.U, Pt.locs, Pt.cells, Pt.slots] at X294 l294 y294 z294 st294 hQ294
  subst l294 y294 z294
  obtain ⟨i295, rfl, Nq294, P296, P297⟩ := hQ294
  have N294 := Fr.app N290 Nq294
  refine own_GH.st (T' := T294) 17 [(.int i295)] (fun _ kq => st294 _ kq) ?_
  refine own_GH.si 19 [] (fun _ kq => XS.istore X294.here hx rfl (hb hby at_17) rfl (l' := #[iv ln, iv xa, iv xb, iv xc, iv xd, iv po, .val (.int ((ln &&& (3 : Int32)) + (1 : Int32))), iv i291, iv i295, .unset, .unset, .unset, .unset, .unset, .unset, .unset, .unset, .unset]) rfl kq) ?_
  refine own_GH.sk 20 [(.int xc)] (fun _ kq => XS.iloadN X294.here hx rfl (hb hby at_19) rfl kq) ?_
  obtain ⟨_, _, ⟨T298, L298, k298, n298⟩, -, X298, ⟨Lc298, hQ298, l298, y298, z298⟩, st298⟩ := Jvm.LawKit.callS X294 hx (y := own_y41) hown (mvT hZ (W_ 0 rfl)) (mvT hZ (W_ 1 rfl)) (mvT hZ (W_ 2 rfl)) (mvT hZ (W_ 3 rfl)) (by decide) (backOf (W := 0) (rm_ch l Z a0 hw [] xc h0 n0 O0 ) hZ (W_ 3 rfl) (W_ 2 rfl) (by decide) (by decide)) (g := (mkF m 20 #[iv ln, iv xa, iv xb, iv xc, iv xd, iv po, .val (.int ((ln &&& (3 : Int32)) + (1 : Int32))), iv i291, iv i295, .unset, .unset, .unset, .unset, .unset, .unset, .unset, .unset, .unset] [(.int xc)])) rfl (by rw [hml]; rfl) (argsL := [(.int xc)]) (rest := []) (lenOf pd__28I_29C rfl) rfl (by show 2 * 0 + _ ≤ _; exact Nat.le_of_eq rfl) (hb hby at_20) (fun _ _ => ⟨rfl, P296, (by decide : 0 + 0 ≤ _), (by decide : 0 + 0 ≤ _)⟩)
  dsimp only [Pt.U, Pt.locs, Pt.cells, Pt.slots] at X298 l298 y298 z298 st298 hQ298
  subst l298 y298 z298
  obtain ⟨i299, rfl, Nq298, P300, P301⟩ := hQ298
  have N298 := Fr.app N294 Nq298
  refine own_GH.st (T' := T298) 23 [(.int i299)] (fun _ kq => st298 _ kq) ?_
  refine own_GH.si 25 [] (fun _ kq => XS.istore X298.here hx rfl (hb hby at_23) rfl (l' := #[iv ln, iv xa, iv xb, iv xc, iv xd, iv po, .val (.int ((ln &&& (3 : Int32)) + (1 : Int32))), iv i291, iv i295, iv i299, .unset, .unset, .unset, .unset, .unset, .unset, .unset, .unset]) rfl kq) ?_
  refine own_GH.sk 27 [(.int xd)] (fun _ kq => XS.iload X298.here hx rfl (hb hby at_25) rfl kq) ?_
  obtain ⟨_, _, ⟨T302, L302, k302, n302⟩, -, X302, ⟨Lc302, hQ302, l302, y302, z302⟩, st302⟩ := Jvm.LawKit.callS X298 hx (y := own_y41) hown (mvT hZ (W_ 0 rfl)) (mvT hZ (W_ 1 rfl)) (mvT hZ (W_ 2 rfl)) (mvT hZ (W_ 3 rfl)) (by decide) (backOf (W := 0) (rm_ch l Z a0 hw [] xd h0 n0 O0 ) hZ (W_ 3 rfl) (W_ 2 rfl) (by decide) (by decide)) (g := (mkF m 27 #[iv ln, iv xa, iv xb, iv xc, iv xd, iv po, .val (.int ((ln &&& (3 : Int32)) + (1 : Int32))), iv i291, iv i295, iv i299, .unset, .unset, .unset, .unset, .unset, .unset, .unset, .unset] [(.int xd)])) rfl (by rw [hml]; rfl) (argsL := [(.int xd)]) (rest := []) (lenOf pd__28I_29C rfl) rfl (by show 2 * 0 + _ ≤ _; exact Nat.le_of_eq rfl) (hb hby at_27) (fun _ _ => ⟨rfl, P300, (by decide : 0 + 0 ≤ _), (by decide : 0 + 0 ≤ _)⟩)
  dsimp only [Pt.U, Pt.locs, Pt.cells, Pt.slots] at X302 l302 y302 z302 st302 hQ302
  subst l302 y302 z302
  obtain ⟨i303, rfl, Nq302, P304, P305⟩ := hQ302
  have N302 := Fr.app N298 Nq302
  refine own_GH.st (T' := T302) 30 [(.int i303)] (fun _ kq => st302 _ kq) ?_
  refine own_GH.si 32 [] (fun _ kq => XS.istore X302.here hx rfl (hb hby at_30) rfl (l' := #[iv ln, iv xa, iv xb, iv xc, iv xd, iv po, .val (.int ((ln &&& (3 : Int32)) + (1 : Int32))), iv i291, iv i295, iv i299, iv i303, .unset, .unset, .unset, .unset, .unset, .unset, .unset]) rfl kq) ?_
  refine own_GH.sk 34 [(.int po)] (fun _ kq => XS.iload X302.here hx rfl (hb hby at_32) rfl kq) ?_
  refine own_GH.sk 36 [(.int 65535), (.int po)] (fun _ kq => X302.ldcInt hx hown (mvT hZ (W_ 4 rfl)) (g := (mkF m 34 #[iv ln, iv xa, iv xb, iv xc, iv xd, iv po, .val (.int ((ln &&& (3 : Int32)) + (1 : Int32))), iv i291, iv i295, iv i299, iv i303, .unset, .unset, .unset, .unset, .unset, .unset, .unset] [(.int po)])) rfl (hb hby at_34) _ kq) ?_
  refine own_GH.sk 37 [(.int (po &&& (65535 : Int32)))] (fun _ kq => XS.iand X302.here hx rfl (hb hby at_36) rfl kq) ?_
  refine own_GH.si 39 [] (fun _ kq => XS.istore X302.here hx rfl (hb hby at_37) rfl (l' := #[iv ln, iv xa, iv xb, iv xc, iv xd, iv po, .val (.int ((ln &&& (3 : Int32)) + (1 : Int32))), iv i291, iv i295, iv i299, iv i303, .val (.int (po &&& (65535 : Int32))), .unset, .unset, .unset, .unset, .unset, .unset]) rfl kq) ?_
  obtain ⟨nv, hnv⟩ : ∃ z, z = ((ln &&& (3 : Int32)) + (1 : Int32)) := ⟨_, rfl⟩
  refine own_GH.cast (g' := (mkF m 39 #[iv ln, iv xa, iv xb, iv xc, iv xd, iv po, iv nv, iv i291, iv i295, iv i299, iv i303, .val (.int (po &&& (65535 : Int32))), .unset, .unset, .unset, .unset, .unset, .unset] [])) (by rw [hnv]) ?_
  obtain ⟨pp, hpp⟩ : ∃ z, z = (po &&& (65535 : Int32)) := ⟨_, rfl⟩
  refine own_GH.cast (g' := (mkF m 39 #[iv ln, iv xa, iv xb, iv xc, iv xd, iv po, iv nv, iv i291, iv i295, iv i299, iv i303, iv pp, .unset, .unset, .unset, .unset, .unset, .unset] [])) (by rw [hpp]) ?_
  obtain ⟨hp0, hp1⟩ := own_port po
  rw [← hpp] at hp0 hp1
  have hn4 := own_four1 ln
  rw [← hnv] at hn4
  rcases hn4 with rfl | rfl | rfl | rfl
  · exact rm_law_n1 cx _ _ _ _ _ i291 i295 i299 i303 pp (X302.mono (by decide) (by decide)) P304 hS hkS hZ hown hH hR O0 K0 N302 hp0 hp1 P293 P297 P301 P305
  · exact rm_law_n2 cx _ _ _ _ _ i291 i295 i299 i303 pp (X302.mono (by decide) (by decide)) P304 hS hkS hZ hown hH hR O0 K0 N302 hp0 hp1 P293 P297 P301 P305
  · exact rm_law_n3 cx _ _ _ _ _ i291 i295 i299 i303 pp (X302.mono (by decide) (by decide)) P304 hS hkS hZ hown hH hR O0 K0 N302 hp0 hp1 P293 P297 P301 P305
  · exact rm_law_n4 cx _ _ _ _ _ i291 i295 i299 i303 pp (X302.mono (by decide) (by decide)) P304 hS hkS hZ hown hH hR O0 K0 N302 hp0 hp1 P293 P297 P301 P305
set_option maxRecDepth 65536 in
set_option maxHeartbeats 40000000 in
theorem comes_1 {Post : Tables → Env → Array Value → State → Outcome → State → Prop} (hpost : ∀ tb e args s v u, (limb_1_1.after args s (.returned v) u = true ∧ limb_1_2.after args s (.returned v) u = true ∧ True) → ReturnedEndW s (.returned v) u (Jvm.fieldLocs frame_1_writes args s ++ Jvm.arrayLocs frame_1_arrays args s ++ Jvm.staticLocs frame_1_statics s) 40 4352 → Post tb e args s (.returned v) u) :
    ArmFor flags0 classFile x code maxLocals ret World_1 tables_1 room_1 Calls_1 rest_1 Pre_1 Post := by
  intro l hfl _ _ p e ha hc hk s m args below hf hA hF happ hP
  obtain ⟨hcalls, hrest, hpre⟩ := hP
  obtain ⟨-, -, -, hnamed, -, -, -, hat⟩ := (Spec.applies_iff hf).mp happ
  obtain ⟨hg, hn⟩ := and_e (Cond.before_iff.mp (show (Jvm.Cond.and given_1 narrow_1).before args s = true from hpre))
  obtain ⟨gz1, gz2⟩ := and_e hg
  obtain ⟨gz3, gz4⟩ := and_e gz2
  obtain ⟨gz5, gz6⟩ := and_e gz4
  obtain ⟨gz7, gz8⟩ := and_e gz6
  obtain ⟨gz9, gz10⟩ := and_e gz8
  obtain ⟨gz11, gz12⟩ := and_e gz10
  obtain ⟨u0, u1, u2, u3, u4, u5, rfl⟩ : ∃ u0 u1 u2 u3 u4 u5 : Value, args = #[u0, u1, u2, u3, u4, u5] := by
    have hs : args.size = 6 := by simpa [Cond.value, given_1] using gz1
    obtain ⟨L⟩ := args
    match L, hs with
    | [u0, u1, u2, u3, u4, u5], _ => exact ⟨u0, u1, u2, u3, u4, u5, rfl⟩
  have hw := fun d (hd : d ∈ tables_1) => atoms_spec (ws := Jvm.Cond.code x code maxLocals ret :: tables_1) hat d (List.mem_cons_of_mem _ hd)
  have W_ : ∀ {d : Jvm.Cond} (i : Nat), tables_1[i]? = some d → d.before _ s = true := fun i h => hw _ (List.mem_of_getElem? h)
  have hfit : Fit s := fun {y c} hc i hi => by
    obtain ⟨ha, rfl⟩ := Array.getElem?_eq_some_iff.mp hc
    have q := List.all_eq_true.mp ((Array.all_eq_true_iff_forall_mem.mp hF) _ (Array.getElem_mem ha)) i (List.mem_range.mpr hi)
    simpa [Array.getElem?_eq_getElem hi] using q
  obtain ⟨hsets, hown0⟩ := atoms_of _ (rest_1_c_eq ▸ (show rest_1_c.before _ s = true from hrest))
  have hr0 := Cond.before_iff.mp hown0
  obtain ⟨i0, ei0⟩ := is_v gz3
  obtain rfl : u0 = (.int i0) := Option.some.inj ei0
  obtain ⟨i1, ei1⟩ := is_v gz5
  obtain rfl : u1 = (.int i1) := Option.some.inj ei1
  obtain ⟨i2, ei2⟩ := is_v gz7
  obtain rfl : u2 = (.int i2) := Option.some.inj ei2
  obtain ⟨i3, ei3⟩ := is_v gz9
  obtain rfl : u3 = (.int i3) := Option.some.inj ei3
  obtain ⟨i4, ei4⟩ := is_v gz11
  obtain rfl : u4 = (.int i4) := Option.some.inj ei4
  obtain ⟨i5, ei5⟩ := is_v gz12
  obtain rfl : u5 = (.int i5) := Option.some.inj ei5
  obtain ⟨csz, ev_csz⟩ := is_v (Cond.before_iff.mp (hsets _ (List.mem_of_getElem? (i := 1) rfl)))
  have S_CS : Sta s s.heap "java/lang/String" "COMPACT_STRINGS" "Z" (.int csz) := Sta.start ev_csz (Or.inl (hsets _ (List.mem_of_getElem? (i := 0) rfl)))
  have hcs : ¬ csz = (0 : Int32) := gotF (Cond.eq_ints ev_csz (Term.int_eval (0))) (not_v (Cond.before_iff.mp (hsets _ (List.mem_of_getElem? (i := 2) rfl))))
  obtain ⟨fm, ev_fm, hio⟩ := isR_v (Cond.before_iff.mp (hsets _ (List.mem_of_getElem? (i := 8) rfl)))
  have S_IO : Sta s s.heap "jdk/internal/util/Preconditions" "SIOOBE_FORMATTER" "Ljava/util/function/BiFunction;" fm := Sta.start ev_fm (Or.inl (hsets _ (List.mem_of_getElem? (i := 7) rfl)))
  have hx1_ := Cond.before_iff.mp (hsets _ (List.mem_of_getElem? (i := 12) rfl))
  obtain ⟨dga, ev1⟩ := exa_v hx1_
  have S_D1 : Sta s s.heap "java/lang/Integer" "DigitOnes" "[B" (.ref dga) := Sta.start ev1 (Or.inl (hsets _ (List.mem_of_getElem? (i := 11) rfl)))
  have hl1_ := eqv_i (Term.int_eval (100 : Int32)) (Cond.before_iff.mp (hsets _ (List.mem_of_getElem? (i := 13) rfl)))
  obtain ⟨cga, A1, q1, z1⟩ := own_arrB ev1 hx1_ (W_ 24 rfl) hl1_
  have TB1 : own_Tb s dga cga (fun j => (48 : Int32) + (j % (10 : Int32))) := own_Tb.start (fun idx => ev1) A1 q1 z1 (Cond.before_iff.mp (hsets _ (List.mem_of_getElem? (i := 14) rfl))) (fun X j hj hv => eqv_i (own_addk (own_remk (own_idx hj))) hv)
  have hx2_ := Cond.before_iff.mp (hsets _ (List.mem_of_getElem? (i := 17) rfl))
  obtain ⟨dgb, ev2⟩ := exa_v hx2_
  have S_D2 : Sta s s.heap "java/lang/Integer" "DigitTens" "[B" (.ref dgb) := Sta.start ev2 (Or.inl (hsets _ (List.mem_of_getElem? (i := 16) rfl)))
  have hl2_ := eqv_i (Term.int_eval (100 : Int32)) (Cond.before_iff.mp (hsets _ (List.mem_of_getElem? (i := 18) rfl)))
  obtain ⟨cgb, A2, q2, z2⟩ := own_arrB ev2 hx2_ (W_ 24 rfl) hl2_
  have TB2 : own_Tb s dgb cgb (fun j => (48 : Int32) + (j / (10 : Int32))) := own_Tb.start (fun idx => ev2) A2 q2 z2 (Cond.before_iff.mp (hsets _ (List.mem_of_getElem? (i := 19) rfl))) (fun X j hj hv => eqv_i (own_addk (own_divk (own_idx hj))) hv)
  have hcc : ∀ q ∈ consts_1, Jvm.Lit.constHeld s q.1 q.2 := And.left hcalls
  have hCH : CHv s own_EL s.vm s.heap := CHv.start (own_EW s _ hw) (fun p hp => hcc p ((by decide : ∀ p ∈ own_EL, p ∈ consts_1) p hp)) (hsets _ (List.mem_of_getElem? (i := 2) rfl)) (W_ 24 rfl) (W_ 7 rfl)
  obtain ⟨n, o, h1, h2, h3, _, L, rfl, ⟨rfl, N⟩, -, hq⟩ := rm_law l s _ hw tables_1 i0 i1 i2 i3 i4 i5 csz fm dga cga dgb cgb s.heap s.heap.size (Old.start s) S_CS hcs S_IO hio S_D1 TB1 S_D2 TB2 p e ha hc hk s m _ below hf ((Spec.applies_iff_loose hf).mp happ).1 ⟨rfl, State.Warmed39.refl s, rfl, hCH⟩ trivial
  refine ⟨n, _, h1, h2, h3, hpost _ _ _ _ _ _ ⟨Cond.after_iff.mpr rfl, Cond.after_iff.mpr (eq_i res_at (Term.int_eval (1)) rfl), trivial⟩ ⟨hq.1, hq.2.1, hq.2.2.1, (hq.2.2.2.sift fun y hy => Or.inr (N y hy)).mono (by decide) (by decide)⟩⟩
theorem main_1_1 : Claimed_1_1 := comes_1 fun _ _ _ _ _ _ h hF => ⟨h.1, hF⟩
theorem main_1_2 : Claimed_1_2 := comes_1 fun _ _ _ _ _ _ h hF => ⟨h.2.1, hF⟩
end Jvm.Pilot.@@N@@
namespace Jvm.Pilot.@@N@@
open Jvm Jvm.ClassFile Sem Op Lib Jvm.Free Jvm.Stand Jvm.Pilot.@@N@@.Jvm.D
/-! MADE BY PROGRAM (witnessworld.py) out of the Statement's table words and the real class files: 30 classes; the members and pool entries that the words name. The judged class is class 1, her method 3. -/
namespace start1
open Jvm.ClassFile
def u (s : String) : CpInfo := .utf8 (stringToUtf16 s)
/-- a pool by its gaps: so many unusable entries, then the entry; so many at the end -/
def gap : Nat → List CpInfo → List CpInfo
  | 0, r => r
  | n + 1, r => .unusable :: gap n r
def poolList (es : List (Nat × CpInfo)) (last : Nat) : List CpInfo := es.foldr (fun e r => gap e.1 (e.2 :: r)) (gap last [])
def pool (es : List (Nat × CpInfo)) (last : Nat) : Array CpInfo := ⟨poolList es last⟩
def fileOf (pool : Array CpInfo) (this : Nat) (attrs : Array Attribute := #[]) (ms : Array MethodInfo := #[]) (fl : Nat := 33) (sup : Nat := 0) (ifs : Array Nat := #[]) (fds : Array FieldInfo := #[]) : ClassFile where
  minorVersion := 0
  majorVersion := 65
  constantPool := pool
  accessFlags := fl
  thisClass := this
  superClass := sup
  interfaces := ifs
  fields := fds
  methods := ms
  attributes := attrs
def plain (name : String) (sup : Option ClassId) : Class where
  name := name
  kind := .ordinary
  loader := none
  accessFlags := 33
  super := sup
  interfaces := #[]
  cf := none
  fields := #[]
  methods := #[]
  instanceTypes := #[]
  staticTypes := #[]
  resolved := #[]
  callSites := []
  init := .initialized
  statics := none
  mirror := none

def pool0 : Array CpInfo := pool [(5, u "<init>"), (0, u "()V"), (1, .class_ 10), (1, u "java/lang/Object")] 113

def k0c0 : Code := { maxStack := 0, maxLocals := 1, code := object_method_1_code, exceptionTable := #[], attributes := #[] }
def k0m0 : Method := { name := "<init>", desc := "()V", sig := { parameters := [], returnType := none }, accessFlags := 1, code := some k0c0 }
/-- java/lang/Object -/
def k0 : Class := { plain "java/lang/Object" none with
  accessFlags := 33
  interfaces := #[]
  cf := some (fileOf pool0 8 #[] #[{ accessFlags := 1, nameIndex := 5, descriptorIndex := 6, attributes := #[] }] 33 0 #[] #[])
  fields := #[]
  methods := #[k0m0]
  instanceTypes := #[]
  staticTypes := #[]
  resolved := Array.replicate 124 none
  statics := none }

def pool1 : Array CpInfo := pool [(2, .class_ 4), (1, u "java/lang/Object"), (0, u "<init>"), (0, u "()V"), (0, .methodref 8 9), (0, .class_ 10), (0, .nameAndType 11 12), (0, u "java/lang/String"), (0, u "charAt"), (0, u "(I)C"), (0, .methodref 14 15), (0, .class_ 16), (0, .nameAndType 17 12), (0, u "com/example/redelivery/redelivery/settings/ListenAddressToStringPinLaw"), (0, u "ch"), (0, .integer 65535), (0, .methodref 8 20), (0, .nameAndType 5 21), (0, u "([C)V"), (0, .class_ 23), (0, u "com/example/redelivery/redelivery/settings/ListenAddress"), (0, .methodref 22 25), (0, .nameAndType 5 26), (0, u "(Ljava/lang/String;I)V"), (0, .methodref 22 28), (0, .nameAndType 29 30), (0, u "toString"), (0, u "()Ljava/lang/String;"), (0, .methodref 8 32), (0, .nameAndType 33 34), (0, u "length"), (0, u "()I"), (0, .methodref 14 36), (0, .nameAndType 37 38), (0, u "at"), (0, u "(Ljava/lang/String;[CII)Z"), (3, u "law"), (0, u "(IIIIII)Z")] 4

def k1m0 : Method := { name := "<init>", desc := "()V", sig := { parameters := [], returnType := none }, accessFlags := 1, code := none }
def k1c1 : Code := { maxStack := 2, maxLocals := 1, code := method_2_code, exceptionTable := #[], attributes := #[] }
def k1m1 : Method := { name := "ch", desc := "(I)C", sig := { parameters := [.int], returnType := some .char }, accessFlags := 10, code := some k1c1 }
def k1c2 : Code := { maxStack := 3, maxLocals := 4, code := method_3_code, exceptionTable := #[], attributes := #[] }
def k1m2 : Method := { name := "at", desc := "(Ljava/lang/String;[CII)Z", sig := { parameters := [(.object "java/lang/String"), (.array .char), .int, .int], returnType := some .boolean }, accessFlags := 10, code := some k1c2 }
def k1c3 : Code := { maxStack := 5, maxLocals := 18, code := code, exceptionTable := #[], attributes := #[] }
def k1m3 : Method := { name := "law", desc := "(IIIIII)Z", sig := { parameters := [.int, .int, .int, .int, .int, .int], returnType := some .boolean }, accessFlags := 9, code := some k1c3 }
/-- com/example/redelivery/redelivery/settings/ListenAddressToStringPinLaw -/
def k1 : Class := { plain "com/example/redelivery/redelivery/settings/ListenAddressToStringPinLaw" (some 0) with
  accessFlags := 49
  interfaces := #[]
  cf := some (fileOf pool1 14 #[] #[{ accessFlags := 1, nameIndex := 5, descriptorIndex := 6, attributes := #[] }, { accessFlags := 10, nameIndex := 17, descriptorIndex := 12, attributes := #[] }, { accessFlags := 10, nameIndex := 37, descriptorIndex := 38, attributes := #[] }, { accessFlags := 9, nameIndex := 42, descriptorIndex := 43, attributes := #[] }] 49 2 #[] #[])
  fields := #[]
  methods := #[k1m0, k1m1, k1m2, k1m3]
  instanceTypes := #[]
  staticTypes := #[]
  resolved := Array.replicate 48 none
  statics := none }

def pool2 : Array CpInfo := pool [(1, .class_ 2), (0, u "java/io/Serializable"), (0, .class_ 4), (0, u "java/lang/Object")] 2

/-- java/io/Serializable -/
def k2 : Class := { plain "java/io/Serializable" (some 0) with
  accessFlags := 1537
  interfaces := #[]
  cf := some (fileOf pool2 1 #[] #[] 1537 3 #[] #[])
  fields := #[]
  methods := #[]
  instanceTypes := #[]
  staticTypes := #[]
  resolved := Array.replicate 7 none
  statics := none }

def pool3 : Array CpInfo := pool [(1, .class_ 2), (0, u "java/lang/Comparable"), (0, .class_ 4), (0, u "java/lang/Object")] 7

/-- java/lang/Comparable -/
def k3 : Class := { plain "java/lang/Comparable" (some 0) with
  accessFlags := 1537
  interfaces := #[]
  cf := some (fileOf pool3 1 #[] #[] 1537 3 #[] #[])
  fields := #[]
  methods := #[]
  instanceTypes := #[]
  staticTypes := #[]
  resolved := Array.replicate 12 none
  statics := none }

def pool4 : Array CpInfo := pool [(2, .class_ 4), (1, u "java/lang/CharSequence"), (42, .class_ 48), (0, u "java/lang/CharSequence$1CodePointIterator"), (10, .class_ 60), (0, u "java/lang/CharSequence$1CharIterator"), (5, .class_ 67), (0, u "java/lang/Object"), (10, u "toString"), (0, u "()Ljava/lang/String;")] 51

def k4m0 : Method := { name := "toString", desc := "()Ljava/lang/String;", sig := { parameters := [], returnType := some (.object "java/lang/String") }, accessFlags := 1025, code := none }
/-- java/lang/CharSequence -/
def k4 : Class := { plain "java/lang/CharSequence" (some 0) with
  accessFlags := 1537
  interfaces := #[]
  cf := some (fileOf pool4 2 #[.nestMembers #[47, 59]] #[{ accessFlags := 1025, nameIndex := 78, descriptorIndex := 79, attributes := #[] }] 1537 66 #[] #[])
  fields := #[]
  methods := #[k4m0]
  instanceTypes := #[]
  staticTypes := #[]
  resolved := Array.replicate 131 none
  statics := none }

def pool5 : Array CpInfo := pool [(1, .class_ 2), (0, u "java/lang/constant/Constable"), (0, .class_ 4), (0, u "java/lang/Object")] 6

/-- java/lang/constant/Constable -/
def k5 : Class := { plain "java/lang/constant/Constable" (some 0) with
  accessFlags := 1537
  interfaces := #[]
  cf := some (fileOf pool5 1 #[] #[] 1537 3 #[] #[])
  fields := #[]
  methods := #[]
  instanceTypes := #[]
  staticTypes := #[]
  resolved := Array.replicate 11 none
  statics := none }

def pool6 : Array CpInfo := pool [(1, .class_ 2), (0, u "java/lang/constant/ConstantDesc"), (0, .class_ 4), (0, u "java/lang/Object")] 32

/-- java/lang/constant/ConstantDesc -/
def k6 : Class := { plain "java/lang/constant/ConstantDesc" (some 0) with
  accessFlags := 1537
  interfaces := #[]
  cf := some (fileOf pool6 1 #[] #[] 1537 3 #[] #[])
  fields := #[]
  methods := #[]
  instanceTypes := #[]
  staticTypes := #[]
  resolved := Array.replicate 37 none
  statics := none }

def pool7 : Array CpInfo := pool [(1, .methodref 2 3), (0, .class_ 4), (0, .nameAndType 5 6), (0, u "java/lang/Object"), (0, u "<init>"), (0, u "()V"), (2, .fieldref 10 11), (0, .class_ 12), (0, .nameAndType 13 14), (0, u "java/lang/String"), (0, u "value"), (0, u "[B"), (0, .fieldref 10 16), (0, .nameAndType 17 18), (0, u "coder"), (0, u "B"), (2, u "hash"), (0, u "I"), (2, u "hashIsZero"), (0, u "Z"), (0, .methodref 10 28), (0, .nameAndType 5 29), (0, u "([CIILjava/lang/Void;)V"), (8, .fieldref 10 39), (0, .nameAndType 40 26), (0, u "COMPACT_STRINGS"), (1, .class_ 44), (1, u "java/lang/StringUTF16"), (0, u "compress"), (1, .methodref 42 48), (0, .nameAndType 49 50), (0, u "coderFromArrayLen"), (0, u "([BI)B"), (3, .methodref 55 56), (0, .class_ 57), (0, .nameAndType 58 59), (0, u "java/util/Arrays"), (0, u "copyOfRange"), (0, u "([BII)[B"), (47, .class_ 109), (1, u "java/lang/StringLatin1"), (32, u "()Z"), (34, .methodref 42 178), (0, .nameAndType 45 179), (0, u "([CII)[B"), (13, .class_ 195), (1, u "java/lang/System"), (16, .methodref 193 213), (0, .nameAndType 214 215), (0, u "arraycopy"), (0, u "(Ljava/lang/Object;ILjava/lang/Object;II)V"), (118, u "()I"), (0, .methodref 10 336), (0, .nameAndType 17 337), (0, u "()B"), (2, u "()[B"), (22, u "([BI)C"), (27, u "(II)V"), (35, u "(I)C"), (34, .nameAndType 463 464), (0, u "toString"), (0, u "()Ljava/lang/String;"), (24, .methodref 10 490), (0, .nameAndType 5 491), (0, u "(Ljava/lang/AbstractStringBuilder;Ljava/lang/Void;)V"), (0, .methodref 10 493), (0, .nameAndType 494 142), (0, u "isLatin1"), (0, .methodref 107 496), (0, .nameAndType 497 363), (0, u "charAt"), (3, u "checkIndex"), (4, .nameAndType 507 334), (0, u "length"), (24, u "getBytes"), (15, u "(Ljava/lang/CharSequence;)Z"), (0, .methodref 550 506), (0, .class_ 551), (0, u "java/lang/AbstractStringBuilder"), (0, .methodref 550 553), (0, .nameAndType 554 340), (0, u "getValue"), (20, .class_ 576), (0, u "java/lang/CharSequence"), (12, u "([B[B)I"), (9, u "CASE_INSENSITIVE_ORDER"), (0, u "Ljava/util/Comparator;"), (34, u "indexOf"), (11, .methodref 107 648), (0, .nameAndType 635 589), (43, u "isEmpty"), (17, .interfaceMethodref 575 462), (0, .methodref 10 712), (0, .nameAndType 635 713), (0, u "(Ljava/lang/String;)I"), (107, u "([BIB)V"), (188, u "([C)V"), (36, .methodref 550 493), (5, .fieldref 1054 1055), (0, .class_ 1056), (0, .nameAndType 1057 1058), (0, u "jdk/internal/util/Preconditions"), (0, u "SIOOBE_FORMATTER"), (0, u "Ljava/util/function/BiFunction;"), (0, .methodref 1054 1060), (0, .nameAndType 501 1061), (0, u "(IILjava/util/function/BiFunction;)I"), (39, u "serialPersistentFields"), (0, u "[Ljava/io/ObjectStreamField;"), (0, .class_ 1104), (0, u "java/lang/String$CaseInsensitiveComparator"), (1, .class_ 1107), (0, u "java/io/Serializable"), (0, .class_ 1109), (0, u "java/lang/Comparable"), (0, .class_ 1111), (0, u "java/lang/constant/Constable"), (0, .class_ 1113), (0, u "java/lang/constant/ConstantDesc"), (2, u "serialVersionUID"), (0, u "J"), (3, u "REPL"), (0, u "C"), (2, u "LATIN1"), (1, u "UTF16"), (105, u "(Ljava/lang/StringBuilder;)V"), (57, u "contains")] 159

def k7m0 : Method := { name := "<init>", desc := "()V", sig := { parameters := [], returnType := none }, accessFlags := 1, code := none }
def k7c1 : Code := { maxStack := 5, maxLocals := 2, code := jdk_42_method_3_code, exceptionTable := #[], attributes := #[] }
def k7m1 : Method := { name := "<init>", desc := "([C)V", sig := { parameters := [(.array .char)], returnType := none }, accessFlags := 1, code := some k7c1 }
def k7c2 : Code := { maxStack := 3, maxLocals := 2, code := jdk_42_method_53_code, exceptionTable := #[], attributes := #[] }
def k7m2 : Method := { name := "<init>", desc := "(Ljava/lang/StringBuilder;)V", sig := { parameters := [(.object "java/lang/StringBuilder")], returnType := none }, accessFlags := 1, code := some k7c2 }
def k7c3 : Code := { maxStack := 2, maxLocals := 1, code := jdk_42_method_54_code, exceptionTable := #[], attributes := #[] }
def k7m3 : Method := { name := "length", desc := "()I", sig := { parameters := [], returnType := some .int }, accessFlags := 1, code := some k7c3 }
def k7c4 : Code := { maxStack := 1, maxLocals := 1, code := jdk_42_method_55_code, exceptionTable := #[], attributes := #[] }
def k7m4 : Method := { name := "isEmpty", desc := "()Z", sig := { parameters := [], returnType := some .boolean }, accessFlags := 1, code := some k7c4 }
def k7c5 : Code := { maxStack := 2, maxLocals := 2, code := jdk_42_method_56_code, exceptionTable := #[], attributes := #[] }
def k7m5 : Method := { name := "charAt", desc := "(I)C", sig := { parameters := [.int], returnType := some .char }, accessFlags := 1, code := some k7c5 }
def k7c6 : Code := { maxStack := 2, maxLocals := 3, code := jdk_42_method_84_code, exceptionTable := #[], attributes := #[] }
def k7m6 : Method := { name := "indexOf", desc := "(Ljava/lang/String;)I", sig := { parameters := [(.object "java/lang/String")], returnType := some .int }, accessFlags := 1, code := some k7c6 }
def k7c7 : Code := { maxStack := 2, maxLocals := 2, code := jdk_42_method_97_code, exceptionTable := #[], attributes := #[] }
def k7m7 : Method := { name := "contains", desc := "(Ljava/lang/CharSequence;)Z", sig := { parameters := [(.object "java/lang/CharSequence")], returnType := some .boolean }, accessFlags := 1, code := some k7c7 }
def k7c8 : Code := { maxStack := 1, maxLocals := 1, code := jdk_42_method_126_code, exceptionTable := #[], attributes := #[] }
def k7m8 : Method := { name := "toString", desc := "()Ljava/lang/String;", sig := { parameters := [], returnType := some (.object "java/lang/String") }, accessFlags := 1, code := some k7c8 }
def k7c9 : Code := { maxStack := 5, maxLocals := 4, code := jdk_42_method_147_code, exceptionTable := #[], attributes := #[] }
def k7m9 : Method := { name := "getBytes", desc := "([BIB)V", sig := { parameters := [(.array .byte), .int, .byte], returnType := none }, accessFlags := 0, code := some k7c9 }
def k7c10 : Code := { maxStack := 4, maxLocals := 6, code := jdk_42_method_149_code, exceptionTable := #[], attributes := #[] }
def k7m10 : Method := { name := "<init>", desc := "([CIILjava/lang/Void;)V", sig := { parameters := [(.array .char), .int, .int, (.object "java/lang/Void")], returnType := none }, accessFlags := 2, code := some k7c10 }
def k7c11 : Code := { maxStack := 5, maxLocals := 5, code := jdk_42_method_150_code, exceptionTable := #[], attributes := #[] }
def k7m11 : Method := { name := "<init>", desc := "(Ljava/lang/AbstractStringBuilder;Ljava/lang/Void;)V", sig := { parameters := [(.object "java/lang/AbstractStringBuilder"), (.object "java/lang/Void")], returnType := none }, accessFlags := 0, code := some k7c11 }
def k7c12 : Code := { maxStack := 1, maxLocals := 1, code := jdk_42_method_152_code, exceptionTable := #[], attributes := #[] }
def k7m12 : Method := { name := "coder", desc := "()B", sig := { parameters := [], returnType := some .byte }, accessFlags := 0, code := some k7c12 }
def k7c13 : Code := { maxStack := 1, maxLocals := 1, code := jdk_42_method_154_code, exceptionTable := #[], attributes := #[] }
def k7m13 : Method := { name := "isLatin1", desc := "()Z", sig := { parameters := [], returnType := some .boolean }, accessFlags := 0, code := some k7c13 }
def k7c14 : Code := { maxStack := 3, maxLocals := 2, code := jdk_42_method_155_code, exceptionTable := #[], attributes := #[] }
def k7m14 : Method := { name := "checkIndex", desc := "(II)V", sig := { parameters := [.int, .int], returnType := none }, accessFlags := 8, code := some k7c14 }
/-- java/lang/String -/
def k7 : Class := { plain "java/lang/String" (some 0) with
  accessFlags := 49
  interfaces := #[2, 3, 4, 5, 6]
  cf := some (fileOf pool7 10 #[.nestMembers #[1103]] #[{ accessFlags := 1, nameIndex := 5, descriptorIndex := 6, attributes := #[] }, { accessFlags := 1, nameIndex := 5, descriptorIndex := 1010, attributes := #[] }, { accessFlags := 1, nameIndex := 5, descriptorIndex := 1233, attributes := #[] }, { accessFlags := 1, nameIndex := 507, descriptorIndex := 334, attributes := #[] }, { accessFlags := 1, nameIndex := 692, descriptorIndex := 142, attributes := #[] }, { accessFlags := 1, nameIndex := 497, descriptorIndex := 427, attributes := #[] }, { accessFlags := 1, nameIndex := 635, descriptorIndex := 713, attributes := #[] }, { accessFlags := 1, nameIndex := 1291, descriptorIndex := 548, attributes := #[] }, { accessFlags := 1, nameIndex := 463, descriptorIndex := 464, attributes := #[] }, { accessFlags := 0, nameIndex := 532, descriptorIndex := 821, attributes := #[] }, { accessFlags := 2, nameIndex := 5, descriptorIndex := 29, attributes := #[] }, { accessFlags := 0, nameIndex := 5, descriptorIndex := 491, attributes := #[] }, { accessFlags := 0, nameIndex := 17, descriptorIndex := 337, attributes := #[] }, { accessFlags := 0, nameIndex := 494, descriptorIndex := 142, attributes := #[] }, { accessFlags := 8, nameIndex := 501, descriptorIndex := 391, attributes := #[] }] 49 2 #[1106, 1108, 575, 1110, 1112] #[{ accessFlags := 18, nameIndex := 13, descriptorIndex := 14, attributes := #[] }, { accessFlags := 18, nameIndex := 17, descriptorIndex := 18, attributes := #[] }, { accessFlags := 2, nameIndex := 21, descriptorIndex := 22, attributes := #[] }, { accessFlags := 2, nameIndex := 25, descriptorIndex := 26, attributes := #[] }, { accessFlags := 26, nameIndex := 1116, descriptorIndex := 1117, attributes := #[] }, { accessFlags := 24, nameIndex := 40, descriptorIndex := 26, attributes := #[] }, { accessFlags := 26, nameIndex := 1101, descriptorIndex := 1102, attributes := #[] }, { accessFlags := 26, nameIndex := 1121, descriptorIndex := 1122, attributes := #[] }, { accessFlags := 25, nameIndex := 599, descriptorIndex := 600, attributes := #[] }, { accessFlags := 24, nameIndex := 1125, descriptorIndex := 18, attributes := #[] }, { accessFlags := 24, nameIndex := 1127, descriptorIndex := 18, attributes := #[] }])
  fields := #[{ name := "value", type := (.array .byte), accessFlags := 18, slot := 0, constantValue := 0 }, { name := "coder", type := .byte, accessFlags := 18, slot := 1, constantValue := 0 }, { name := "hash", type := .int, accessFlags := 2, slot := 2, constantValue := 0 }, { name := "hashIsZero", type := .boolean, accessFlags := 2, slot := 3, constantValue := 0 }, { name := "serialVersionUID", type := .long, accessFlags := 26, slot := 0, constantValue := 0 }, { name := "COMPACT_STRINGS", type := .boolean, accessFlags := 24, slot := 1, constantValue := 0 }, { name := "serialPersistentFields", type := (.array (.object "java/io/ObjectStreamField")), accessFlags := 26, slot := 2, constantValue := 0 }, { name := "REPL", type := .char, accessFlags := 26, slot := 3, constantValue := 0 }, { name := "CASE_INSENSITIVE_ORDER", type := (.object "java/util/Comparator"), accessFlags := 25, slot := 4, constantValue := 0 }, { name := "LATIN1", type := .byte, accessFlags := 24, slot := 5, constantValue := 0 }, { name := "UTF16", type := .byte, accessFlags := 24, slot := 6, constantValue := 0 }]
  methods := #[k7m0, k7m1, k7m2, k7m3, k7m4, k7m5, k7m6, k7m7, k7m8, k7m9, k7m10, k7m11, k7m12, k7m13, k7m14]
  instanceTypes := #[(.array .byte), .byte, .int, .boolean]
  staticTypes := #[.long, .boolean, (.array (.object "java/io/ObjectStreamField")), .char, (.object "java/util/Comparator"), .byte, .byte]
  resolved := Array.replicate 1451 none
  statics := some 0 }

def pool8 : Array CpInfo := pool [(6, .class_ 8), (1, u "java/lang/Object"), (0, u "<init>"), (0, u "()V"), (1, .class_ 14), (1, u "java/lang/StringUTF16"), (31, u "$assertionsDisabled"), (0, u "Z"), (13, u "HI_BYTE_SHIFT"), (0, u "I"), (2, u "LO_BYTE_SHIFT"), (49, .methodref 12 116), (0, .nameAndType 117 118), (0, u "compress"), (0, u "([CI[BII)I"), (3, u "([CII)[B"), (138, u "coderFromArrayLen"), (0, u "([BI)B"), (106, .class_ 371), (1, u "java/lang/StringUTF16$LinesSpliterator"), (58, u "MAX_LENGTH"), (196, .class_ 628), (0, u "java/lang/StringUTF16$CodePointsSpliterator"), (0, .class_ 630), (0, u "java/lang/StringUTF16$CharsSpliterator")] 4

def k8m0 : Method := { name := "<init>", desc := "()V", sig := { parameters := [], returnType := none }, accessFlags := 0, code := none }
def k8c1 : Code := { maxStack := 2, maxLocals := 2, code := jdk_52_method_15_code, exceptionTable := #[], attributes := #[] }
def k8m1 : Method := { name := "coderFromArrayLen", desc := "([BI)B", sig := { parameters := [(.array .byte), .int], returnType := some .byte }, accessFlags := 8, code := some k8c1 }
def k8c2 : Code := { maxStack := 5, maxLocals := 6, code := jdk_52_method_16_code, exceptionTable := #[], attributes := #[] }
def k8m2 : Method := { name := "compress", desc := "([CII)[B", sig := { parameters := [(.array .char), .int, .int], returnType := some (.array .byte) }, accessFlags := 9, code := some k8c2 }
def k8c3 : Code := { maxStack := 3, maxLocals := 7, code := jdk_52_method_21_code, exceptionTable := #[], attributes := #[] }
def k8m3 : Method := { name := "compress", desc := "([CI[BII)I", sig := { parameters := [(.array .char), .int, (.array .byte), .int, .int], returnType := some .int }, accessFlags := 9, code := some k8c3 }
/-- java/lang/StringUTF16 -/
def k8 : Class := { plain "java/lang/StringUTF16" (some 0) with
  accessFlags := 48
  interfaces := #[]
  cf := some (fileOf pool8 12 #[.nestMembers #[627, 629, 369]] #[{ accessFlags := 0, nameIndex := 9, descriptorIndex := 10, attributes := #[] }, { accessFlags := 8, nameIndex := 261, descriptorIndex := 262, attributes := #[] }, { accessFlags := 9, nameIndex := 117, descriptorIndex := 122, attributes := #[] }, { accessFlags := 9, nameIndex := 117, descriptorIndex := 118, attributes := #[] }] 48 6 #[] #[{ accessFlags := 26, nameIndex := 61, descriptorIndex := 62, attributes := #[] }, { accessFlags := 26, nameIndex := 65, descriptorIndex := 62, attributes := #[] }, { accessFlags := 24, nameIndex := 430, descriptorIndex := 62, attributes := #[] }, { accessFlags := 4120, nameIndex := 46, descriptorIndex := 47, attributes := #[] }])
  fields := #[{ name := "HI_BYTE_SHIFT", type := .int, accessFlags := 26, slot := 0, constantValue := 0 }, { name := "LO_BYTE_SHIFT", type := .int, accessFlags := 26, slot := 1, constantValue := 0 }, { name := "MAX_LENGTH", type := .int, accessFlags := 24, slot := 2, constantValue := 0 }, { name := "$assertionsDisabled", type := .boolean, accessFlags := 4120, slot := 3, constantValue := 0 }]
  methods := #[k8m0, k8m1, k8m2, k8m3]
  instanceTypes := #[]
  staticTypes := #[.int, .int, .int, .boolean]
  resolved := Array.replicate 635 none
  statics := none }

def pool9 : Array CpInfo := pool [(1, .methodref 2 3), (0, .class_ 4), (0, .nameAndType 5 6), (0, u "java/lang/Object"), (0, u "<init>"), (0, u "()V"), (0, .class_ 8), (0, u "java/lang/Record")] 13

def k9c0 : Code := { maxStack := 1, maxLocals := 1, code := jdk_30_method_1_code, exceptionTable := #[], attributes := #[] }
def k9m0 : Method := { name := "<init>", desc := "()V", sig := { parameters := [], returnType := none }, accessFlags := 4, code := some k9c0 }
/-- java/lang/Record -/
def k9 : Class := { plain "java/lang/Record" (some 0) with
  accessFlags := 1057
  interfaces := #[]
  cf := some (fileOf pool9 7 #[] #[{ accessFlags := 4, nameIndex := 5, descriptorIndex := 6, attributes := #[] }] 1057 2 #[] #[])
  fields := #[]
  methods := #[k9m0]
  instanceTypes := #[]
  staticTypes := #[]
  resolved := Array.replicate 22 none
  statics := none }

def pool10 : Array CpInfo := pool [(1, .methodref 2 3), (0, .class_ 4), (0, .nameAndType 5 6), (0, u "java/lang/Record"), (0, u "<init>"), (0, u "()V"), (0, .string 8), (0, u "host"), (0, .methodref 10 11), (0, .class_ 12), (0, .nameAndType 13 14), (0, u "java/util/Objects"), (0, u "requireNonNull"), (0, u "(Ljava/lang/Object;Ljava/lang/String;)Ljava/lang/Object;"), (0, .methodref 16 17), (0, .class_ 18), (0, .nameAndType 19 20), (0, u "java/lang/String"), (0, u "isEmpty"), (0, u "()Z"), (7, .integer 65535), (0, .class_ 30), (0, u "java/lang/StringBuilder"), (0, .methodref 29 3), (2, .methodref 29 35), (0, .nameAndType 36 37), (0, u "append"), (0, u "(Ljava/lang/String;)Ljava/lang/StringBuilder;"), (0, .methodref 29 39), (0, .nameAndType 36 40), (0, u "(I)Ljava/lang/StringBuilder;"), (0, .methodref 29 42), (0, .nameAndType 43 44), (0, u "toString"), (0, u "()Ljava/lang/String;"), (0, .fieldref 46 47), (0, .class_ 48), (0, .nameAndType 8 49), (0, u "com/example/redelivery/redelivery/settings/ListenAddress"), (0, u "Ljava/lang/String;"), (0, .fieldref 46 51), (0, .nameAndType 52 53), (0, u "port"), (0, u "I"), (12, .string 67), (0, u "["), (13, .string 82), (0, u ":"), (0, .methodref 16 84), (0, .nameAndType 85 86), (0, u "contains"), (0, u "(Ljava/lang/CharSequence;)Z"), (29, u "(Ljava/lang/String;I)V"), (0, .string 118), (0, u "]:"), (12, u "DEFAULT"), (0, u "Lcom/example/redelivery/redelivery/settings/ListenAddress;")] 42

def k10c0 : Code := { maxStack := 4, maxLocals := 3, code := prog_12_method_1_code, exceptionTable := #[], attributes := #[] }
def k10m0 : Method := { name := "<init>", desc := "(Ljava/lang/String;I)V", sig := { parameters := [(.object "java/lang/String"), .int], returnType := none }, accessFlags := 1, code := some k10c0 }
def k10c1 : Code := { maxStack := 2, maxLocals := 2, code := prog_12_method_3_code, exceptionTable := #[], attributes := #[] }
def k10m1 : Method := { name := "toString", desc := "()Ljava/lang/String;", sig := { parameters := [], returnType := some (.object "java/lang/String") }, accessFlags := 1, code := some k10c1 }
/-- com/example/redelivery/redelivery/settings/ListenAddress -/
def k10 : Class := { plain "com/example/redelivery/redelivery/settings/ListenAddress" (some 9) with
  accessFlags := 49
  interfaces := #[]
  cf := some (fileOf pool10 46 #[] #[{ accessFlags := 1, nameIndex := 5, descriptorIndex := 116, attributes := #[] }, { accessFlags := 1, nameIndex := 43, descriptorIndex := 44, attributes := #[] }] 49 2 #[] #[{ accessFlags := 18, nameIndex := 8, descriptorIndex := 49, attributes := #[] }, { accessFlags := 18, nameIndex := 52, descriptorIndex := 53, attributes := #[] }, { accessFlags := 25, nameIndex := 131, descriptorIndex := 132, attributes := #[] }])
  fields := #[{ name := "host", type := (.object "java/lang/String"), accessFlags := 18, slot := 0, constantValue := 0 }, { name := "port", type := .int, accessFlags := 18, slot := 1, constantValue := 0 }, { name := "DEFAULT", type := (.object "com/example/redelivery/redelivery/settings/ListenAddress"), accessFlags := 25, slot := 0, constantValue := 0 }]
  methods := #[k10m0, k10m1]
  instanceTypes := #[(.object "java/lang/String"), .int]
  staticTypes := #[(.object "com/example/redelivery/redelivery/settings/ListenAddress")]
  resolved := Array.replicate 175 none
  statics := none }

def pool11 : Array CpInfo := pool [(2, .class_ 4), (1, u "java/lang/Object"), (0, u "<init>"), (0, u "()V"), (35, .class_ 44), (1, u "java/util/Objects"), (0, u "requireNonNull"), (48, u "(Ljava/lang/Object;Ljava/lang/String;)Ljava/lang/Object;")] 89

def k11m0 : Method := { name := "<init>", desc := "()V", sig := { parameters := [], returnType := none }, accessFlags := 2, code := none }
def k11c1 : Code := { maxStack := 3, maxLocals := 2, code := jdk_31_method_11_code, exceptionTable := #[], attributes := #[] }
def k11m1 : Method := { name := "requireNonNull", desc := "(Ljava/lang/Object;Ljava/lang/String;)Ljava/lang/Object;", sig := { parameters := [(.object "java/lang/Object"), (.object "java/lang/String")], returnType := some (.object "java/lang/Object") }, accessFlags := 9, code := some k11c1 }
/-- java/util/Objects -/
def k11 : Class := { plain "java/util/Objects" (some 0) with
  accessFlags := 49
  interfaces := #[]
  cf := some (fileOf pool11 42 #[] #[{ accessFlags := 2, nameIndex := 5, descriptorIndex := 6, attributes := #[] }, { accessFlags := 9, nameIndex := 45, descriptorIndex := 94, attributes := #[] }] 49 2 #[] #[])
  fields := #[]
  methods := #[k11m0, k11m1]
  instanceTypes := #[]
  staticTypes := #[]
  resolved := Array.replicate 184 none
  statics := none }

def pool12 : Array CpInfo := pool [(1, .class_ 2), (0, u "java/lang/String"), (1, .class_ 6), (1, u "java/lang/Object"), (0, u "<init>"), (0, u "()V"), (0, .methodref 1 10), (0, .nameAndType 11 12), (0, u "checkIndex"), (0, u "(II)V"), (1, .class_ 16), (1, u "java/lang/StringLatin1"), (36, u "([BI)C"), (45, .methodref 14 100), (0, .nameAndType 101 102), (0, u "indexOf"), (0, u "([BI[BII)I"), (18, u "$assertionsDisabled"), (0, u "Z"), (98, .class_ 223), (1, u "java/lang/StringLatin1$LinesSpliterator"), (28, u "charAt"), (34, u "([B[B)I"), (102, .class_ 391), (0, u "java/lang/StringLatin1$CharsSpliterator")] 3

def k12m0 : Method := { name := "<init>", desc := "()V", sig := { parameters := [], returnType := none }, accessFlags := 0, code := none }
def k12c1 : Code := { maxStack := 2, maxLocals := 2, code := jdk_43_method_2_code, exceptionTable := #[], attributes := #[] }
def k12m1 : Method := { name := "charAt", desc := "([BI)C", sig := { parameters := [(.array .byte), .int], returnType := some .char }, accessFlags := 9, code := some k12c1 }
def k12c2 : Code := { maxStack := 5, maxLocals := 2, code := jdk_43_method_24_code, exceptionTable := #[], attributes := #[] }
def k12m2 : Method := { name := "indexOf", desc := "([B[B)I", sig := { parameters := [(.array .byte), (.array .byte)], returnType := some .int }, accessFlags := 9, code := some k12c2 }
def k12c3 : Code := { maxStack := 3, maxLocals := 11, code := jdk_43_method_25_code, exceptionTable := #[], attributes := #[] }
def k12m3 : Method := { name := "indexOf", desc := "([BI[BII)I", sig := { parameters := [(.array .byte), .int, (.array .byte), .int, .int], returnType := some .int }, accessFlags := 9, code := some k12c3 }
/-- java/lang/StringLatin1 -/
def k12 : Class := { plain "java/lang/StringLatin1" (some 0) with
  accessFlags := 48
  interfaces := #[]
  cf := some (fileOf pool12 14 #[.nestMembers #[390, 221]] #[{ accessFlags := 0, nameIndex := 7, descriptorIndex := 8, attributes := #[] }, { accessFlags := 9, nameIndex := 252, descriptorIndex := 53, attributes := #[] }, { accessFlags := 9, nameIndex := 101, descriptorIndex := 287, attributes := #[] }, { accessFlags := 9, nameIndex := 101, descriptorIndex := 102, attributes := #[] }] 48 4 #[] #[{ accessFlags := 4120, nameIndex := 121, descriptorIndex := 122, attributes := #[] }])
  fields := #[{ name := "$assertionsDisabled", type := .boolean, accessFlags := 4120, slot := 0, constantValue := 0 }]
  methods := #[k12m0, k12m1, k12m2, k12m3]
  instanceTypes := #[]
  staticTypes := #[.boolean]
  resolved := Array.replicate 395 none
  statics := none }

def pool13 : Array CpInfo := pool [(1, .class_ 2), (0, u "java/lang/Appendable"), (0, .class_ 4), (0, u "java/lang/Object")] 9

/-- java/lang/Appendable -/
def k13 : Class := { plain "java/lang/Appendable" (some 0) with
  accessFlags := 1537
  interfaces := #[]
  cf := some (fileOf pool13 1 #[] #[] 1537 3 #[] #[])
  fields := #[]
  methods := #[]
  instanceTypes := #[]
  staticTypes := #[]
  resolved := Array.replicate 14 none
  statics := none }

def pool14 : Array CpInfo := pool [(1, .class_ 2), (0, u "java/lang/String"), (0, .methodref 4 5), (0, .class_ 6), (0, .nameAndType 7 8), (0, u "java/lang/Object"), (0, u "<init>"), (0, u "()V"), (1, .class_ 12), (1, u "java/lang/AbstractStringBuilder"), (0, u "EMPTYVALUE"), (0, u "[B"), (0, .fieldref 10 16), (0, .nameAndType 17 14), (0, u "value"), (0, .fieldref 1 19), (0, .nameAndType 20 21), (0, u "COMPACT_STRINGS"), (0, u "Z"), (0, .fieldref 10 23), (0, .nameAndType 24 25), (0, u "coder"), (0, u "B"), (6, .methodref 1 33), (0, .nameAndType 34 35), (0, u "length"), (0, u "()I"), (0, .class_ 37), (0, u "java/lang/Integer"), (2, .methodref 1 41), (0, .nameAndType 24 42), (0, u "()B"), (2, u "append"), (0, u "(Ljava/lang/String;)Ljava/lang/AbstractStringBuilder;"), (1, .class_ 49), (0, u "java/lang/CharSequence"), (19, u "(Ljava/lang/String;)V"), (5, u "maybeLatin1"), (3, .fieldref 10 80), (0, .nameAndType 81 82), (0, u "count"), (0, u "I"), (0, .methodref 10 84), (0, .nameAndType 85 86), (0, u "isLatin1"), (0, u "()Z"), (13, .methodref 10 101), (0, .nameAndType 102 103), (0, u "ensureCapacityInternal"), (0, u "(I)V"), (3, u "(I)I"), (80, u "getChars"), (19, .methodref 10 209), (0, .nameAndType 210 211), (0, u "putStringAt"), (0, u "(ILjava/lang/String;)V"), (5, u "inflateIfNeededFor"), (2, .nameAndType 221 222), (0, u "getBytes"), (0, u "([BIB)V"), (22, .methodref 36 246), (0, .nameAndType 247 107), (0, u "stringSize"), (0, .methodref 36 249), (0, .nameAndType 188 250), (0, u "(II[B)I"), (146, .methodref 10 398), (0, .nameAndType 217 69), (0, .methodref 1 220), (3, u "()[B"), (40, .class_ 445), (0, u "java/lang/Appendable"), (65, u "(I)Ljava/lang/AbstractStringBuilder;"), (40, u "getValue")] 56

def k14m0 : Method := { name := "<init>", desc := "()V", sig := { parameters := [], returnType := none }, accessFlags := 0, code := none }
def k14c1 : Code := { maxStack := 2, maxLocals := 2, code := jdk_68_method_2_code, exceptionTable := #[], attributes := #[] }
def k14m1 : Method := { name := "<init>", desc := "(I)V", sig := { parameters := [.int], returnType := none }, accessFlags := 0, code := some k14c1 }
def k14c2 : Code := { maxStack := 1, maxLocals := 1, code := jdk_68_method_6_code, exceptionTable := #[], attributes := #[] }
def k14m2 : Method := { name := "length", desc := "()I", sig := { parameters := [], returnType := some .int }, accessFlags := 1, code := some k14c2 }
def k14c3 : Code := { maxStack := 4, maxLocals := 3, code := jdk_68_method_9_code, exceptionTable := #[], attributes := #[] }
def k14m3 : Method := { name := "ensureCapacityInternal", desc := "(I)V", sig := { parameters := [.int], returnType := none }, accessFlags := 2, code := some k14c3 }
def k14c4 : Code := { maxStack := 3, maxLocals := 3, code := jdk_68_method_22_code, exceptionTable := #[], attributes := #[] }
def k14m4 : Method := { name := "append", desc := "(Ljava/lang/String;)Ljava/lang/AbstractStringBuilder;", sig := { parameters := [(.object "java/lang/String")], returnType := some (.object "java/lang/AbstractStringBuilder") }, accessFlags := 1, code := some k14c4 }
def k14c5 : Code := { maxStack := 4, maxLocals := 4, code := jdk_68_method_32_code, exceptionTable := #[], attributes := #[] }
def k14m5 : Method := { name := "append", desc := "(I)Ljava/lang/AbstractStringBuilder;", sig := { parameters := [.int], returnType := some (.object "java/lang/AbstractStringBuilder") }, accessFlags := 1, code := some k14c5 }
def k14c6 : Code := { maxStack := 1, maxLocals := 1, code := jdk_68_method_64_code, exceptionTable := #[], attributes := #[] }
def k14m6 : Method := { name := "getValue", desc := "()[B", sig := { parameters := [], returnType := some (.array .byte) }, accessFlags := 16, code := some k14c6 }
def k14c7 : Code := { maxStack := 1, maxLocals := 1, code := jdk_68_method_68_code, exceptionTable := #[], attributes := #[] }
def k14m7 : Method := { name := "isLatin1", desc := "()Z", sig := { parameters := [], returnType := some .boolean }, accessFlags := 16, code := some k14c7 }
def k14c8 : Code := { maxStack := 2, maxLocals := 2, code := jdk_68_method_71_code, exceptionTable := #[], attributes := #[] }
def k14m8 : Method := { name := "inflateIfNeededFor", desc := "(Ljava/lang/String;)V", sig := { parameters := [(.object "java/lang/String")], returnType := none }, accessFlags := 2, code := some k14c8 }
def k14c9 : Code := { maxStack := 4, maxLocals := 3, code := jdk_68_method_73_code, exceptionTable := #[], attributes := #[] }
def k14m9 : Method := { name := "putStringAt", desc := "(ILjava/lang/String;)V", sig := { parameters := [.int, (.object "java/lang/String")], returnType := none }, accessFlags := 2, code := some k14c9 }
/-- java/lang/AbstractStringBuilder -/
def k14 : Class := { plain "java/lang/AbstractStringBuilder" (some 0) with
  accessFlags := 1056
  interfaces := #[13, 4]
  cf := some (fileOf pool14 10 #[] #[{ accessFlags := 0, nameIndex := 7, descriptorIndex := 8, attributes := #[] }, { accessFlags := 0, nameIndex := 7, descriptorIndex := 103, attributes := #[] }, { accessFlags := 1, nameIndex := 34, descriptorIndex := 35, attributes := #[] }, { accessFlags := 2, nameIndex := 102, descriptorIndex := 103, attributes := #[] }, { accessFlags := 1, nameIndex := 45, descriptorIndex := 46, attributes := #[] }, { accessFlags := 1, nameIndex := 45, descriptorIndex := 511, attributes := #[] }, { accessFlags := 16, nameIndex := 552, descriptorIndex := 403, attributes := #[] }, { accessFlags := 16, nameIndex := 85, descriptorIndex := 86, attributes := #[] }, { accessFlags := 2, nameIndex := 217, descriptorIndex := 69, attributes := #[] }, { accessFlags := 2, nameIndex := 210, descriptorIndex := 211, attributes := #[] }] 1056 4 #[444, 48] #[{ accessFlags := 0, nameIndex := 17, descriptorIndex := 14, attributes := #[] }, { accessFlags := 0, nameIndex := 24, descriptorIndex := 25, attributes := #[] }, { accessFlags := 0, nameIndex := 75, descriptorIndex := 21, attributes := #[] }, { accessFlags := 0, nameIndex := 81, descriptorIndex := 82, attributes := #[] }, { accessFlags := 26, nameIndex := 13, descriptorIndex := 14, attributes := #[] }])
  fields := #[{ name := "value", type := (.array .byte), accessFlags := 0, slot := 0, constantValue := 0 }, { name := "coder", type := .byte, accessFlags := 0, slot := 1, constantValue := 0 }, { name := "maybeLatin1", type := .boolean, accessFlags := 0, slot := 2, constantValue := 0 }, { name := "count", type := .int, accessFlags := 0, slot := 3, constantValue := 0 }, { name := "EMPTYVALUE", type := (.array .byte), accessFlags := 26, slot := 0, constantValue := 0 }]
  methods := #[k14m0, k14m1, k14m2, k14m3, k14m4, k14m5, k14m6, k14m7, k14m8, k14m9]
  instanceTypes := #[(.array .byte), .byte, .boolean, .int]
  staticTypes := #[(.array .byte)]
  resolved := Array.replicate 609 none
  statics := none }

def pool15 : Array CpInfo := pool [(1, .methodref 2 3), (0, .class_ 4), (0, .nameAndType 5 6), (0, u "java/lang/AbstractStringBuilder"), (0, u "<init>"), (0, u "(I)V"), (11, .class_ 20), (1, u "java/lang/String"), (3, .class_ 26), (1, u "java/lang/StringBuilder"), (0, u "append"), (0, u "(Ljava/lang/String;)Ljava/lang/StringBuilder;"), (0, .methodref 2 30), (0, .nameAndType 27 31), (0, u "(Ljava/lang/String;)Ljava/lang/AbstractStringBuilder;"), (21, .methodref 2 54), (0, .nameAndType 27 55), (0, u "(I)Ljava/lang/AbstractStringBuilder;"), (81, .methodref 18 138), (0, .nameAndType 5 139), (0, u "(Ljava/lang/StringBuilder;)V"), (5, u "()V"), (10, u "()I"), (111, u "(I)Ljava/lang/StringBuilder;"), (74, .methodref 2 344), (0, .nameAndType 345 156), (0, u "length"), (3, .class_ 350), (0, u "java/lang/Appendable"), (0, .class_ 352), (0, u "java/io/Serializable"), (0, .class_ 354), (0, u "java/lang/Comparable"), (0, .class_ 356), (0, u "java/lang/CharSequence"), (0, u "serialVersionUID"), (0, u "J"), (40, u "toString"), (0, u "()Ljava/lang/String;")] 21

def k15c0 : Code := { maxStack := 2, maxLocals := 1, code := jdk_67_method_1_code, exceptionTable := #[], attributes := #[] }
def k15m0 : Method := { name := "<init>", desc := "()V", sig := { parameters := [], returnType := none }, accessFlags := 1, code := some k15c0 }
def k15c1 : Code := { maxStack := 2, maxLocals := 2, code := jdk_67_method_7_code, exceptionTable := #[], attributes := #[] }
def k15m1 : Method := { name := "append", desc := "(Ljava/lang/String;)Ljava/lang/StringBuilder;", sig := { parameters := [(.object "java/lang/String")], returnType := some (.object "java/lang/StringBuilder") }, accessFlags := 1, code := some k15c1 }
def k15c2 : Code := { maxStack := 2, maxLocals := 2, code := jdk_67_method_15_code, exceptionTable := #[], attributes := #[] }
def k15m2 : Method := { name := "append", desc := "(I)Ljava/lang/StringBuilder;", sig := { parameters := [.int], returnType := some (.object "java/lang/StringBuilder") }, accessFlags := 1, code := some k15c2 }
def k15c3 : Code := { maxStack := 3, maxLocals := 1, code := jdk_67_method_42_code, exceptionTable := #[], attributes := #[] }
def k15m3 : Method := { name := "toString", desc := "()Ljava/lang/String;", sig := { parameters := [], returnType := some (.object "java/lang/String") }, accessFlags := 1, code := some k15c3 }
def k15c4 : Code := { maxStack := 1, maxLocals := 1, code := jdk_67_method_93_code, exceptionTable := #[], attributes := #[] }
def k15m4 : Method := { name := "length", desc := "()I", sig := { parameters := [], returnType := some .int }, accessFlags := 4161, code := some k15c4 }
/-- java/lang/StringBuilder -/
def k15 : Class := { plain "java/lang/StringBuilder" (some 14) with
  accessFlags := 49
  interfaces := #[13, 2, 3, 4]
  cf := some (fileOf pool15 24 #[] #[{ accessFlags := 1, nameIndex := 5, descriptorIndex := 145, attributes := #[] }, { accessFlags := 1, nameIndex := 27, descriptorIndex := 28, attributes := #[] }, { accessFlags := 1, nameIndex := 27, descriptorIndex := 268, attributes := #[] }, { accessFlags := 1, nameIndex := 399, descriptorIndex := 400, attributes := #[] }, { accessFlags := 4161, nameIndex := 345, descriptorIndex := 156, attributes := #[] }] 49 2 #[349, 351, 353, 355] #[{ accessFlags := 24, nameIndex := 357, descriptorIndex := 358, attributes := #[] }])
  fields := #[{ name := "serialVersionUID", type := .long, accessFlags := 24, slot := 0, constantValue := 0 }]
  methods := #[k15m0, k15m1, k15m2, k15m3, k15m4]
  instanceTypes := #[(.array .byte), .byte, .boolean, .int]
  staticTypes := #[.long]
  resolved := Array.replicate 422 none
  statics := none }

def pool16 : Array CpInfo := pool [(2, .class_ 4), (1, u "java/lang/Object"), (0, u "<init>"), (0, u "()V"), (1, .class_ 10), (1, u "java/lang/System"), (0, u "allowSecurityManager"), (0, u "I"), (16, u "cons"), (0, u "Ljava/io/Console;"), (77, .class_ 110), (1, u "java/lang/System$CallersHolder"), (43, u "initialErrStream"), (0, u "Ljava/io/PrintStream;"), (19, u "security"), (0, u "Ljava/lang/SecurityManager;"), (31, .class_ 209), (0, u "java/lang/System$1"), (7, u "props"), (0, u "Ljava/util/Properties;"), (2, u "lineSeparator"), (0, u "Ljava/lang/String;"), (96, .class_ 321), (1, u "java/lang/System$LoggerFinder"), (5, .class_ 328), (0, u "java/lang/System$Logger"), (67, u "err"), (2, u "out"), (91, u "notSupportedJnuEncoding"), (15, u "in"), (17, u "initialIn"), (0, u "Ljava/io/InputStream;"), (35, u "bootLayer"), (0, u "Ljava/lang/ModuleLayer;"), (99, .class_ 664), (0, u "java/lang/System$2"), (9, u "NEVER"), (2, u "MAYBE"), (49, u "arraycopy"), (0, u "(Ljava/lang/Object;ILjava/lang/Object;II)V"), (72, .class_ 802), (0, u "java/lang/System$Logger$Level")] 31

def k16m0 : Method := { name := "<init>", desc := "()V", sig := { parameters := [], returnType := none }, accessFlags := 2, code := none }
def k16m1 : Method := { name := "arraycopy", desc := "(Ljava/lang/Object;ILjava/lang/Object;II)V", sig := { parameters := [(.object "java/lang/Object"), .int, (.object "java/lang/Object"), .int, .int], returnType := none }, accessFlags := 265, code := none }
/-- java/lang/System -/
def k16 : Class := { plain "java/lang/System" (some 0) with
  accessFlags := 49
  interfaces := #[]
  cf := some (fileOf pool16 8 #[.nestMembers #[319, 327, 801, 108, 663, 208]] #[{ accessFlags := 2, nameIndex := 5, descriptorIndex := 6, attributes := #[] }, { accessFlags := 265, nameIndex := 727, descriptorIndex := 728, attributes := #[] }] 49 2 #[] #[{ accessFlags := 25, nameIndex := 507, descriptorIndex := 526, attributes := #[] }, { accessFlags := 25, nameIndex := 399, descriptorIndex := 155, attributes := #[] }, { accessFlags := 25, nameIndex := 396, descriptorIndex := 155, attributes := #[] }, { accessFlags := 10, nameIndex := 525, descriptorIndex := 526, attributes := #[] }, { accessFlags := 26, nameIndex := 674, descriptorIndex := 12, attributes := #[] }, { accessFlags := 26, nameIndex := 677, descriptorIndex := 12, attributes := #[] }, { accessFlags := 10, nameIndex := 11, descriptorIndex := 12, attributes := #[] }, { accessFlags := 74, nameIndex := 175, descriptorIndex := 176, attributes := #[] }, { accessFlags := 10, nameIndex := 491, descriptorIndex := 222, attributes := #[] }, { accessFlags := 74, nameIndex := 29, descriptorIndex := 30, attributes := #[] }, { accessFlags := 74, nameIndex := 154, descriptorIndex := 155, attributes := #[] }, { accessFlags := 10, nameIndex := 217, descriptorIndex := 218, attributes := #[] }, { accessFlags := 10, nameIndex := 221, descriptorIndex := 222, attributes := #[] }, { accessFlags := 8, nameIndex := 562, descriptorIndex := 563, attributes := #[] }])
  fields := #[{ name := "in", type := (.object "java/io/InputStream"), accessFlags := 25, slot := 0, constantValue := 0 }, { name := "out", type := (.object "java/io/PrintStream"), accessFlags := 25, slot := 1, constantValue := 0 }, { name := "err", type := (.object "java/io/PrintStream"), accessFlags := 25, slot := 2, constantValue := 0 }, { name := "initialIn", type := (.object "java/io/InputStream"), accessFlags := 10, slot := 3, constantValue := 0 }, { name := "NEVER", type := .int, accessFlags := 26, slot := 4, constantValue := 0 }, { name := "MAYBE", type := .int, accessFlags := 26, slot := 5, constantValue := 0 }, { name := "allowSecurityManager", type := .int, accessFlags := 10, slot := 6, constantValue := 0 }, { name := "security", type := (.object "java/lang/SecurityManager"), accessFlags := 74, slot := 7, constantValue := 0 }, { name := "notSupportedJnuEncoding", type := (.object "java/lang/String"), accessFlags := 10, slot := 8, constantValue := 0 }, { name := "cons", type := (.object "java/io/Console"), accessFlags := 74, slot := 9, constantValue := 0 }, { name := "initialErrStream", type := (.object "java/io/PrintStream"), accessFlags := 74, slot := 10, constantValue := 0 }, { name := "props", type := (.object "java/util/Properties"), accessFlags := 10, slot := 11, constantValue := 0 }, { name := "lineSeparator", type := (.object "java/lang/String"), accessFlags := 10, slot := 12, constantValue := 0 }, { name := "bootLayer", type := (.object "java/lang/ModuleLayer"), accessFlags := 8, slot := 13, constantValue := 0 }]
  methods := #[k16m0, k16m1]
  instanceTypes := #[]
  staticTypes := #[(.object "java/io/InputStream"), (.object "java/io/PrintStream"), (.object "java/io/PrintStream"), (.object "java/io/InputStream"), .int, .int, .int, (.object "java/lang/SecurityManager"), (.object "java/lang/String"), (.object "java/io/Console"), (.object "java/io/PrintStream"), (.object "java/util/Properties"), (.object "java/lang/String"), (.object "java/lang/ModuleLayer")]
  resolved := Array.replicate 834 none
  statics := none }

def pool17 : Array CpInfo := pool [(2, .class_ 4), (1, u "java/lang/Object"), (0, u "<init>"), (0, u "()V"), (1, .class_ 10), (1, u "java/lang/Number"), (2, .class_ 14), (0, u "java/io/Serializable"), (0, u "serialVersionUID"), (0, u "J")] 20

def k17m0 : Method := { name := "<init>", desc := "()V", sig := { parameters := [], returnType := none }, accessFlags := 1, code := none }
/-- java/lang/Number -/
def k17 : Class := { plain "java/lang/Number" (some 0) with
  accessFlags := 1057
  interfaces := #[2]
  cf := some (fileOf pool17 8 #[] #[{ accessFlags := 1, nameIndex := 5, descriptorIndex := 6, attributes := #[] }] 1057 2 #[13] #[{ accessFlags := 26, nameIndex := 15, descriptorIndex := 16, attributes := #[] }])
  fields := #[{ name := "serialVersionUID", type := .long, accessFlags := 26, slot := 0, constantValue := 0 }]
  methods := #[k17m0]
  instanceTypes := #[]
  staticTypes := #[.long]
  resolved := Array.replicate 37 none
  statics := none }

def pool18 : Array CpInfo := pool [(1, .class_ 2), (0, u "java/lang/Integer"), (16, u "digits"), (0, u "[C"), (33, u "(I)I"), (19, u "stringSize"), (2, u "getChars"), (0, u "(II[B)I"), (4, .fieldref 1 84), (0, .nameAndType 85 86), (0, u "DigitOnes"), (0, u "[B"), (0, .fieldref 1 88), (0, .nameAndType 89 86), (0, u "DigitTens"), (99, .class_ 190), (0, u "java/lang/Integer$IntegerCache"), (3, u "I"), (8, .class_ 204), (0, u "java/lang/Number"), (2, u "value"), (94, u "TYPE"), (0, u "Ljava/lang/Class;"), (0, .class_ 305), (0, u "java/lang/Comparable"), (0, .class_ 307), (0, u "java/lang/constant/Constable"), (0, .class_ 309), (0, u "java/lang/constant/ConstantDesc"), (0, u "MIN_VALUE"), (1, u "MAX_VALUE"), (3, u "SIZE"), (1, u "BYTES"), (1, u "serialVersionUID"), (0, u "J")] 131

def k18c0 : Code := { maxStack := 4, maxLocals := 7, code := jdk_33_method_12_code, exceptionTable := #[], attributes := #[] }
def k18m0 : Method := { name := "getChars", desc := "(II[B)I", sig := { parameters := [.int, .int, (.array .byte)], returnType := some .int }, accessFlags := 8, code := some k18c0 }
def k18c1 : Code := { maxStack := 2, maxLocals := 4, code := jdk_33_method_13_code, exceptionTable := #[], attributes := #[] }
def k18m1 : Method := { name := "stringSize", desc := "(I)I", sig := { parameters := [.int], returnType := some .int }, accessFlags := 8, code := some k18c1 }
/-- java/lang/Integer -/
def k18 : Class := { plain "java/lang/Integer" (some 17) with
  accessFlags := 49
  interfaces := #[3, 5, 6]
  cf := some (fileOf pool18 1 #[.nestMembers #[189]] #[{ accessFlags := 8, nameIndex := 77, descriptorIndex := 78, attributes := #[] }, { accessFlags := 8, nameIndex := 74, descriptorIndex := 54, attributes := #[] }] 49 203 #[304, 306, 308] #[{ accessFlags := 25, nameIndex := 310, descriptorIndex := 194, attributes := #[] }, { accessFlags := 25, nameIndex := 312, descriptorIndex := 194, attributes := #[] }, { accessFlags := 25, nameIndex := 302, descriptorIndex := 303, attributes := #[] }, { accessFlags := 24, nameIndex := 19, descriptorIndex := 20, attributes := #[] }, { accessFlags := 24, nameIndex := 89, descriptorIndex := 86, attributes := #[] }, { accessFlags := 24, nameIndex := 85, descriptorIndex := 86, attributes := #[] }, { accessFlags := 18, nameIndex := 207, descriptorIndex := 194, attributes := #[] }, { accessFlags := 25, nameIndex := 316, descriptorIndex := 194, attributes := #[] }, { accessFlags := 25, nameIndex := 318, descriptorIndex := 194, attributes := #[] }, { accessFlags := 26, nameIndex := 320, descriptorIndex := 321, attributes := #[] }])
  fields := #[{ name := "MIN_VALUE", type := .int, accessFlags := 25, slot := 0, constantValue := 0 }, { name := "MAX_VALUE", type := .int, accessFlags := 25, slot := 1, constantValue := 0 }, { name := "TYPE", type := (.object "java/lang/Class"), accessFlags := 25, slot := 2, constantValue := 0 }, { name := "digits", type := (.array .char), accessFlags := 24, slot := 3, constantValue := 0 }, { name := "DigitTens", type := (.array .byte), accessFlags := 24, slot := 4, constantValue := 0 }, { name := "DigitOnes", type := (.array .byte), accessFlags := 24, slot := 5, constantValue := 0 }, { name := "value", type := .int, accessFlags := 18, slot := 0, constantValue := 0 }, { name := "SIZE", type := .int, accessFlags := 25, slot := 6, constantValue := 0 }, { name := "BYTES", type := .int, accessFlags := 25, slot := 7, constantValue := 0 }, { name := "serialVersionUID", type := .long, accessFlags := 26, slot := 8, constantValue := 0 }]
  methods := #[k18m0, k18m1]
  instanceTypes := #[.int]
  staticTypes := #[.int, .int, (.object "java/lang/Class"), (.array .char), (.array .byte), (.array .byte), .int, .int, .long]
  resolved := Array.replicate 453 none
  statics := some 1 }

def pool19 : Array CpInfo := pool [(2, .class_ 4), (1, u "java/lang/Object"), (0, u "<init>"), (0, u "()V"), (7, .class_ 16), (1, u "java/util/Arrays"), (57, .class_ 76), (1, u "java/util/Arrays$NaturalOrder"), (36, .class_ 115), (1, u "java/util/Arrays$LegacyMergeSort"), (1, u "Z"), (21, u "copyOfRange"), (10, .methodref 151 152), (0, .class_ 153), (0, .nameAndType 154 155), (0, u "java/lang/System"), (0, u "arraycopy"), (0, u "(Ljava/lang/Object;ILjava/lang/Object;II)V"), (148, .methodref 305 306), (0, .class_ 307), (0, .nameAndType 308 309), (0, u "java/lang/Math"), (0, u "min"), (0, u "(II)I"), (29, .methodref 14 340), (0, .nameAndType 341 342), (0, u "copyOfRangeByte"), (0, u "([BII)[B"), (0, .methodref 14 344), (0, .nameAndType 345 346), (0, u "checkLength"), (0, u "(II)V"), (28, .class_ 376), (0, u "java/util/Arrays$ArrayList"), (68, u "$assertionsDisabled"), (269, u "MIN_ARRAY_SORT_GRAN"), (0, u "I"), (2, u "INSERTIONSORT_THRESHOLD"), (255, .class_ 976), (0, u "java/util/Arrays$ArrayItr")] 52

def k19m0 : Method := { name := "<init>", desc := "()V", sig := { parameters := [], returnType := none }, accessFlags := 2, code := none }
def k19c1 : Code := { maxStack := 4, maxLocals := 2, code := jdk_65_method_131_code, exceptionTable := #[], attributes := #[] }
def k19m1 : Method := { name := "checkLength", desc := "(II)V", sig := { parameters := [.int, .int], returnType := none }, accessFlags := 10, code := some k19c1 }
def k19c2 : Code := { maxStack := 3, maxLocals := 3, code := jdk_65_method_132_code, exceptionTable := #[], attributes := #[] }
def k19m2 : Method := { name := "copyOfRange", desc := "([BII)[B", sig := { parameters := [(.array .byte), .int, .int], returnType := some (.array .byte) }, accessFlags := 9, code := some k19c2 }
def k19c3 : Code := { maxStack := 6, maxLocals := 5, code := jdk_65_method_133_code, exceptionTable := #[], attributes := #[] }
def k19m3 : Method := { name := "copyOfRangeByte", desc := "([BII)[B", sig := { parameters := [(.array .byte), .int, .int], returnType := some (.array .byte) }, accessFlags := 10, code := some k19c3 }
/-- java/util/Arrays -/
def k19 : Class := { plain "java/util/Arrays" (some 0) with
  accessFlags := 49
  interfaces := #[]
  cf := some (fileOf pool19 14 #[.nestMembers #[975, 375, 113, 74]] #[{ accessFlags := 2, nameIndex := 5, descriptorIndex := 6, attributes := #[] }, { accessFlags := 10, nameIndex := 345, descriptorIndex := 346, attributes := #[] }, { accessFlags := 9, nameIndex := 139, descriptorIndex := 342, attributes := #[] }, { accessFlags := 10, nameIndex := 341, descriptorIndex := 342, attributes := #[] }] 49 2 #[] #[{ accessFlags := 26, nameIndex := 715, descriptorIndex := 716, attributes := #[] }, { accessFlags := 26, nameIndex := 719, descriptorIndex := 716, attributes := #[] }, { accessFlags := 4120, nameIndex := 445, descriptorIndex := 117, attributes := #[] }])
  fields := #[{ name := "MIN_ARRAY_SORT_GRAN", type := .int, accessFlags := 26, slot := 0, constantValue := 0 }, { name := "INSERTIONSORT_THRESHOLD", type := .int, accessFlags := 26, slot := 1, constantValue := 0 }, { name := "$assertionsDisabled", type := .boolean, accessFlags := 4120, slot := 2, constantValue := 0 }]
  methods := #[k19m0, k19m1, k19m2, k19m3]
  instanceTypes := #[]
  staticTypes := #[.int, .int, .boolean]
  resolved := Array.replicate 1029 none
  statics := none }

def pool20 : Array CpInfo := pool [(1, .class_ 2), (0, u "java/lang/Math"), (1, .class_ 6), (1, u "java/lang/Object"), (0, u "<init>"), (0, u "()V"), (89, .class_ 100), (1, u "java/lang/Math$RandomNumberGeneratorHolder"), (71, u "negativeZeroFloatBits"), (0, u "J"), (2, u "negativeZeroDoubleBits"), (24, u "min"), (43, u "$assertionsDisabled"), (0, u "Z"), (88, u "(II)I"), (2, u "twoToTheDoubleScaleDown"), (0, u "D"), (4, u "twoToTheDoubleScaleUp"), (9, u "E"), (3, u "PI"), (2, u "TAU"), (2, u "DEGREES_TO_RADIANS"), (0, u "RADIANS_TO_DEGREES")] 94

def k20m0 : Method := { name := "<init>", desc := "()V", sig := { parameters := [], returnType := none }, accessFlags := 2, code := none }
def k20c1 : Code := { maxStack := 2, maxLocals := 2, code := jdk_29_method_69_code, exceptionTable := #[], attributes := #[] }
def k20m1 : Method := { name := "min", desc := "(II)I", sig := { parameters := [.int, .int], returnType := some .int }, accessFlags := 9, code := some k20c1 }
/-- java/lang/Math -/
def k20 : Class := { plain "java/lang/Math" (some 0) with
  accessFlags := 49
  interfaces := #[]
  cf := some (fileOf pool20 1 #[.nestMembers #[98]] #[{ accessFlags := 2, nameIndex := 7, descriptorIndex := 8, attributes := #[] }, { accessFlags := 9, nameIndex := 201, descriptorIndex := 335, attributes := #[] }] 49 4 #[] #[{ accessFlags := 25, nameIndex := 354, descriptorIndex := 339, attributes := #[] }, { accessFlags := 25, nameIndex := 358, descriptorIndex := 339, attributes := #[] }, { accessFlags := 25, nameIndex := 361, descriptorIndex := 339, attributes := #[] }, { accessFlags := 26, nameIndex := 364, descriptorIndex := 339, attributes := #[] }, { accessFlags := 26, nameIndex := 365, descriptorIndex := 339, attributes := #[] }, { accessFlags := 26, nameIndex := 172, descriptorIndex := 173, attributes := #[] }, { accessFlags := 26, nameIndex := 176, descriptorIndex := 173, attributes := #[] }, { accessFlags := 8, nameIndex := 344, descriptorIndex := 339, attributes := #[] }, { accessFlags := 8, nameIndex := 338, descriptorIndex := 339, attributes := #[] }, { accessFlags := 4120, nameIndex := 245, descriptorIndex := 246, attributes := #[] }])
  fields := #[{ name := "E", type := .double, accessFlags := 25, slot := 0, constantValue := 0 }, { name := "PI", type := .double, accessFlags := 25, slot := 1, constantValue := 0 }, { name := "TAU", type := .double, accessFlags := 25, slot := 2, constantValue := 0 }, { name := "DEGREES_TO_RADIANS", type := .double, accessFlags := 26, slot := 3, constantValue := 0 }, { name := "RADIANS_TO_DEGREES", type := .double, accessFlags := 26, slot := 4, constantValue := 0 }, { name := "negativeZeroFloatBits", type := .long, accessFlags := 26, slot := 5, constantValue := 0 }, { name := "negativeZeroDoubleBits", type := .long, accessFlags := 26, slot := 6, constantValue := 0 }, { name := "twoToTheDoubleScaleUp", type := .double, accessFlags := 8, slot := 7, constantValue := 0 }, { name := "twoToTheDoubleScaleDown", type := .double, accessFlags := 8, slot := 8, constantValue := 0 }, { name := "$assertionsDisabled", type := .boolean, accessFlags := 4120, slot := 9, constantValue := 0 }]
  methods := #[k20m0, k20m1]
  instanceTypes := #[]
  staticTypes := #[.double, .double, .double, .double, .double, .long, .long, .double, .double, .boolean]
  resolved := Array.replicate 460 none
  statics := none }

def pool21 : Array CpInfo := pool [(2, .class_ 4), (1, u "java/lang/Object"), (0, u "<init>"), (0, u "()V"), (17, .class_ 26), (1, u "jdk/internal/util/Preconditions"), (6, u "checkIndex"), (21, .class_ 56), (0, u "jdk/internal/util/Preconditions$4"), (57, .class_ 115), (0, u "jdk/internal/util/Preconditions$1"), (7, u "SIOOBE_FORMATTER"), (0, u "Ljava/util/function/BiFunction;"), (0, .class_ 126), (0, u "jdk/internal/util/Preconditions$2"), (3, u "AIOOBE_FORMATTER"), (0, .class_ 132), (0, u "jdk/internal/util/Preconditions$3"), (3, u "IOOBE_FORMATTER"), (41, u "(IILjava/util/function/BiFunction;)I")] 15

def k21m0 : Method := { name := "<init>", desc := "()V", sig := { parameters := [], returnType := none }, accessFlags := 1, code := none }
def k21c1 : Code := { maxStack := 3, maxLocals := 3, code := jdk_41_method_11_code, exceptionTable := #[], attributes := #[] }
def k21m1 : Method := { name := "checkIndex", desc := "(IILjava/util/function/BiFunction;)I", sig := { parameters := [.int, .int, (.object "java/util/function/BiFunction")], returnType := some .int }, accessFlags := 9, code := some k21c1 }
/-- jdk/internal/util/Preconditions -/
def k21 : Class := { plain "jdk/internal/util/Preconditions" (some 0) with
  accessFlags := 33
  interfaces := #[]
  cf := some (fileOf pool21 24 #[.nestMembers #[55, 131, 125, 114]] #[{ accessFlags := 1, nameIndex := 5, descriptorIndex := 6, attributes := #[] }, { accessFlags := 9, nameIndex := 33, descriptorIndex := 178, attributes := #[] }] 33 2 #[] #[{ accessFlags := 25, nameIndex := 123, descriptorIndex := 124, attributes := #[] }, { accessFlags := 25, nameIndex := 130, descriptorIndex := 124, attributes := #[] }, { accessFlags := 25, nameIndex := 136, descriptorIndex := 124, attributes := #[] }])
  fields := #[{ name := "SIOOBE_FORMATTER", type := (.object "java/util/function/BiFunction"), accessFlags := 25, slot := 0, constantValue := 0 }, { name := "AIOOBE_FORMATTER", type := (.object "java/util/function/BiFunction"), accessFlags := 25, slot := 1, constantValue := 0 }, { name := "IOOBE_FORMATTER", type := (.object "java/util/function/BiFunction"), accessFlags := 25, slot := 2, constantValue := 0 }]
  methods := #[k21m0, k21m1]
  instanceTypes := #[]
  staticTypes := #[(.object "java/util/function/BiFunction"), (.object "java/util/function/BiFunction"), (.object "java/util/function/BiFunction")]
  resolved := Array.replicate 194 none
  statics := some 2 }

def pool22 : Array CpInfo := pool [(9, u "<init>"), (6, .class_ 18), (1, u "java/lang/Object"), (0, u "()V"), (1, .class_ 23), (1, u "jdk/internal/util/ArraysSupport"), (0, u "LOG2_ARRAY_LONG_INDEX_SCALE"), (0, u "I"), (2, u "U"), (0, u "Ljdk/internal/misc/Unsafe;"), (8, u "BIG_ENDIAN"), (0, u "Z"), (8, u "LOG2_BYTE_BIT_SIZE"), (4, u "LOG2_ARRAY_INT_INDEX_SCALE"), (54, u "JLA"), (0, u "Ljdk/internal/access/JavaLangAccess;"), (11, u "LOG2_ARRAY_BOOLEAN_INDEX_SCALE"), (9, u "LOG2_ARRAY_BYTE_INDEX_SCALE"), (5, u "LOG2_ARRAY_CHAR_INDEX_SCALE"), (5, u "LOG2_ARRAY_SHORT_INDEX_SCALE"), (18, u "LOG2_ARRAY_FLOAT_INDEX_SCALE"), (24, u "LOG2_ARRAY_DOUBLE_INDEX_SCALE"), (89, u "T_BOOLEAN"), (2, u "T_CHAR"), (1, u "T_FLOAT"), (1, u "T_DOUBLE"), (1, u "T_BYTE"), (1, u "T_SHORT"), (1, u "T_INT"), (1, u "T_LONG"), (1, u "SOFT_MAX_ARRAY_LENGTH")] 83

def k22m0 : Method := { name := "<init>", desc := "()V", sig := { parameters := [], returnType := none }, accessFlags := 2, code := none }
/-- jdk/internal/util/ArraysSupport -/
def k22 : Class := { plain "jdk/internal/util/ArraysSupport" (some 0) with
  accessFlags := 33
  interfaces := #[]
  cf := some (fileOf pool22 21 #[] #[{ accessFlags := 2, nameIndex := 9, descriptorIndex := 19, attributes := #[] }] 33 16 #[] #[{ accessFlags := 24, nameIndex := 28, descriptorIndex := 29, attributes := #[] }, { accessFlags := 26, nameIndex := 38, descriptorIndex := 39, attributes := #[] }, { accessFlags := 25, nameIndex := 121, descriptorIndex := 25, attributes := #[] }, { accessFlags := 25, nameIndex := 131, descriptorIndex := 25, attributes := #[] }, { accessFlags := 25, nameIndex := 137, descriptorIndex := 25, attributes := #[] }, { accessFlags := 25, nameIndex := 143, descriptorIndex := 25, attributes := #[] }, { accessFlags := 25, nameIndex := 53, descriptorIndex := 25, attributes := #[] }, { accessFlags := 25, nameIndex := 24, descriptorIndex := 25, attributes := #[] }, { accessFlags := 25, nameIndex := 162, descriptorIndex := 25, attributes := #[] }, { accessFlags := 25, nameIndex := 187, descriptorIndex := 25, attributes := #[] }, { accessFlags := 26, nameIndex := 48, descriptorIndex := 25, attributes := #[] }, { accessFlags := 25, nameIndex := 277, descriptorIndex := 25, attributes := #[] }, { accessFlags := 25, nameIndex := 280, descriptorIndex := 25, attributes := #[] }, { accessFlags := 25, nameIndex := 282, descriptorIndex := 25, attributes := #[] }, { accessFlags := 25, nameIndex := 284, descriptorIndex := 25, attributes := #[] }, { accessFlags := 25, nameIndex := 286, descriptorIndex := 25, attributes := #[] }, { accessFlags := 25, nameIndex := 288, descriptorIndex := 25, attributes := #[] }, { accessFlags := 25, nameIndex := 290, descriptorIndex := 25, attributes := #[] }, { accessFlags := 25, nameIndex := 292, descriptorIndex := 25, attributes := #[] }, { accessFlags := 26, nameIndex := 108, descriptorIndex := 109, attributes := #[] }, { accessFlags := 25, nameIndex := 294, descriptorIndex := 25, attributes := #[] }])
  fields := #[{ name := "U", type := (.object "jdk/internal/misc/Unsafe"), accessFlags := 24, slot := 0, constantValue := 0 }, { name := "BIG_ENDIAN", type := .boolean, accessFlags := 26, slot := 1, constantValue := 0 }, { name := "LOG2_ARRAY_BOOLEAN_INDEX_SCALE", type := .int, accessFlags := 25, slot := 2, constantValue := 0 }, { name := "LOG2_ARRAY_BYTE_INDEX_SCALE", type := .int, accessFlags := 25, slot := 3, constantValue := 0 }, { name := "LOG2_ARRAY_CHAR_INDEX_SCALE", type := .int, accessFlags := 25, slot := 4, constantValue := 0 }, { name := "LOG2_ARRAY_SHORT_INDEX_SCALE", type := .int, accessFlags := 25, slot := 5, constantValue := 0 }, { name := "LOG2_ARRAY_INT_INDEX_SCALE", type := .int, accessFlags := 25, slot := 6, constantValue := 0 }, { name := "LOG2_ARRAY_LONG_INDEX_SCALE", type := .int, accessFlags := 25, slot := 7, constantValue := 0 }, { name := "LOG2_ARRAY_FLOAT_INDEX_SCALE", type := .int, accessFlags := 25, slot := 8, constantValue := 0 }, { name := "LOG2_ARRAY_DOUBLE_INDEX_SCALE", type := .int, accessFlags := 25, slot := 9, constantValue := 0 }, { name := "LOG2_BYTE_BIT_SIZE", type := .int, accessFlags := 26, slot := 10, constantValue := 0 }, { name := "T_BOOLEAN", type := .int, accessFlags := 25, slot := 11, constantValue := 0 }, { name := "T_CHAR", type := .int, accessFlags := 25, slot := 12, constantValue := 0 }, { name := "T_FLOAT", type := .int, accessFlags := 25, slot := 13, constantValue := 0 }, { name := "T_DOUBLE", type := .int, accessFlags := 25, slot := 14, constantValue := 0 }, { name := "T_BYTE", type := .int, accessFlags := 25, slot := 15, constantValue := 0 }, { name := "T_SHORT", type := .int, accessFlags := 25, slot := 16, constantValue := 0 }, { name := "T_INT", type := .int, accessFlags := 25, slot := 17, constantValue := 0 }, { name := "T_LONG", type := .int, accessFlags := 25, slot := 18, constantValue := 0 }, { name := "JLA", type := (.object "jdk/internal/access/JavaLangAccess"), accessFlags := 26, slot := 19, constantValue := 0 }, { name := "SOFT_MAX_ARRAY_LENGTH", type := .int, accessFlags := 25, slot := 20, constantValue := 0 }]
  methods := #[k22m0]
  instanceTypes := #[]
  staticTypes := #[(.object "jdk/internal/misc/Unsafe"), .boolean, .int, .int, .int, .int, .int, .int, .int, .int, .int, .int, .int, .int, .int, .int, .int, .int, .int, (.object "jdk/internal/access/JavaLangAccess"), .int]
  resolved := Array.replicate 378 none
  statics := none }

def pool23 : Array CpInfo := pool [(1, u "java/lang/Cloneable"), (0, .class_ 1), (0, u "java/lang/Object"), (0, .class_ 3)] 3

/-- java/lang/Cloneable -/
def k23 : Class := { plain "java/lang/Cloneable" (some 0) with
  accessFlags := 1537
  interfaces := #[]
  cf := some (fileOf pool23 2 #[] #[] 1537 4 #[] #[])
  fields := #[]
  methods := #[]
  instanceTypes := #[]
  staticTypes := #[]
  resolved := Array.replicate 8 none
  statics := none }

/-- the primitive byte -/
def k24 : Class := { plain "byte" none with kind := .primitive 'B', accessFlags := 0x411 }
/-- [B -/
def k25 : Class := { plain "[B" (some 0) with kind := .array 24 .byte, interfaces := #[23, 2], accessFlags := 1041 }

/-- the primitive char -/
def k26 : Class := { plain "char" none with kind := .primitive 'C', accessFlags := 0x411 }
/-- [C -/
def k27 : Class := { plain "[C" (some 0) with kind := .array 26 .char, interfaces := #[23, 2], accessFlags := 1041 }

/-- the primitive int -/
def k28 : Class := { plain "int" none with kind := .primitive 'I', accessFlags := 0x411 }
/-- [I -/
def k29 : Class := { plain "[I" (some 0) with kind := .array 28 .int, interfaces := #[23, 2], accessFlags := 1041 }

def heap : Heap := #[{ cls := 7, slots := #[.long 0, .int 1, .null, .int 0, .null, .int 0, .int 0], vm := .statics 7 },
  { cls := 18, slots := #[.int 0, .int 0, .null, .null, .ref 4, .ref 3, .int 0, .int 0, .long 0], vm := .statics 18 },
  { cls := 21, slots := #[.null, .null, .null], vm := .statics 21 },
  { cls := 25, slots := #[.int 48, .int 49, .int 50, .int 51, .int 52, .int 53, .int 54, .int 55, .int 56, .int 57, .int 48, .int 49, .int 50, .int 51, .int 52, .int 53, .int 54, .int 55, .int 56, .int 57, .int 48, .int 49, .int 50, .int 51, .int 52, .int 53, .int 54, .int 55, .int 56, .int 57, .int 48, .int 49, .int 50, .int 51, .int 52, .int 53, .int 54, .int 55, .int 56, .int 57, .int 48, .int 49, .int 50, .int 51, .int 52, .int 53, .int 54, .int 55, .int 56, .int 57, .int 48, .int 49, .int 50, .int 51, .int 52, .int 53, .int 54, .int 55, .int 56, .int 57, .int 48, .int 49, .int 50, .int 51, .int 52, .int 53, .int 54, .int 55, .int 56, .int 57, .int 48, .int 49, .int 50, .int 51, .int 52, .int 53, .int 54, .int 55, .int 56, .int 57, .int 48, .int 49, .int 50, .int 51, .int 52, .int 53, .int 54, .int 55, .int 56, .int 57, .int 48, .int 49, .int 50, .int 51, .int 52, .int 53, .int 54, .int 55, .int 56, .int 57], vm := .none },
  { cls := 25, slots := #[.int 48, .int 48, .int 48, .int 48, .int 48, .int 48, .int 48, .int 48, .int 48, .int 48, .int 49, .int 49, .int 49, .int 49, .int 49, .int 49, .int 49, .int 49, .int 49, .int 49, .int 50, .int 50, .int 50, .int 50, .int 50, .int 50, .int 50, .int 50, .int 50, .int 50, .int 51, .int 51, .int 51, .int 51, .int 51, .int 51, .int 51, .int 51, .int 51, .int 51, .int 52, .int 52, .int 52, .int 52, .int 52, .int 52, .int 52, .int 52, .int 52, .int 52, .int 53, .int 53, .int 53, .int 53, .int 53, .int 53, .int 53, .int 53, .int 53, .int 53, .int 54, .int 54, .int 54, .int 54, .int 54, .int 54, .int 54, .int 54, .int 54, .int 54, .int 55, .int 55, .int 55, .int 55, .int 55, .int 55, .int 55, .int 55, .int 55, .int 55, .int 56, .int 56, .int 56, .int 56, .int 56, .int 56, .int 56, .int 56, .int 56, .int 56, .int 57, .int 57, .int 57, .int 57, .int 57, .int 57, .int 57, .int 57, .int 57, .int 57], vm := .none }]
def classes : Array Class := #[k0, k1, k2, k3, k4, k5, k6, k7, k8, k9, k10, k11, k12, k13, k14, k15, k16, k17, k18, k19, k20, k21, k22, k23, k24, k25, k26, k27, k28, k29]
def interned : List (Array UInt16 × Addr) := []
def slotsUsed : Nat := 219
def theMethod : MethodId := ⟨1, 3⟩
def args0 : Array Value := #[.int 1, .int 65, .int 66, .int 67, .int 68, .int 80]
def aboutOver (below : List Frame) : State where
  vm := { classes := classes, interned := interned.toArray }
  heap := heap
  slotsUsed := slotsUsed
  threads := #[{ frames := .invoking theMethod args0 :: below }]
def below0 : List Frame := [.native { method := ⟨0, 0⟩, args := #[] }]
def about1 : State := aboutOver below0
def p0 : Program := .bare "" "" ""
def e0 : Env := launch0.env 0 0 0
theorem w_frames : about1.frames = Frame.invoking theMethod args0 :: below0 := rfl
set_option maxRecDepth 65536 in
theorem w_args : argsFit about1.vm theMethod args0 = true := by decide +kernel
set_option maxRecDepth 65536 in
theorem w_heap : heapFits about1 = true := by decide +kernel
set_option maxRecDepth 65536 in
theorem w_runnable : about1.curStatus? = some .runnable := by decide +kernel
set_option maxRecDepth 65536 in
theorem w_alone : about1.alone = true := by decide +kernel
set_option maxRecDepth 65536 in
theorem w_named : about1.methodNamed? x = some theMethod := by decide +kernel
set_option maxRecDepth 65536 in
theorem w_hears : about1.hears theMethod below0 = true := by decide +kernel
set_option maxRecDepth 65536 in
theorem w_ripe : about1.ripe theMethod args0 below0 = true := by decide +kernel
theorem w_running : about1.status = .running := rfl
set_option maxRecDepth 65536 in
theorem w_room : about1.hasRoom e0.platform room_1 = true :=
  launch0.hasRoom_least _ room_1 (by decide +kernel) (by decide +kernel) (by decide +kernel) (by decide +kernel) (by decide +kernel) (by decide +kernel)
theorem allAtoms_all (ts : List Jvm.Cond) (a : Array Jvm.Value) (st : Jvm.State) : (allAtoms ts).before a st = ts.all (fun c => c.before a st) := by
  induction ts with
  | nil => rfl
  | cons c t ih =>
    show (Jvm.Cond.and c (allAtoms t)).before a st = _
    rw [Jvm.Cond.before_and, ih, List.all_cons]
def words1 : List Jvm.Cond := Jvm.Cond.code x code maxLocals ret :: tables_1
/-- a 'code' word, met by the world's own term for the bytes: nothing is compared byte by byte -/
theorem code_word {y : MethodName} {bytes : ByteArray} {mx : Nat} {rt : Option FieldType} {a : Array Value} {s : State} {m : MethodId} {meth : Method} {c : Code} (h1 : s.methodNamed? y = some m) (h2 : s.vm.method? m = some meth) (h3 : meth.code = some c) (h4 : c.code = bytes)
    (h5 : (c.maxLocals == mx && c.exceptionTable.isEmpty && decide (c.maxStack ≤ mostOperands) && decide (meth.sig.returnType = rt) && !meth.locks && decide (parseMethodDescriptor y.desc = some meth.sig)) = true) : (Jvm.Cond.code y bytes mx rt).before a s = true := by
  simp only [Bool.and_eq_true, beq_iff_eq, Bool.not_eq_true', decide_eq_true_eq] at h5
  obtain ⟨⟨⟨⟨⟨g1, g2⟩, g3⟩, g4⟩, g5⟩, g6⟩ := h5
  simp [Cond.before, Cond.holds, Cond.value, h1, h2, h3, h4, g1, g2, g3, g4, g5, g6]
def isCode : Jvm.Cond → Bool
  | .code _ _ _ _ => true
  | _ => false
theorem all_split {L : List Jvm.Cond} {P : Jvm.Cond → Bool} (h1 : L.all (fun c => isCode c || P c) = true) (h2 : ∀ c ∈ L.filter isCode, P c = true) : L.all P = true := by
  refine List.all_eq_true.mpr fun c hc => ?_
  have h := List.all_eq_true.mp h1 c hc
  rcases Bool.eq_false_or_eq_true (isCode c) with hi | hi
  · exact h2 c (List.mem_filter.mpr ⟨hc, hi⟩)
  · simpa [hi] using h
set_option maxRecDepth 65536 in
theorem w_c0 : (Jvm.Cond.code x code maxLocals ret).before args0 about1 = true := code_word (m := ⟨1, 3⟩) (meth := k1m3) (c := k1c3) (by decide +kernel) rfl rfl rfl (by decide +kernel)
set_option maxRecDepth 65536 in
theorem w_c1 : (Jvm.Cond.code ({ cls := "com/example/redelivery/redelivery/settings/ListenAddressToStringPinLaw", name := "ch", desc := "(I)C" } : Jvm.MethodName) method_2_code (1 : Nat) (Option.some Jvm.ClassFile.FieldType.char)).before args0 about1 = true := code_word (m := ⟨1, 1⟩) (meth := k1m1) (c := k1c1) (by decide +kernel) rfl rfl rfl (by decide +kernel)
set_option maxRecDepth 65536 in
theorem w_c2 : (Jvm.Cond.code ({ cls := "java/lang/String", name := "<init>", desc := "([C)V" } : Jvm.MethodName) jdk_42_method_3_code (2 : Nat) (Option.none : Option Jvm.ClassFile.FieldType)).before args0 about1 = true := code_word (m := ⟨7, 1⟩) (meth := k7m1) (c := k7c1) (by decide +kernel) rfl rfl rfl (by decide +kernel)
set_option maxRecDepth 65536 in
theorem w_c3 : (Jvm.Cond.code ({ cls := "java/lang/String", name := "<init>", desc := "([CIILjava/lang/Void;)V" } : Jvm.MethodName) jdk_42_method_149_code (6 : Nat) (Option.none : Option Jvm.ClassFile.FieldType)).before args0 about1 = true := code_word (m := ⟨7, 10⟩) (meth := k7m10) (c := k7c10) (by decide +kernel) rfl rfl rfl (by decide +kernel)
set_option maxRecDepth 65536 in
theorem w_c4 : (Jvm.Cond.code ({ cls := "java/lang/Object", name := "<init>", desc := "()V" } : Jvm.MethodName) object_method_1_code (1 : Nat) (Option.none : Option Jvm.ClassFile.FieldType)).before args0 about1 = true := code_word (m := ⟨0, 0⟩) (meth := k0m0) (c := k0c0) (by decide +kernel) rfl rfl rfl (by decide +kernel)
set_option maxRecDepth 65536 in
theorem w_c5 : (Jvm.Cond.code ({ cls := "java/lang/StringUTF16", name := "compress", desc := "([CII)[B" } : Jvm.MethodName) jdk_52_method_16_code (6 : Nat) (Option.some (Jvm.ClassFile.FieldType.array Jvm.ClassFile.FieldType.byte))).before args0 about1 = true := code_word (m := ⟨8, 2⟩) (meth := k8m2) (c := k8c2) (by decide +kernel) rfl rfl rfl (by decide +kernel)
set_option maxRecDepth 65536 in
theorem w_c6 : (Jvm.Cond.code ({ cls := "java/lang/StringUTF16", name := "compress", desc := "([CI[BII)I" } : Jvm.MethodName) jdk_52_method_21_code (7 : Nat) (Option.some Jvm.ClassFile.FieldType.int)).before args0 about1 = true := code_word (m := ⟨8, 3⟩) (meth := k8m3) (c := k8c3) (by decide +kernel) rfl rfl rfl (by decide +kernel)
set_option maxRecDepth 65536 in
theorem w_c7 : (Jvm.Cond.code ({ cls := "java/lang/StringUTF16", name := "coderFromArrayLen", desc := "([BI)B" } : Jvm.MethodName) jdk_52_method_15_code (2 : Nat) (Option.some Jvm.ClassFile.FieldType.byte)).before args0 about1 = true := code_word (m := ⟨8, 1⟩) (meth := k8m1) (c := k8c1) (by decide +kernel) rfl rfl rfl (by decide +kernel)
set_option maxRecDepth 65536 in
theorem w_c8 : (Jvm.Cond.code ({ cls := "com/example/redelivery/redelivery/settings/ListenAddress", name := "<init>", desc := "(Ljava/lang/String;I)V" } : Jvm.MethodName) prog_12_method_1_code (3 : Nat) (Option.none : Option Jvm.ClassFile.FieldType)).before args0 about1 = true := code_word (m := ⟨10, 0⟩) (meth := k10m0) (c := k10c0) (by decide +kernel) rfl rfl rfl (by decide +kernel)
set_option maxRecDepth 65536 in
theorem w_c9 : (Jvm.Cond.code ({ cls := "java/lang/Record", name := "<init>", desc := "()V" } : Jvm.MethodName) jdk_30_method_1_code (1 : Nat) (Option.none : Option Jvm.ClassFile.FieldType)).before args0 about1 = true := code_word (m := ⟨9, 0⟩) (meth := k9m0) (c := k9c0) (by decide +kernel) rfl rfl rfl (by decide +kernel)
set_option maxRecDepth 65536 in
theorem w_c10 : (Jvm.Cond.code ({ cls := "java/util/Objects", name := "requireNonNull", desc := "(Ljava/lang/Object;Ljava/lang/String;)Ljava/lang/Object;" } : Jvm.MethodName) jdk_31_method_11_code (2 : Nat) (Option.some (Jvm.ClassFile.FieldType.object "java/lang/Object"))).before args0 about1 = true := code_word (m := ⟨11, 1⟩) (meth := k11m1) (c := k11c1) (by decide +kernel) rfl rfl rfl (by decide +kernel)
set_option maxRecDepth 65536 in
theorem w_c11 : (Jvm.Cond.code ({ cls := "java/lang/String", name := "isEmpty", desc := "()Z" } : Jvm.MethodName) jdk_42_method_55_code (1 : Nat) (Option.some Jvm.ClassFile.FieldType.boolean)).before args0 about1 = true := code_word (m := ⟨7, 4⟩) (meth := k7m4) (c := k7c4) (by decide +kernel) rfl rfl rfl (by decide +kernel)
set_option maxRecDepth 65536 in
theorem w_c12 : (Jvm.Cond.code ({ cls := "com/example/redelivery/redelivery/settings/ListenAddress", name := "toString", desc := "()Ljava/lang/String;" } : Jvm.MethodName) prog_12_method_3_code (2 : Nat) (Option.some (Jvm.ClassFile.FieldType.object "java/lang/String"))).before args0 about1 = true := code_word (m := ⟨10, 1⟩) (meth := k10m1) (c := k10c1) (by decide +kernel) rfl rfl rfl (by decide +kernel)
set_option maxRecDepth 65536 in
theorem w_c13 : (Jvm.Cond.code ({ cls := "java/lang/String", name := "contains", desc := "(Ljava/lang/CharSequence;)Z" } : Jvm.MethodName) jdk_42_method_97_code (2 : Nat) (Option.some Jvm.ClassFile.FieldType.boolean)).before args0 about1 = true := code_word (m := ⟨7, 7⟩) (meth := k7m7) (c := k7c7) (by decide +kernel) rfl rfl rfl (by decide +kernel)
set_option maxRecDepth 65536 in
theorem w_c14 : (Jvm.Cond.code ({ cls := "java/lang/String", name := "toString", desc := "()Ljava/lang/String;" } : Jvm.MethodName) jdk_42_method_126_code (1 : Nat) (Option.some (Jvm.ClassFile.FieldType.object "java/lang/String"))).before args0 about1 = true := code_word (m := ⟨7, 8⟩) (meth := k7m8) (c := k7c8) (by decide +kernel) rfl rfl rfl (by decide +kernel)
set_option maxRecDepth 65536 in
theorem w_c15 : (Jvm.Cond.code ({ cls := "java/lang/String", name := "indexOf", desc := "(Ljava/lang/String;)I" } : Jvm.MethodName) jdk_42_method_84_code (3 : Nat) (Option.some Jvm.ClassFile.FieldType.int)).before args0 about1 = true := code_word (m := ⟨7, 6⟩) (meth := k7m6) (c := k7c6) (by decide +kernel) rfl rfl rfl (by decide +kernel)
set_option maxRecDepth 65536 in
theorem w_c16 : (Jvm.Cond.code ({ cls := "java/lang/String", name := "coder", desc := "()B" } : Jvm.MethodName) jdk_42_method_152_code (1 : Nat) (Option.some Jvm.ClassFile.FieldType.byte)).before args0 about1 = true := code_word (m := ⟨7, 12⟩) (meth := k7m12) (c := k7c12) (by decide +kernel) rfl rfl rfl (by decide +kernel)
set_option maxRecDepth 65536 in
theorem w_c17 : (Jvm.Cond.code ({ cls := "java/lang/String", name := "isLatin1", desc := "()Z" } : Jvm.MethodName) jdk_42_method_154_code (1 : Nat) (Option.some Jvm.ClassFile.FieldType.boolean)).before args0 about1 = true := code_word (m := ⟨7, 13⟩) (meth := k7m13) (c := k7c13) (by decide +kernel) rfl rfl rfl (by decide +kernel)
set_option maxRecDepth 65536 in
theorem w_c18 : (Jvm.Cond.code ({ cls := "java/lang/StringLatin1", name := "indexOf", desc := "([B[B)I" } : Jvm.MethodName) jdk_43_method_24_code (2 : Nat) (Option.some Jvm.ClassFile.FieldType.int)).before args0 about1 = true := code_word (m := ⟨12, 2⟩) (meth := k12m2) (c := k12c2) (by decide +kernel) rfl rfl rfl (by decide +kernel)
set_option maxRecDepth 65536 in
theorem w_c19 : (Jvm.Cond.code ({ cls := "java/lang/StringLatin1", name := "indexOf", desc := "([BI[BII)I" } : Jvm.MethodName) jdk_43_method_25_code (11 : Nat) (Option.some Jvm.ClassFile.FieldType.int)).before args0 about1 = true := code_word (m := ⟨12, 3⟩) (meth := k12m3) (c := k12c3) (by decide +kernel) rfl rfl rfl (by decide +kernel)
set_option maxRecDepth 65536 in
theorem w_c20 : (Jvm.Cond.code ({ cls := "java/lang/StringBuilder", name := "<init>", desc := "()V" } : Jvm.MethodName) jdk_67_method_1_code (1 : Nat) (Option.none : Option Jvm.ClassFile.FieldType)).before args0 about1 = true := code_word (m := ⟨15, 0⟩) (meth := k15m0) (c := k15c0) (by decide +kernel) rfl rfl rfl (by decide +kernel)
set_option maxRecDepth 65536 in
theorem w_c21 : (Jvm.Cond.code ({ cls := "java/lang/AbstractStringBuilder", name := "<init>", desc := "(I)V" } : Jvm.MethodName) jdk_68_method_2_code (2 : Nat) (Option.none : Option Jvm.ClassFile.FieldType)).before args0 about1 = true := code_word (m := ⟨14, 1⟩) (meth := k14m1) (c := k14c1) (by decide +kernel) rfl rfl rfl (by decide +kernel)
set_option maxRecDepth 65536 in
theorem w_c22 : (Jvm.Cond.code ({ cls := "java/lang/StringBuilder", name := "append", desc := "(Ljava/lang/String;)Ljava/lang/StringBuilder;" } : Jvm.MethodName) jdk_67_method_7_code (2 : Nat) (Option.some (Jvm.ClassFile.FieldType.object "java/lang/StringBuilder"))).before args0 about1 = true := code_word (m := ⟨15, 1⟩) (meth := k15m1) (c := k15c1) (by decide +kernel) rfl rfl rfl (by decide +kernel)
set_option maxRecDepth 65536 in
theorem w_c23 : (Jvm.Cond.code ({ cls := "java/lang/AbstractStringBuilder", name := "append", desc := "(Ljava/lang/String;)Ljava/lang/AbstractStringBuilder;" } : Jvm.MethodName) jdk_68_method_22_code (3 : Nat) (Option.some (Jvm.ClassFile.FieldType.object "java/lang/AbstractStringBuilder"))).before args0 about1 = true := code_word (m := ⟨14, 4⟩) (meth := k14m4) (c := k14c4) (by decide +kernel) rfl rfl rfl (by decide +kernel)
set_option maxRecDepth 65536 in
theorem w_c24 : (Jvm.Cond.code ({ cls := "java/lang/String", name := "length", desc := "()I" } : Jvm.MethodName) jdk_42_method_54_code (1 : Nat) (Option.some Jvm.ClassFile.FieldType.int)).before args0 about1 = true := code_word (m := ⟨7, 3⟩) (meth := k7m3) (c := k7c3) (by decide +kernel) rfl rfl rfl (by decide +kernel)
set_option maxRecDepth 65536 in
theorem w_c25 : (Jvm.Cond.code ({ cls := "java/lang/AbstractStringBuilder", name := "ensureCapacityInternal", desc := "(I)V" } : Jvm.MethodName) jdk_68_method_9_code (3 : Nat) (Option.none : Option Jvm.ClassFile.FieldType)).before args0 about1 = true := code_word (m := ⟨14, 3⟩) (meth := k14m3) (c := k14c3) (by decide +kernel) rfl rfl rfl (by decide +kernel)
set_option maxRecDepth 65536 in
theorem w_c26 : (Jvm.Cond.code ({ cls := "java/lang/AbstractStringBuilder", name := "putStringAt", desc := "(ILjava/lang/String;)V" } : Jvm.MethodName) jdk_68_method_73_code (3 : Nat) (Option.none : Option Jvm.ClassFile.FieldType)).before args0 about1 = true := code_word (m := ⟨14, 9⟩) (meth := k14m9) (c := k14c9) (by decide +kernel) rfl rfl rfl (by decide +kernel)
set_option maxRecDepth 65536 in
theorem w_c27 : (Jvm.Cond.code ({ cls := "java/lang/AbstractStringBuilder", name := "inflateIfNeededFor", desc := "(Ljava/lang/String;)V" } : Jvm.MethodName) jdk_68_method_71_code (2 : Nat) (Option.none : Option Jvm.ClassFile.FieldType)).before args0 about1 = true := code_word (m := ⟨14, 8⟩) (meth := k14m8) (c := k14c8) (by decide +kernel) rfl rfl rfl (by decide +kernel)
set_option maxRecDepth 65536 in
theorem w_c28 : (Jvm.Cond.code ({ cls := "java/lang/String", name := "getBytes", desc := "([BIB)V" } : Jvm.MethodName) jdk_42_method_147_code (4 : Nat) (Option.none : Option Jvm.ClassFile.FieldType)).before args0 about1 = true := code_word (m := ⟨7, 9⟩) (meth := k7m9) (c := k7c9) (by decide +kernel) rfl rfl rfl (by decide +kernel)
set_option maxRecDepth 65536 in
theorem w_c29 : (Jvm.Cond.code ({ cls := "java/lang/StringBuilder", name := "append", desc := "(I)Ljava/lang/StringBuilder;" } : Jvm.MethodName) jdk_67_method_15_code (2 : Nat) (Option.some (Jvm.ClassFile.FieldType.object "java/lang/StringBuilder"))).before args0 about1 = true := code_word (m := ⟨15, 2⟩) (meth := k15m2) (c := k15c2) (by decide +kernel) rfl rfl rfl (by decide +kernel)
set_option maxRecDepth 65536 in
theorem w_c30 : (Jvm.Cond.code ({ cls := "java/lang/AbstractStringBuilder", name := "append", desc := "(I)Ljava/lang/AbstractStringBuilder;" } : Jvm.MethodName) jdk_68_method_32_code (4 : Nat) (Option.some (Jvm.ClassFile.FieldType.object "java/lang/AbstractStringBuilder"))).before args0 about1 = true := code_word (m := ⟨14, 5⟩) (meth := k14m5) (c := k14c5) (by decide +kernel) rfl rfl rfl (by decide +kernel)
set_option maxRecDepth 65536 in
theorem w_c31 : (Jvm.Cond.code ({ cls := "java/lang/Integer", name := "stringSize", desc := "(I)I" } : Jvm.MethodName) jdk_33_method_13_code (4 : Nat) (Option.some Jvm.ClassFile.FieldType.int)).before args0 about1 = true := code_word (m := ⟨18, 1⟩) (meth := k18m1) (c := k18c1) (by decide +kernel) rfl rfl rfl (by decide +kernel)
set_option maxRecDepth 65536 in
theorem w_c32 : (Jvm.Cond.code ({ cls := "java/lang/AbstractStringBuilder", name := "isLatin1", desc := "()Z" } : Jvm.MethodName) jdk_68_method_68_code (1 : Nat) (Option.some Jvm.ClassFile.FieldType.boolean)).before args0 about1 = true := code_word (m := ⟨14, 7⟩) (meth := k14m7) (c := k14c7) (by decide +kernel) rfl rfl rfl (by decide +kernel)
set_option maxRecDepth 65536 in
theorem w_c33 : (Jvm.Cond.code ({ cls := "java/lang/Integer", name := "getChars", desc := "(II[B)I" } : Jvm.MethodName) jdk_33_method_12_code (7 : Nat) (Option.some Jvm.ClassFile.FieldType.int)).before args0 about1 = true := code_word (m := ⟨18, 0⟩) (meth := k18m0) (c := k18c0) (by decide +kernel) rfl rfl rfl (by decide +kernel)
set_option maxRecDepth 65536 in
theorem w_c34 : (Jvm.Cond.code ({ cls := "java/lang/StringBuilder", name := "toString", desc := "()Ljava/lang/String;" } : Jvm.MethodName) jdk_67_method_42_code (1 : Nat) (Option.some (Jvm.ClassFile.FieldType.object "java/lang/String"))).before args0 about1 = true := code_word (m := ⟨15, 3⟩) (meth := k15m3) (c := k15c3) (by decide +kernel) rfl rfl rfl (by decide +kernel)
set_option maxRecDepth 65536 in
theorem w_c35 : (Jvm.Cond.code ({ cls := "java/lang/String", name := "<init>", desc := "(Ljava/lang/StringBuilder;)V" } : Jvm.MethodName) jdk_42_method_53_code (2 : Nat) (Option.none : Option Jvm.ClassFile.FieldType)).before args0 about1 = true := code_word (m := ⟨7, 2⟩) (meth := k7m2) (c := k7c2) (by decide +kernel) rfl rfl rfl (by decide +kernel)
set_option maxRecDepth 65536 in
theorem w_c36 : (Jvm.Cond.code ({ cls := "java/lang/String", name := "<init>", desc := "(Ljava/lang/AbstractStringBuilder;Ljava/lang/Void;)V" } : Jvm.MethodName) jdk_42_method_150_code (5 : Nat) (Option.none : Option Jvm.ClassFile.FieldType)).before args0 about1 = true := code_word (m := ⟨7, 11⟩) (meth := k7m11) (c := k7c11) (by decide +kernel) rfl rfl rfl (by decide +kernel)
set_option maxRecDepth 65536 in
theorem w_c37 : (Jvm.Cond.code ({ cls := "java/lang/AbstractStringBuilder", name := "getValue", desc := "()[B" } : Jvm.MethodName) jdk_68_method_64_code (1 : Nat) (Option.some (Jvm.ClassFile.FieldType.array Jvm.ClassFile.FieldType.byte))).before args0 about1 = true := code_word (m := ⟨14, 6⟩) (meth := k14m6) (c := k14c6) (by decide +kernel) rfl rfl rfl (by decide +kernel)
set_option maxRecDepth 65536 in
theorem w_c38 : (Jvm.Cond.code ({ cls := "java/lang/StringBuilder", name := "length", desc := "()I" } : Jvm.MethodName) jdk_67_method_93_code (1 : Nat) (Option.some Jvm.ClassFile.FieldType.int)).before args0 about1 = true := code_word (m := ⟨15, 4⟩) (meth := k15m4) (c := k15c4) (by decide +kernel) rfl rfl rfl (by decide +kernel)
set_option maxRecDepth 65536 in
theorem w_c39 : (Jvm.Cond.code ({ cls := "java/lang/AbstractStringBuilder", name := "length", desc := "()I" } : Jvm.MethodName) jdk_68_method_6_code (1 : Nat) (Option.some Jvm.ClassFile.FieldType.int)).before args0 about1 = true := code_word (m := ⟨14, 2⟩) (meth := k14m2) (c := k14c2) (by decide +kernel) rfl rfl rfl (by decide +kernel)
set_option maxRecDepth 65536 in
theorem w_c40 : (Jvm.Cond.code ({ cls := "java/util/Arrays", name := "copyOfRange", desc := "([BII)[B" } : Jvm.MethodName) jdk_65_method_132_code (3 : Nat) (Option.some (Jvm.ClassFile.FieldType.array Jvm.ClassFile.FieldType.byte))).before args0 about1 = true := code_word (m := ⟨19, 2⟩) (meth := k19m2) (c := k19c2) (by decide +kernel) rfl rfl rfl (by decide +kernel)
set_option maxRecDepth 65536 in
theorem w_c41 : (Jvm.Cond.code ({ cls := "java/util/Arrays", name := "copyOfRangeByte", desc := "([BII)[B" } : Jvm.MethodName) jdk_65_method_133_code (5 : Nat) (Option.some (Jvm.ClassFile.FieldType.array Jvm.ClassFile.FieldType.byte))).before args0 about1 = true := code_word (m := ⟨19, 3⟩) (meth := k19m3) (c := k19c3) (by decide +kernel) rfl rfl rfl (by decide +kernel)
set_option maxRecDepth 65536 in
theorem w_c42 : (Jvm.Cond.code ({ cls := "java/util/Arrays", name := "checkLength", desc := "(II)V" } : Jvm.MethodName) jdk_65_method_131_code (2 : Nat) (Option.none : Option Jvm.ClassFile.FieldType)).before args0 about1 = true := code_word (m := ⟨19, 1⟩) (meth := k19m1) (c := k19c1) (by decide +kernel) rfl rfl rfl (by decide +kernel)
set_option maxRecDepth 65536 in
theorem w_c43 : (Jvm.Cond.code ({ cls := "java/lang/Math", name := "min", desc := "(II)I" } : Jvm.MethodName) jdk_29_method_69_code (2 : Nat) (Option.some Jvm.ClassFile.FieldType.int)).before args0 about1 = true := code_word (m := ⟨20, 1⟩) (meth := k20m1) (c := k20c1) (by decide +kernel) rfl rfl rfl (by decide +kernel)
set_option maxRecDepth 65536 in
theorem w_c44 : (Jvm.Cond.code ({ cls := "com/example/redelivery/redelivery/settings/ListenAddressToStringPinLaw", name := "at", desc := "(Ljava/lang/String;[CII)Z" } : Jvm.MethodName) method_3_code (4 : Nat) (Option.some Jvm.ClassFile.FieldType.boolean)).before args0 about1 = true := code_word (m := ⟨1, 2⟩) (meth := k1m2) (c := k1c2) (by decide +kernel) rfl rfl rfl (by decide +kernel)
set_option maxRecDepth 65536 in
theorem w_c45 : (Jvm.Cond.code ({ cls := "java/lang/String", name := "charAt", desc := "(I)C" } : Jvm.MethodName) jdk_42_method_56_code (2 : Nat) (Option.some Jvm.ClassFile.FieldType.char)).before args0 about1 = true := code_word (m := ⟨7, 5⟩) (meth := k7m5) (c := k7c5) (by decide +kernel) rfl rfl rfl (by decide +kernel)
set_option maxRecDepth 65536 in
theorem w_c46 : (Jvm.Cond.code ({ cls := "java/lang/StringLatin1", name := "charAt", desc := "([BI)C" } : Jvm.MethodName) jdk_43_method_2_code (2 : Nat) (Option.some Jvm.ClassFile.FieldType.char)).before args0 about1 = true := code_word (m := ⟨12, 1⟩) (meth := k12m1) (c := k12c1) (by decide +kernel) rfl rfl rfl (by decide +kernel)
set_option maxRecDepth 65536 in
theorem w_c47 : (Jvm.Cond.code ({ cls := "java/lang/String", name := "checkIndex", desc := "(II)V" } : Jvm.MethodName) jdk_42_method_155_code (2 : Nat) (Option.none : Option Jvm.ClassFile.FieldType)).before args0 about1 = true := code_word (m := ⟨7, 14⟩) (meth := k7m14) (c := k7c14) (by decide +kernel) rfl rfl rfl (by decide +kernel)
set_option maxRecDepth 65536 in
theorem w_c48 : (Jvm.Cond.code ({ cls := "jdk/internal/util/Preconditions", name := "checkIndex", desc := "(IILjava/util/function/BiFunction;)I" } : Jvm.MethodName) jdk_41_method_11_code (3 : Nat) (Option.some Jvm.ClassFile.FieldType.int)).before args0 about1 = true := code_word (m := ⟨21, 1⟩) (meth := k21m1) (c := k21c1) (by decide +kernel) rfl rfl rfl (by decide +kernel)
def codes1 : List Jvm.Cond := [Jvm.Cond.code x code maxLocals ret, Jvm.Cond.code ({ cls := "com/example/redelivery/redelivery/settings/ListenAddressToStringPinLaw", name := "ch", desc := "(I)C" } : Jvm.MethodName) method_2_code (1 : Nat) (Option.some Jvm.ClassFile.FieldType.char), Jvm.Cond.code ({ cls := "java/lang/String", name := "<init>", desc := "([C)V" } : Jvm.MethodName) jdk_42_method_3_code (2 : Nat) (Option.none : Option Jvm.ClassFile.FieldType), Jvm.Cond.code ({ cls := "java/lang/String", name := "<init>", desc := "([CIILjava/lang/Void;)V" } : Jvm.MethodName) jdk_42_method_149_code (6 : Nat) (Option.none : Option Jvm.ClassFile.FieldType), Jvm.Cond.code ({ cls := "java/lang/Object", name := "<init>", desc := "()V" } : Jvm.MethodName) object_method_1_code (1 : Nat) (Option.none : Option Jvm.ClassFile.FieldType), Jvm.Cond.code ({ cls := "java/lang/StringUTF16", name := "compress", desc := "([CII)[B" } : Jvm.MethodName) jdk_52_method_16_code (6 : Nat) (Option.some (Jvm.ClassFile.FieldType.array Jvm.ClassFile.FieldType.byte)), Jvm.Cond.code ({ cls := "java/lang/StringUTF16", name := "compress", desc := "([CI[BII)I" } : Jvm.MethodName) jdk_52_method_21_code (7 : Nat) (Option.some Jvm.ClassFile.FieldType.int), Jvm.Cond.code ({ cls := "java/lang/StringUTF16", name := "coderFromArrayLen", desc := "([BI)B" } : Jvm.MethodName) jdk_52_method_15_code (2 : Nat) (Option.some Jvm.ClassFile.FieldType.byte), Jvm.Cond.code ({ cls := "com/example/redelivery/redelivery/settings/ListenAddress", name := "<init>", desc := "(Ljava/lang/String;I)V" } : Jvm.MethodName) prog_12_method_1_code (3 : Nat) (Option.none : Option Jvm.ClassFile.FieldType), Jvm.Cond.code ({ cls := "java/lang/Record", name := "<init>", desc := "()V" } : Jvm.MethodName) jdk_30_method_1_code (1 : Nat) (Option.none : Option Jvm.ClassFile.FieldType), Jvm.Cond.code ({ cls := "java/util/Objects", name := "requireNonNull", desc := "(Ljava/lang/Object;Ljava/lang/String;)Ljava/lang/Object;" } : Jvm.MethodName) jdk_31_method_11_code (2 : Nat) (Option.some (Jvm.ClassFile.FieldType.object "java/lang/Object")), Jvm.Cond.code ({ cls := "java/lang/String", name := "isEmpty", desc := "()Z" } : Jvm.MethodName) jdk_42_method_55_code (1 : Nat) (Option.some Jvm.ClassFile.FieldType.boolean), Jvm.Cond.code ({ cls := "com/example/redelivery/redelivery/settings/ListenAddress", name := "toString", desc := "()Ljava/lang/String;" } : Jvm.MethodName) prog_12_method_3_code (2 : Nat) (Option.some (Jvm.ClassFile.FieldType.object "java/lang/String")), Jvm.Cond.code ({ cls := "java/lang/String", name := "contains", desc := "(Ljava/lang/CharSequence;)Z" } : Jvm.MethodName) jdk_42_method_97_code (2 : Nat) (Option.some Jvm.ClassFile.FieldType.boolean), Jvm.Cond.code ({ cls := "java/lang/String", name := "toString", desc := "()Ljava/lang/String;" } : Jvm.MethodName) jdk_42_method_126_code (1 : Nat) (Option.some (Jvm.ClassFile.FieldType.object "java/lang/String")), Jvm.Cond.code ({ cls := "java/lang/String", name := "indexOf", desc := "(Ljava/lang/String;)I" } : Jvm.MethodName) jdk_42_method_84_code (3 : Nat) (Option.some Jvm.ClassFile.FieldType.int), Jvm.Cond.code ({ cls := "java/lang/String", name := "coder", desc := "()B" } : Jvm.MethodName) jdk_42_method_152_code (1 : Nat) (Option.some Jvm.ClassFile.FieldType.byte), Jvm.Cond.code ({ cls := "java/lang/String", name := "isLatin1", desc := "()Z" } : Jvm.MethodName) jdk_42_method_154_code (1 : Nat) (Option.some Jvm.ClassFile.FieldType.boolean), Jvm.Cond.code ({ cls := "java/lang/StringLatin1", name := "indexOf", desc := "([B[B)I" } : Jvm.MethodName) jdk_43_method_24_code (2 : Nat) (Option.some Jvm.ClassFile.FieldType.int), Jvm.Cond.code ({ cls := "java/lang/StringLatin1", name := "indexOf", desc := "([BI[BII)I" } : Jvm.MethodName) jdk_43_method_25_code (11 : Nat) (Option.some Jvm.ClassFile.FieldType.int), Jvm.Cond.code ({ cls := "java/lang/StringBuilder", name := "<init>", desc := "()V" } : Jvm.MethodName) jdk_67_method_1_code (1 : Nat) (Option.none : Option Jvm.ClassFile.FieldType), Jvm.Cond.code ({ cls := "java/lang/AbstractStringBuilder", name := "<init>", desc := "(I)V" } : Jvm.MethodName) jdk_68_method_2_code (2 : Nat) (Option.none : Option Jvm.ClassFile.FieldType), Jvm.Cond.code ({ cls := "java/lang/StringBuilder", name := "append", desc := "(Ljava/lang/String;)Ljava/lang/StringBuilder;" } : Jvm.MethodName) jdk_67_method_7_code (2 : Nat) (Option.some (Jvm.ClassFile.FieldType.object "java/lang/StringBuilder")), Jvm.Cond.code ({ cls := "java/lang/AbstractStringBuilder", name := "append", desc := "(Ljava/lang/String;)Ljava/lang/AbstractStringBuilder;" } : Jvm.MethodName) jdk_68_method_22_code (3 : Nat) (Option.some (Jvm.ClassFile.FieldType.object "java/lang/AbstractStringBuilder")), Jvm.Cond.code ({ cls := "java/lang/String", name := "length", desc := "()I" } : Jvm.MethodName) jdk_42_method_54_code (1 : Nat) (Option.some Jvm.ClassFile.FieldType.int), Jvm.Cond.code ({ cls := "java/lang/AbstractStringBuilder", name := "ensureCapacityInternal", desc := "(I)V" } : Jvm.MethodName) jdk_68_method_9_code (3 : Nat) (Option.none : Option Jvm.ClassFile.FieldType), Jvm.Cond.code ({ cls := "java/lang/AbstractStringBuilder", name := "putStringAt", desc := "(ILjava/lang/String;)V" } : Jvm.MethodName) jdk_68_method_73_code (3 : Nat) (Option.none : Option Jvm.ClassFile.FieldType), Jvm.Cond.code ({ cls := "java/lang/AbstractStringBuilder", name := "inflateIfNeededFor", desc := "(Ljava/lang/String;)V" } : Jvm.MethodName) jdk_68_method_71_code (2 : Nat) (Option.none : Option Jvm.ClassFile.FieldType), Jvm.Cond.code ({ cls := "java/lang/String", name := "getBytes", desc := "([BIB)V" } : Jvm.MethodName) jdk_42_method_147_code (4 : Nat) (Option.none : Option Jvm.ClassFile.FieldType), Jvm.Cond.code ({ cls := "java/lang/StringBuilder", name := "append", desc := "(I)Ljava/lang/StringBuilder;" } : Jvm.MethodName) jdk_67_method_15_code (2 : Nat) (Option.some (Jvm.ClassFile.FieldType.object "java/lang/StringBuilder")), Jvm.Cond.code ({ cls := "java/lang/AbstractStringBuilder", name := "append", desc := "(I)Ljava/lang/AbstractStringBuilder;" } : Jvm.MethodName) jdk_68_method_32_code (4 : Nat) (Option.some (Jvm.ClassFile.FieldType.object "java/lang/AbstractStringBuilder")), Jvm.Cond.code ({ cls := "java/lang/Integer", name := "stringSize", desc := "(I)I" } : Jvm.MethodName) jdk_33_method_13_code (4 : Nat) (Option.some Jvm.ClassFile.FieldType.int), Jvm.Cond.code ({ cls := "java/lang/AbstractStringBuilder", name := "isLatin1", desc := "()Z" } : Jvm.MethodName) jdk_68_method_68_code (1 : Nat) (Option.some Jvm.ClassFile.FieldType.boolean), Jvm.Cond.code ({ cls := "java/lang/Integer", name := "getChars", desc := "(II[B)I" } : Jvm.MethodName) jdk_33_method_12_code (7 : Nat) (Option.some Jvm.ClassFile.FieldType.int), Jvm.Cond.code ({ cls := "java/lang/StringBuilder", name := "toString", desc := "()Ljava/lang/String;" } : Jvm.MethodName) jdk_67_method_42_code (1 : Nat) (Option.some (Jvm.ClassFile.FieldType.object "java/lang/String")), Jvm.Cond.code ({ cls := "java/lang/String", name := "<init>", desc := "(Ljava/lang/StringBuilder;)V" } : Jvm.MethodName) jdk_42_method_53_code (2 : Nat) (Option.none : Option Jvm.ClassFile.FieldType), Jvm.Cond.code ({ cls := "java/lang/String", name := "<init>", desc := "(Ljava/lang/AbstractStringBuilder;Ljava/lang/Void;)V" } : Jvm.MethodName) jdk_42_method_150_code (5 : Nat) (Option.none : Option Jvm.ClassFile.FieldType), Jvm.Cond.code ({ cls := "java/lang/AbstractStringBuilder", name := "getValue", desc := "()[B" } : Jvm.MethodName) jdk_68_method_64_code (1 : Nat) (Option.some (Jvm.ClassFile.FieldType.array Jvm.ClassFile.FieldType.byte)), Jvm.Cond.code ({ cls := "java/lang/StringBuilder", name := "length", desc := "()I" } : Jvm.MethodName) jdk_67_method_93_code (1 : Nat) (Option.some Jvm.ClassFile.FieldType.int), Jvm.Cond.code ({ cls := "java/lang/AbstractStringBuilder", name := "length", desc := "()I" } : Jvm.MethodName) jdk_68_method_6_code (1 : Nat) (Option.some Jvm.ClassFile.FieldType.int), Jvm.Cond.code ({ cls := "java/util/Arrays", name := "copyOfRange", desc := "([BII)[B" } : Jvm.MethodName) jdk_65_method_132_code (3 : Nat) (Option.some (Jvm.ClassFile.FieldType.array Jvm.ClassFile.FieldType.byte)), Jvm.Cond.code ({ cls := "java/util/Arrays", name := "copyOfRangeByte", desc := "([BII)[B" } : Jvm.MethodName) jdk_65_method_133_code (5 : Nat) (Option.some (Jvm.ClassFile.FieldType.array Jvm.ClassFile.FieldType.byte)), Jvm.Cond.code ({ cls := "java/util/Arrays", name := "checkLength", desc := "(II)V" } : Jvm.MethodName) jdk_65_method_131_code (2 : Nat) (Option.none : Option Jvm.ClassFile.FieldType), Jvm.Cond.code ({ cls := "java/lang/Math", name := "min", desc := "(II)I" } : Jvm.MethodName) jdk_29_method_69_code (2 : Nat) (Option.some Jvm.ClassFile.FieldType.int), Jvm.Cond.code ({ cls := "com/example/redelivery/redelivery/settings/ListenAddressToStringPinLaw", name := "at", desc := "(Ljava/lang/String;[CII)Z" } : Jvm.MethodName) method_3_code (4 : Nat) (Option.some Jvm.ClassFile.FieldType.boolean), Jvm.Cond.code ({ cls := "java/lang/String", name := "charAt", desc := "(I)C" } : Jvm.MethodName) jdk_42_method_56_code (2 : Nat) (Option.some Jvm.ClassFile.FieldType.char), Jvm.Cond.code ({ cls := "java/lang/StringLatin1", name := "charAt", desc := "([BI)C" } : Jvm.MethodName) jdk_43_method_2_code (2 : Nat) (Option.some Jvm.ClassFile.FieldType.char), Jvm.Cond.code ({ cls := "java/lang/String", name := "checkIndex", desc := "(II)V" } : Jvm.MethodName) jdk_42_method_155_code (2 : Nat) (Option.none : Option Jvm.ClassFile.FieldType), Jvm.Cond.code ({ cls := "jdk/internal/util/Preconditions", name := "checkIndex", desc := "(IILjava/util/function/BiFunction;)I" } : Jvm.MethodName) jdk_41_method_11_code (3 : Nat) (Option.some Jvm.ClassFile.FieldType.int)]
set_option maxRecDepth 65536 in
theorem codes_eq : words1.filter isCode = codes1 := rfl
theorem w_codes : ∀ c ∈ words1.filter isCode, c.before args0 about1 = true := by
  rw [codes_eq]
  intro c hc
  simp only [codes1, List.mem_cons, List.not_mem_nil, or_false] at hc
  rcases hc with rfl | rfl | rfl | rfl | rfl | rfl | rfl | rfl | rfl | rfl | rfl | rfl | rfl | rfl | rfl | rfl | rfl | rfl | rfl | rfl | rfl | rfl | rfl | rfl | rfl | rfl | rfl | rfl | rfl | rfl | rfl | rfl | rfl | rfl | rfl | rfl | rfl | rfl | rfl | rfl | rfl | rfl | rfl | rfl | rfl | rfl | rfl | rfl | rfl
  · exact w_c0
  · exact w_c1
  · exact w_c2
  · exact w_c3
  · exact w_c4
  · exact w_c5
  · exact w_c6
  · exact w_c7
  · exact w_c8
  · exact w_c9
  · exact w_c10
  · exact w_c11
  · exact w_c12
  · exact w_c13
  · exact w_c14
  · exact w_c15
  · exact w_c16
  · exact w_c17
  · exact w_c18
  · exact w_c19
  · exact w_c20
  · exact w_c21
  · exact w_c22
  · exact w_c23
  · exact w_c24
  · exact w_c25
  · exact w_c26
  · exact w_c27
  · exact w_c28
  · exact w_c29
  · exact w_c30
  · exact w_c31
  · exact w_c32
  · exact w_c33
  · exact w_c34
  · exact w_c35
  · exact w_c36
  · exact w_c37
  · exact w_c38
  · exact w_c39
  · exact w_c40
  · exact w_c41
  · exact w_c42
  · exact w_c43
  · exact w_c44
  · exact w_c45
  · exact w_c46
  · exact w_c47
  · exact w_c48
set_option maxRecDepth 65536 in
theorem w_t1 : (words1.take 24).all (fun c => isCode c || c.before args0 about1) = true := by decide +kernel
set_option maxRecDepth 65536 in
theorem w_t2 : ((words1.drop 24).take 24).all (fun c => isCode c || c.before args0 about1) = true := by decide +kernel
set_option maxRecDepth 65536 in
theorem w_t3 : (((words1.drop 24).drop 24).take 24).all (fun c => isCode c || c.before args0 about1) = true := by decide +kernel
set_option maxRecDepth 65536 in
theorem w_t4 : ((((words1.drop 24).drop 24).drop 24).take 24).all (fun c => isCode c || c.before args0 about1) = true := by decide +kernel
set_option maxRecDepth 65536 in
theorem w_t5 : (((((words1.drop 24).drop 24).drop 24).drop 24).take 24).all (fun c => isCode c || c.before args0 about1) = true := by decide +kernel
set_option maxRecDepth 65536 in
theorem w_t6 : ((((((words1.drop 24).drop 24).drop 24).drop 24).drop 24).take 24).all (fun c => isCode c || c.before args0 about1) = true := by decide +kernel
set_option maxRecDepth 65536 in
theorem w_t7 : (((((((words1.drop 24).drop 24).drop 24).drop 24).drop 24).drop 24).take 24).all (fun c => isCode c || c.before args0 about1) = true := by decide +kernel
set_option maxRecDepth 65536 in
theorem w_t8 : ((((((((words1.drop 24).drop 24).drop 24).drop 24).drop 24).drop 24).drop 24).take 24).all (fun c => isCode c || c.before args0 about1) = true := by decide +kernel
set_option maxRecDepth 65536 in
theorem w_t9 : (((((((((words1.drop 24).drop 24).drop 24).drop 24).drop 24).drop 24).drop 24).drop 24).take 24).all (fun c => isCode c || c.before args0 about1) = true := by decide +kernel
set_option maxRecDepth 65536 in
theorem w_t10 : ((((((((((words1.drop 24).drop 24).drop 24).drop 24).drop 24).drop 24).drop 24).drop 24).drop 24).take 24).all (fun c => isCode c || c.before args0 about1) = true := by decide +kernel
set_option maxRecDepth 65536 in
theorem w_t11 : ((((((((((words1.drop 24).drop 24).drop 24).drop 24).drop 24).drop 24).drop 24).drop 24).drop 24).drop 24).all (fun c => isCode c || c.before args0 about1) = true := by decide +kernel
theorem w_tables : (allAtoms (Jvm.Cond.code x code maxLocals ret :: tables_1)).before args0 about1 = true := by
  rw [allAtoms_all]
  show words1.all (fun c => c.before args0 about1) = true
  refine all_split ?_ w_codes
  rw [← List.take_append_drop 24 words1, List.all_append, w_t1, ← List.take_append_drop 24 (words1.drop 24), List.all_append, w_t2, ← List.take_append_drop 24 ((words1.drop 24).drop 24), List.all_append, w_t3, ← List.take_append_drop 24 (((words1.drop 24).drop 24).drop 24), List.all_append, w_t4, ← List.take_append_drop 24 ((((words1.drop 24).drop 24).drop 24).drop 24), List.all_append, w_t5, ← List.take_append_drop 24 (((((words1.drop 24).drop 24).drop 24).drop 24).drop 24), List.all_append, w_t6, ← List.take_append_drop 24 ((((((words1.drop 24).drop 24).drop 24).drop 24).drop 24).drop 24), List.all_append, w_t7, ← List.take_append_drop 24 (((((((words1.drop 24).drop 24).drop 24).drop 24).drop 24).drop 24).drop 24), List.all_append, w_t8, ← List.take_append_drop 24 ((((((((words1.drop 24).drop 24).drop 24).drop 24).drop 24).drop 24).drop 24).drop 24), List.all_append, w_t9, ← List.take_append_drop 24 (((((((((words1.drop 24).drop 24).drop 24).drop 24).drop 24).drop 24).drop 24).drop 24).drop 24), List.all_append, w_t10, w_t11]
  rfl
set_option maxRecDepth 65536 in
theorem w_rest : rest_1_c.before args0 about1 = true := by decide +kernel
set_option maxRecDepth 65536 in
theorem w_case : (Jvm.Cond.and given_1 narrow_1).before args0 about1 = true := by decide +kernel
set_option maxRecDepth 65536 in
theorem w_consts : constsHeld consts_1 about1 := Jvm.Lit.constsHeldB_iff.mp (by decide +kernel)
theorem w_applies : (headSpec (Jvm.Cond.code x code maxLocals ret :: tables_1) room_1).applies x e0.platform about1 = true :=
  (Spec.applies_iff w_frames).mpr ⟨w_running, w_runnable, w_alone, w_named, w_hears, w_ripe, w_room, w_tables⟩
theorem atStart : AtStart classFile x code maxLocals ret World_1 tables_1 room_1 Calls_1 rest_1 Pre_1 launch0 p0 e0 about1 theMethod args0 below0 :=
  ⟨lists_1, trivial, launch0.admits_env _ _ _, launch0.least_env, fairChoices_fair.cas, fairChoices_fair.clock, w_frames, w_args, w_heap, w_applies, ⟨w_consts, trivial⟩, w_rest, w_case⟩
end start1
theorem witness_1 : WitnessClaimed_1 := ⟨start1.p0, start1.e0, start1.about1, start1.theMethod, start1.args0, start1.below0, start1.atStart⟩
end Jvm.Pilot.@@N@@
