import JvmDerived
import JvmDerived.Pilot.@@N@@Statement
import JvmDerived.Pilot.@@N@@Code
set_option linter.unusedVariables false
set_option linter.unusedSimpArgs false
namespace Jvm.RoadKit
open Sem ClassFile Op Lib Jvm.Stand Jvm.Free Jvm.LawKit
section New
variable {p : Program} {l : Launch} {e : Env} {R : Room} {s : State} {m : MethodId} {args : Array Value} {below : List Frame} {meth : Method} {c : Code} {T : State} {locs : List Loc} {cells slots : Nat}
theorem retI (X : Stand p l e R s m args below meth c T locs cells slots) (hx : p.tables.exec = Jvm.exec) {pc : Nat} {Ls : Array Slot} {z : Int32} {rest : List Value} (hret : meth.sig.returnType = some .int) (hd : decode c.code pc = .ok (.ireturn, 1)) {fs : List Frame}
    (hl : ∀ (f : JFrame) (acts : List Action), f.method = m → f.locked = none → f.entered = [] → (doReturn e (T.setTop f) acts (some (.int z))).1 = T.setFrames fs) : Steps p.tables e below (T.setTop (mkF m pc Ls (.int z :: rest))) (T.setFrames fs) := by
  have hm' : T.vm.method? m = some meth := X.method'
  have hn : narrow .int (.int z) = .int z := rfl
  show Steps p.tables e below (T.setTop { method := m, pc := pc, locals := Ls, stack := _ :: rest, locked := none }) _
  jvm_step X.here [X.here.top, hx, hd, hm', hret, hn]
  first | (intro acts; rw [hl _ acts rfl rfl rfl]) | rw [hl _ _ rfl rfl rfl]
  exact Steps.refl _
/-- the return of a reference, null or not -/
theorem own_retR (X : Stand p l e R s m args below meth c T locs cells slots) (hx : p.tables.exec = Jvm.exec) {pc : Nat} {Ls : Array Slot} {w : Value} {ty : FieldType} {rest : List Value} (hret : meth.sig.returnType = some ty) (ht : ty.isReference = true) (hw : w.isRef = true) (hd : decode c.code pc = .ok (.areturn, 1)) {fs : List Frame}
    (hl : ∀ (f : JFrame) (acts : List Action), f.method = m → f.locked = none → f.entered = [] → (doReturn e (T.setTop f) acts (some w)).1 = T.setFrames fs) : Steps p.tables e below (T.setTop (mkF m pc Ls (w :: rest))) (T.setFrames fs) := by
  have hm' : T.vm.method? m = some meth := X.method'
  show Steps p.tables e below (T.setTop { method := m, pc := pc, locals := Ls, stack := _ :: rest, locked := none }) _
  rcases ref_cases hw with rfl | ⟨z, rfl⟩
  all_goals
    jvm_step X.here [X.here.top, hx, hd, hm', hret, ht, Value.isRef]
    first | (intro acts; rw [hl _ acts rfl rfl rfl]) | rw [hl _ _ rfl rfl rfl]
    exact Steps.refl _
/-- what a walk owes from a state and a frame on -/
def own_G (p : Program) (e : Env) (below : List Frame) (s : State) (C N : Nat) (Q : Option Value → Heap → List Loc → Prop) (T : State) (g : JFrame) : Prop :=
  ∃ s₂ o, Steps p.tables e below (T.setTop g) s₂ ∧ s₂.status = .running ∧ Ended s₂ below o ∧ ∃ v L, o = .returned v ∧ Q v s₂.heap L ∧ FrameEnd s o s₂ L C N
variable {C N : Nat} {Q : Option Value → Heap → List Loc → Prop} {T' : State} {g g' : JFrame} {h : Heap}
theorem own_G.step (k : ∀ t, Steps p.tables e below (T'.setTop g') t → Steps p.tables e below (T.setTop g) t) (H : own_G p e below s C N Q T' g') : own_G p e below s C N Q T g := by
  obtain ⟨s₂, o, h1, r⟩ := H
  exact ⟨s₂, o, k _ h1, r⟩
theorem own_G.cast (q : g = g') (H : own_G p e below s C N Q T g') : own_G p e below s C N Q T g := by
  subst q
  exact H
theorem own_G.start (q : g = g') (H : own_G p e below s C N Q T g') : ∃ s₂ o, Steps p.tables e below (T.setTop g) s₂ ∧ s₂.status = .running ∧ Ended s₂ below o ∧ ∃ v L, o = .returned v ∧ Q v s₂.heap L ∧ FrameEnd s o s₂ L C N := by
  subst q
  exact H
theorem own_ret (X : Stand p l e R s m args below meth c T locs cells slots) (eT : T.heap = h) {v : Option Value} (hv : meth.sig.returnType = none → v = none) (hlk : meth.locks = false) (hq : Q v h locs) (hc : cells ≤ C) (hn : slots ≤ N)
    (st : ∀ fs, (∀ (f : JFrame) (acts : List Action), f.method = m → f.locked = none → f.entered = [] → (doReturn e (T.setTop f) acts v).1 = T.setFrames fs) → Steps p.tables e below (T.setTop g) (T.setFrames fs)) : own_G p e below s C N Q T g := by
  obtain ⟨fs, hr, hrun, hended, hW, hsame⟩ := X.leave (v := v) hv hlk
  subst eT
  exact ⟨_, _, st fs hr, hrun, hended, _, _, rfl, hq, ⟨_, rfl⟩, hW, hsame.mono hc hn⟩
/-- the same where String constants may be made on the way -/
def own_GW (p : Program) (e : Env) (below : List Frame) (s : State) (C N : Nat) (Q : Option Value → Heap → List Loc → Prop) (T : State) (g : JFrame) : Prop :=
  ∃ s₂ o, Steps p.tables e below (T.setTop g) s₂ ∧ s₂.status = .running ∧ Ended s₂ below o ∧ ∃ v L, o = .returned v ∧ Q v s₂.heap L ∧ ReturnedEndW s o s₂ L C N
theorem own_GW.step (k : ∀ t, Steps p.tables e below (T'.setTop g') t → Steps p.tables e below (T.setTop g) t) (H : own_GW p e below s C N Q T' g') : own_GW p e below s C N Q T g := by
  obtain ⟨s₂, o, h1, r⟩ := H
  exact ⟨s₂, o, k _ h1, r⟩
theorem own_GW.cast (q : g = g') (H : own_GW p e below s C N Q T g') : own_GW p e below s C N Q T g := by
  subst q
  exact H
theorem own_GW.start (q : g = g') (H : own_GW p e below s C N Q T g') : ∃ s₂ o, Steps p.tables e below (T.setTop g) s₂ ∧ s₂.status = .running ∧ Ended s₂ below o ∧ ∃ v L, o = .returned v ∧ Q v s₂.heap L ∧ ReturnedEndW s o s₂ L C N := by
  subst q
  exact H
theorem own_retW {vm₁ : Vm} {k : Nat} (X : Stand p l e R (s.setVm vm₁) m args below meth c T locs cells slots) (hS : s.Since vm₁ k) (eT : T.heap = h) (hk : k ≤ h.size) {v : Option Value} (hv : meth.sig.returnType = none → v = none) (hlk : meth.locks = false) (hq : Q v h locs) (hc : cells ≤ C) (hn : slots ≤ N)
    (st : ∀ fs, (∀ (f : JFrame) (acts : List Action), f.method = m → f.locked = none → f.entered = [] → (doReturn e (T.setTop f) acts v).1 = T.setFrames fs) → Steps p.tables e below (T.setTop g) (T.setFrames fs)) : own_GW p e below s C N Q T g := by
  obtain ⟨fs, hr, hrun, hended, hW, hsame⟩ := X.leave (v := v) hv hlk
  subst eT
  obtain ⟨a, b, d⟩ := hS.ended (U := T.setFrames fs) hW hk hsame
  exact ⟨_, _, st fs hr, hrun, hended, _, _, rfl, hq, ⟨_, rfl⟩, a, b, d.mono hc hn⟩
/-- the same where the held String constants are kept too -/
def own_GH (Z : State) (EL : List (String × Nat)) (p : Program) (e : Env) (below : List Frame) (s : State) (C N : Nat) (Q : Option Value → Heap → List Loc → Prop) (T : State) (g : JFrame) : Prop :=
  ∃ s₂ o, Steps p.tables e below (T.setTop g) s₂ ∧ s₂.status = .running ∧ Ended s₂ below o ∧ ∃ v L, o = .returned v ∧ Q v s₂.heap L ∧ CHr Z EL s.vm s.heap s₂.vm s₂.heap ∧ ReturnedEndW s o s₂ L C N
section HeldEnd
variable {Z : State} {EL : List (String × Nat)}
theorem own_GH.step (k : ∀ t, Steps p.tables e below (T'.setTop g') t → Steps p.tables e below (T.setTop g) t) (H : own_GH Z EL p e below s C N Q T' g') : own_GH Z EL p e below s C N Q T g := by
  obtain ⟨s₂, o, h1, r⟩ := H
  exact ⟨s₂, o, k _ h1, r⟩
theorem own_GH.cast (q : g = g') (H : own_GH Z EL p e below s C N Q T g') : own_GH Z EL p e below s C N Q T g := by
  subst q
  exact H
theorem own_GH.start (q : g = g') (H : own_GH Z EL p e below s C N Q T g') : ∃ s₂ o, Steps p.tables e below (T.setTop g) s₂ ∧ s₂.status = .running ∧ Ended s₂ below o ∧ ∃ v L, o = .returned v ∧ Q v s₂.heap L ∧ CHr Z EL s.vm s.heap s₂.vm s₂.heap ∧ ReturnedEndW s o s₂ L C N := by
  subst q
  exact H
theorem own_retH {vm₁ : Vm} {k : Nat} {h0 : Heap} {a0 : Array Value} (X : Stand p l e R (s.setVm vm₁) m args below meth c T locs cells slots) (hS : s.Since vm₁ k) (eT : T.heap = h) (hk : k ≤ h.size) (hZ : Z.Warmed39 vm₁) (ew : EW Z a0 EL) (hH : CHv Z EL vm₁ h) (hh : s.heap = h0) (hR : CHr Z EL s.vm h0 vm₁ h) {v : Option Value} (hv : meth.sig.returnType = none → v = none) (hlk : meth.locks = false) (hq : Q v h locs) (hc : cells ≤ C) (hn : slots ≤ N)
    (st : ∀ fs, (∀ (f : JFrame) (acts : List Action), f.method = m → f.locked = none → f.entered = [] → (doReturn e (T.setTop f) acts v).1 = T.setFrames fs) → Steps p.tables e below (T.setTop g) (T.setFrames fs)) : own_GH Z EL p e below s C N Q T g := by
  obtain ⟨fs, hr, hrun, hended, hW, hsame⟩ := X.leave (v := v) hv hlk
  subst eT
  subst hh
  have q := CHv.at X hZ ew hH
  obtain ⟨a, b, d⟩ := hS.ended (U := T.setFrames fs) hW hk hsame
  exact ⟨_, _, st fs hr, hrun, hended, _, _, rfl, hq, (show CHr Z EL s.vm s.heap (T.setFrames fs).vm (T.setFrames fs).heap from hR.trans q), ⟨_, rfl⟩, a, b, d.mono hc hn⟩
end HeldEnd
/-- an array of that length -/
def own_Len (Z : State) (h : Heap) (a : Addr) (n : Int32) : Prop := ∃ (c : Cell) (ty : FieldType), Arr Z h a c ty ∧ c.slots.size = n.toNatClampNeg ∧ ¬ n < 0
theorem own_Len.lt {Z : State} {a : Addr} {n : Int32} (F : own_Len Z h a n) : a < h.size := by
  obtain ⟨c, ty, A, -⟩ := F
  exact A.lt
theorem own_Len.ext {Z : State} {h' : Heap} {a : Addr} {n : Int32} (F : own_Len Z h a n) (E : Ext h h') : own_Len Z h' a n := by
  obtain ⟨c, ty, A, r⟩ := F
  exact ⟨c, ty, A.ext E, r⟩
theorem own_Len.other {Z : State} {h' : Heap} {a b : Addr} {n : Int32} {sl : Nat} {v : Value} (F : own_Len Z h b n) (W : Wr h h' a sl v) (q : b ≠ a) : own_Len Z h' b n := by
  obtain ⟨c, ty, A, r⟩ := F
  exact ⟨c, ty, A.other W q, r⟩
theorem own_Len.keep {Z : State} {h' : Heap} {a : Addr} {n : Int32} {ws : List Addr} (F : own_Len Z h a n) (K : Keep h h' ws) (q : a ∉ ws) : own_Len Z h' a n := by
  obtain ⟨c, ty, A, r⟩ := F
  exact ⟨c, ty, ⟨K.2.1 _ _ A.1 q, A.2⟩, r⟩
theorem own_Len.arv {Z : State} {a : Addr} {k : ClassId} {ty : FieldType} {n : Int32} {vs : List Value} {d : Value} (F : Arv Z h a k ty n vs d) : own_Len Z h a n := by
  obtain ⟨c, A, -, S, N, -⟩ := F
  exact ⟨c, ty, A, S, N⟩
theorem own_Len.start {Z : State} {a : Addr} {c : Cell} {ty : FieldType} {z : Int32} (A : Arr Z h a c ty) (q : c.slots.size < 2 ^ 31) (e : c.slots.size.toInt32 = z) (hz : ¬ z < 0) : own_Len Z h a z :=
  ⟨c, ty, A, by rw [← e]; simp only [Int32.toNatClampNeg, len_toInt q]; rfl, hz⟩
theorem own_join {α : Sort _} {P : α → Prop} {G : JFrame → Prop} {g : JFrame} (F : α → JFrame) (h1 : ∀ t, P t → G (F t)) (h2 : (∀ t, P t → G (F t)) → G g) : G g := h2 h1
/-- a byte of a byte[] -/
def own_At (Z : State) (h : Heap) (a : Addr) (i b : Int32) : Prop := ∃ c : Cell, Arr Z h a c .byte ∧ ¬ (i < 0 ∨ c.slots.size ≤ i.toNatClampNeg) ∧ c.slots[i.toNatClampNeg]? = some (.int b)
theorem own_At.arv {Z : State} {a : Addr} {k : ClassId} {n i b : Int32} {vs : List Value} {d : Value} (F : Arv Z h a k .byte n vs d) (h1 : ¬ i < 0 ∧ i < n) (h2 : vs.getD i.toNatClampNeg d = .int b) : own_At Z h a i b := by
  obtain ⟨c, A, -, S, N, H, -⟩ := F
  exact ⟨c, A, inb_of S h1, H.at (inb_of S h1) h2⟩
theorem own_cat {v : Value} (hv : v.isRef = true) : v.category = 1 := by rcases ref_cases hv with rfl | ⟨z, rfl⟩ <;> rfl
theorem own_fits {v : Value} {ty : FieldType} (hv : v.isRef = true) (ht : ty.isReference = true) : fits ty v = true := by
  rcases ref_cases hv with rfl | ⟨z, rfl⟩ <;> cases ty <;> first | rfl | (cases ht; done) | simp [fits]
theorem own_narrow {v : Value} {ty : FieldType} (hv : v.isRef = true) (ht : ty.isReference = true) : narrow ty v = v := by
  rcases ref_cases hv with rfl | ⟨z, rfl⟩ <;> cases ty <;> first | rfl | (cases ht; done)
theorem Old.le {Z : State} {n0 : Nat} (X : Old Z n0 h) : n0 ≤ h.size := X.1 ▸ X.2.1
end New
end Jvm.RoadKit
namespace Jvm.Pilot.@@N@@
open Jvm Jvm.ClassFile Sem Op Lib Jvm.Free Jvm.Stand Jvm.LawKit Jvm.RoadKit Bundle Jvm.Pilot.@@N@@.Jvm.D
theorem own_toInt {a b : Int32} (h : a.toInt = b.toInt) : a = b := Int32.toInt_inj.mp h
theorem own_ten (x : Int32) : (x &&& (2147483647 : Int32)) % (10 : Int32) = (0 : Int32) ∨ (x &&& (2147483647 : Int32)) % (10 : Int32) = (1 : Int32) ∨ (x &&& (2147483647 : Int32)) % (10 : Int32) = (2 : Int32) ∨ (x &&& (2147483647 : Int32)) % (10 : Int32) = (3 : Int32) ∨ (x &&& (2147483647 : Int32)) % (10 : Int32) = (4 : Int32) ∨ (x &&& (2147483647 : Int32)) % (10 : Int32) = (5 : Int32) ∨ (x &&& (2147483647 : Int32)) % (10 : Int32) = (6 : Int32) ∨ (x &&& (2147483647 : Int32)) % (10 : Int32) = (7 : Int32) ∨ (x &&& (2147483647 : Int32)) % (10 : Int32) = (8 : Int32) ∨ (x &&& (2147483647 : Int32)) % (10 : Int32) = (9 : Int32) := by
  have h1 := c_mask x (2147483647 : Int32) 31 (by decide) (by decide)
  have h2 := (c_irem (x &&& (2147483647 : Int32)) (10 : Int32) 10 (by decide)).1 (by rw [h1]; omega)
  have h3 : ((x &&& (2147483647 : Int32)) % (10 : Int32)).toInt = 0 ∨ ((x &&& (2147483647 : Int32)) % (10 : Int32)).toInt = 1 ∨ ((x &&& (2147483647 : Int32)) % (10 : Int32)).toInt = 2 ∨ ((x &&& (2147483647 : Int32)) % (10 : Int32)).toInt = 3 ∨ ((x &&& (2147483647 : Int32)) % (10 : Int32)).toInt = 4 ∨ ((x &&& (2147483647 : Int32)) % (10 : Int32)).toInt = 5 ∨ ((x &&& (2147483647 : Int32)) % (10 : Int32)).toInt = 6 ∨ ((x &&& (2147483647 : Int32)) % (10 : Int32)).toInt = 7 ∨ ((x &&& (2147483647 : Int32)) % (10 : Int32)).toInt = 8 ∨ ((x &&& (2147483647 : Int32)) % (10 : Int32)).toInt = 9 := by omega
  rcases h3 with h | h | h | h | h | h | h | h | h | h
  · exact Or.inl (own_toInt h)
  · exact Or.inr (Or.inl (own_toInt h))
  · exact Or.inr (Or.inr (Or.inl (own_toInt h)))
  · exact Or.inr (Or.inr (Or.inr (Or.inl (own_toInt h))))
  · exact Or.inr (Or.inr (Or.inr (Or.inr (Or.inl (own_toInt h)))))
  · exact Or.inr (Or.inr (Or.inr (Or.inr (Or.inr (Or.inl (own_toInt h))))))
  · exact Or.inr (Or.inr (Or.inr (Or.inr (Or.inr (Or.inr (Or.inl (own_toInt h)))))))
  · exact Or.inr (Or.inr (Or.inr (Or.inr (Or.inr (Or.inr (Or.inr (Or.inl (own_toInt h))))))))
  · exact Or.inr (Or.inr (Or.inr (Or.inr (Or.inr (Or.inr (Or.inr (Or.inr (Or.inl (own_toInt h)))))))))
  · exact Or.inr (Or.inr (Or.inr (Or.inr (Or.inr (Or.inr (Or.inr (Or.inr (Or.inr ((own_toInt h))))))))))
def own_pick (i : Int32) (w0 w1 w2 w3 w4 w5 w6 w7 w8 w9 : Addr) : Addr := if i = (0 : Int32) then w0 else if i = (1 : Int32) then w1 else if i = (2 : Int32) then w2 else if i = (3 : Int32) then w3 else if i = (4 : Int32) then w4 else if i = (5 : Int32) then w5 else if i = (6 : Int32) then w6 else if i = (7 : Int32) then w7 else if i = (8 : Int32) then w8 else w9
def own_exp (i : Int32) (w0 w1 w2 w3 w4 w5 w6 w7 w8 w9 : Addr) : Addr := if i = (0 : Int32) then w6 else if i = (2 : Int32) then w7 else if i = (3 : Int32) then w8 else own_pick i w0 w1 w2 w3 w4 w5 w6 w7 w8 w9
def own_plan (o : Int32) (a w6 w7 w8 : Addr) : Addr := if o = (0 : Int32) then w6 else if o = (2 : Int32) then w7 else if o = (3 : Int32) then w8 else a
theorem d1_0 : decode method_2_code 0 = .ok (.iload_n 0, 1) := by decide +kernel
theorem d1_1 : decode method_2_code 1 = .ok (.ifCond .ne 7, 3) := by decide +kernel
theorem d1_4 : decode method_2_code 4 = .ok (.getstatic 7, 3) := by decide +kernel
theorem d1_7 : decode method_2_code 7 = .ok (.areturn, 1) := by decide +kernel
theorem d1_8 : decode method_2_code 8 = .ok (.iload_n 0, 1) := by decide +kernel
theorem d1_9 : decode method_2_code 9 = .ok (.iconst 1, 1) := by decide +kernel
theorem d1_10 : decode method_2_code 10 = .ok (.if_icmp .ne 7, 3) := by decide +kernel
theorem d1_13 : decode method_2_code 13 = .ok (.getstatic 13, 3) := by decide +kernel
theorem d1_16 : decode method_2_code 16 = .ok (.areturn, 1) := by decide +kernel
theorem d1_17 : decode method_2_code 17 = .ok (.iload_n 0, 1) := by decide +kernel
theorem d1_18 : decode method_2_code 18 = .ok (.iconst 2, 1) := by decide +kernel
theorem d1_19 : decode method_2_code 19 = .ok (.if_icmp .ne 7, 3) := by decide +kernel
theorem d1_22 : decode method_2_code 22 = .ok (.getstatic 16, 3) := by decide +kernel
theorem d1_25 : decode method_2_code 25 = .ok (.areturn, 1) := by decide +kernel
theorem d1_26 : decode method_2_code 26 = .ok (.iload_n 0, 1) := by decide +kernel
theorem d1_27 : decode method_2_code 27 = .ok (.iconst 3, 1) := by decide +kernel
theorem d1_28 : decode method_2_code 28 = .ok (.if_icmp .ne 7, 3) := by decide +kernel
theorem d1_31 : decode method_2_code 31 = .ok (.getstatic 19, 3) := by decide +kernel
theorem d1_34 : decode method_2_code 34 = .ok (.areturn, 1) := by decide +kernel
theorem d1_35 : decode method_2_code 35 = .ok (.iload_n 0, 1) := by decide +kernel
theorem d1_36 : decode method_2_code 36 = .ok (.iconst 4, 1) := by decide +kernel
theorem d1_37 : decode method_2_code 37 = .ok (.if_icmp .ne 7, 3) := by decide +kernel
theorem d1_40 : decode method_2_code 40 = .ok (.getstatic 22, 3) := by decide +kernel
theorem d1_43 : decode method_2_code 43 = .ok (.areturn, 1) := by decide +kernel
theorem d1_44 : decode method_2_code 44 = .ok (.iload_n 0, 1) := by decide +kernel
theorem d1_45 : decode method_2_code 45 = .ok (.iconst 5, 1) := by decide +kernel
theorem d1_46 : decode method_2_code 46 = .ok (.if_icmp .ne 7, 3) := by decide +kernel
theorem d1_49 : decode method_2_code 49 = .ok (.getstatic 25, 3) := by decide +kernel
theorem d1_52 : decode method_2_code 52 = .ok (.areturn, 1) := by decide +kernel
theorem d1_53 : decode method_2_code 53 = .ok (.iload_n 0, 1) := by decide +kernel
theorem d1_54 : decode method_2_code 54 = .ok (.bipush 6, 2) := by decide +kernel
theorem d1_56 : decode method_2_code 56 = .ok (.if_icmp .ne 7, 3) := by decide +kernel
theorem d1_59 : decode method_2_code 59 = .ok (.getstatic 28, 3) := by decide +kernel
theorem d1_62 : decode method_2_code 62 = .ok (.areturn, 1) := by decide +kernel
theorem d1_63 : decode method_2_code 63 = .ok (.iload_n 0, 1) := by decide +kernel
theorem d1_64 : decode method_2_code 64 = .ok (.bipush 7, 2) := by decide +kernel
theorem d1_66 : decode method_2_code 66 = .ok (.if_icmp .ne 7, 3) := by decide +kernel
theorem d1_69 : decode method_2_code 69 = .ok (.getstatic 31, 3) := by decide +kernel
theorem d1_72 : decode method_2_code 72 = .ok (.areturn, 1) := by decide +kernel
theorem d1_73 : decode method_2_code 73 = .ok (.iload_n 0, 1) := by decide +kernel
theorem d1_74 : decode method_2_code 74 = .ok (.bipush 8, 2) := by decide +kernel
theorem d1_76 : decode method_2_code 76 = .ok (.if_icmp .ne 7, 3) := by decide +kernel
theorem d1_79 : decode method_2_code 79 = .ok (.getstatic 34, 3) := by decide +kernel
theorem d1_82 : decode method_2_code 82 = .ok (.areturn, 1) := by decide +kernel
theorem d1_83 : decode method_2_code 83 = .ok (.getstatic 37, 3) := by decide +kernel
theorem d1_86 : decode method_2_code 86 = .ok (.areturn, 1) := by decide +kernel
theorem pn_com_2fexample_2ftermflow_2ftermflow_2fpull_2fStatusPlannedPinLaw : plainName "com/example/termflow/termflow/pull/StatusPlannedPinLaw" = true := by first | (simp [plainName, overriddenIn]; done) | decide +kernel
theorem ef_pick (m : MethodId) (i : Int32) : entryFrame m #[(.int i)] 1 = mkF m 0 #[.val (.int i)] [] := by
  first | (simp [entryFrame, mkF, argsToLocals, Value.category]; done) | rfl
def Q_pick (Z : State) (i : Int32) (w0 : Addr) (w1 : Addr) (w2 : Addr) (w3 : Addr) (w4 : Addr) (w5 : Addr) (w6 : Addr) (w7 : Addr) (w8 : Addr) (w9 : Addr) (h0 : Heap) (n0 : Nat) (v : Option Value) (h : Heap) (L : List Loc) : Prop := v = some (.ref (own_pick i w0 w1 w2 w3 w4 w5 w6 w7 w8 w9)) ∧ Fr n0 L ∧ h = h0
set_option maxRecDepth 65536 in
set_option maxHeartbeats 40000000 in
theorem rm_pick (l : Launch) (Z : State) (a0 : Array Value) (hw : ∀ d ∈ tables_1, d.before a0 Z = true) (ws : List Jvm.Cond) (i : Int32) (w0 : Addr) (w1 : Addr) (w2 : Addr) (w3 : Addr) (w4 : Addr) (w5 : Addr) (w6 : Addr) (w7 : Addr) (w8 : Addr) (w9 : Addr) (h0 : Heap) (n0 : Nat) (O0 : Old Z n0 h0) (S_PULLED : Sta Z Z.heap "com/example/termflow/termflow/pull/Status" "PULLED" "Lcom/example/termflow/termflow/pull/Status;" (.ref w0)) (S_PRESENT : Sta Z Z.heap "com/example/termflow/termflow/pull/Status" "PRESENT" "Lcom/example/termflow/termflow/pull/Status;" (.ref w1)) (S_REPLACED : Sta Z Z.heap "com/example/termflow/termflow/pull/Status" "REPLACED" "Lcom/example/termflow/termflow/pull/Status;" (.ref w2)) (S_RETRACTED : Sta Z Z.heap "com/example/termflow/termflow/pull/Status" "RETRACTED" "Lcom/example/termflow/termflow/pull/Status;" (.ref w3)) (S_NOOP : Sta Z Z.heap "com/example/termflow/termflow/pull/Status" "NOOP" "Lcom/example/termflow/termflow/pull/Status;" (.ref w4)) (S_REFUSED : Sta Z Z.heap "com/example/termflow/termflow/pull/Status" "REFUSED" "Lcom/example/termflow/termflow/pull/Status;" (.ref w5)) (S_WOULD_PULL : Sta Z Z.heap "com/example/termflow/termflow/pull/Status" "WOULD_PULL" "Lcom/example/termflow/termflow/pull/Status;" (.ref w6)) (S_WOULD_REPLACE : Sta Z Z.heap "com/example/termflow/termflow/pull/Status" "WOULD_REPLACE" "Lcom/example/termflow/termflow/pull/Status;" (.ref w7)) (S_WOULD_RETRACT : Sta Z Z.heap "com/example/termflow/termflow/pull/Status" "WOULD_RETRACT" "Lcom/example/termflow/termflow/pull/Status;" (.ref w8)) (S_MISSING : Sta Z Z.heap "com/example/termflow/termflow/pull/Status" "MISSING" "Lcom/example/termflow/termflow/pull/Status;" (.ref w9)) :
    MetFree l (⟨"com/example/termflow/termflow/pull/StatusPlannedPinLaw", "pick", "(I)Lcom/example/termflow/termflow/pull/Status;"⟩ : MethodName) (head1 (Jvm.Cond.code (⟨"com/example/termflow/termflow/pull/StatusPlannedPinLaw", "pick", "(I)Lcom/example/termflow/termflow/pull/Status;"⟩ : MethodName) method_2_code 1 (some (.object "com/example/termflow/termflow/pull/Status")) :: ws) ({ frames := 0, cells := 0, slots := 0, locals := 0 } : Room)) (fun aq_ Uq_ => aq_ = #[(.int i)] ∧ Z.Warmed39 Uq_.vm ∧ Uq_.heap = h0) (fun _ _ _ _ _ => True) (fun _ Uq_ oq_ Ur_ => ∃ vq_ Lq_, oq_ = .returned vq_ ∧ Q_pick Z i w0 w1 w2 w3 w4 w5 w6 w7 w8 w9 h0 n0 vq_ Ur_.heap Lq_ ∧ FrameEnd Uq_ oq_ Ur_ Lq_ ({ frames := 0, cells := 0, slots := 0, locals := 0 } : Room).cells ({ frames := 0, cells := 0, slots := 0, locals := 0 } : Room).slots) := by
  refine MetFree.of_bodySF (plainFor_of_name pn_com_2fexample_2ftermflow_2ftermflow_2fpull_2fStatusPlannedPinLaw) hisR ?_
  intro p e s m args below meth c s₁ Bd hml0 hP hK
  obtain ⟨rfl, hZ, hh⟩ := hP
  have hx := Bd.exec
  have hby := Bd.bytes
  have hml : c.maxLocals = 1 := hml0
  have hown : s.vm.findClass "com/example/termflow/termflow/pull/StatusPlannedPinLaw" = some m.cls := findClass_of_methodNamed Bd.named
  have hnm := (name_of_methodNamed Bd.named Bd.method).1
  have X0 : Stand p l e ({ frames := 0, cells := 0, slots := 0, locals := 0 } : Room) s m #[(.int i)] below meth c s₁ [] 0 0 := Stand.of_body Bd
  have e0 : s₁.heap = h0 := by rw [← hh, Bd.state]; rfl
  have N0 := Fr.nil n0
  have K0 := Keep.refl h0 []
  refine own_G.start (Q := Q_pick Z i w0 w1 w2 w3 w4 w5 w6 w7 w8 w9 h0 n0) (ef_pick m i) ?_
  refine own_G.step (g' := (mkF m 1 #[.val (.int i)] [(.int i)])) (fun tq_ kq_ => XS.iloadN X0.here hx rfl (hb hby d1_0) rfl kq_) ?_
  rcases Classical.em (i = (0 : Int32)) with hc1 | hc1
  · refine own_G.step (g' := (mkF m 4 #[.val (.int i)] [])) (fun tq_ kq_ => XS.ifNo X0.here hx rfl (hb hby d1_1) rfl ((if0 _ _).trans (teq hc1).2) kq_) ?_
    obtain ⟨T1, X1, e1, st1⟩ := getS2 X0 hx hZ hown (host := "") (Or.inl (hw _ (List.mem_of_getElem? (i := 5) rfl))) Via.refl e0 (Sta.ext O0.2 S_PULLED) (g := (mkF m 4 #[.val (.int i)] [])) rfl (hb hby d1_4)
    refine own_G.step (T' := T1) (g' := (mkF m 7 #[.val (.int i)] [(.ref w0)])) st1 ?_
    exact own_ret X1 e1 (v := some (.ref w0)) (fun h => by rw [Bd.returns] at h; cases h) Bd.notSynchronized ⟨(by simp [own_pick, hc1]), N0, rfl⟩ (by decide) (by decide) (fun fs hr => own_retR X1 hx Bd.returns rfl rfl (hb hby d1_7) hr)
  · refine own_G.step (g' := (mkF m 8 #[.val (.int i)] [])) (fun tq_ kq_ => XS.ifYes X0.here hx rfl (pc0 := 1) (pc' := 8) rfl (hb hby d1_1) rfl ((if0 _ _).trans (feq hc1).2) (by decide) (by decide) kq_) ?_
    refine own_G.step (g' := (mkF m 9 #[.val (.int i)] [(.int i)])) (fun tq_ kq_ => XS.iloadN X0.here hx rfl (hb hby d1_8) rfl kq_) ?_
    refine own_G.step (g' := (mkF m 10 #[.val (.int i)] [(.int (1 : Int32)), (.int i)])) (fun tq_ kq_ => XS.iconst X0.here hx rfl (hb hby d1_9) kq_) ?_
    rcases Classical.em (i = (1 : Int32)) with hc10 | hc10
    · refine own_G.step (g' := (mkF m 13 #[.val (.int i)] [])) (fun tq_ kq_ => XS.icmpNo X0.here hx rfl (hb hby d1_10) rfl (teq hc10).2 kq_) ?_
      obtain ⟨T2, X2, e2, st2⟩ := getS2 X0 hx hZ hown (host := "") (Or.inl (hw _ (List.mem_of_getElem? (i := 33) rfl))) Via.refl e0 (Sta.ext O0.2 S_PRESENT) (g := (mkF m 13 #[.val (.int i)] [])) rfl (hb hby d1_13)
      refine own_G.step (T' := T2) (g' := (mkF m 16 #[.val (.int i)] [(.ref w1)])) st2 ?_
      exact own_ret X2 e2 (v := some (.ref w1)) (fun h => by rw [Bd.returns] at h; cases h) Bd.notSynchronized ⟨(by simp [own_pick, hc1, hc10]), N0, rfl⟩ (by decide) (by decide) (fun fs hr => own_retR X2 hx Bd.returns rfl rfl (hb hby d1_16) hr)
    · refine own_G.step (g' := (mkF m 17 #[.val (.int i)] [])) (fun tq_ kq_ => XS.icmpYes X0.here hx rfl (pc0 := 10) (pc' := 17) rfl (hb hby d1_10) rfl (feq hc10).2 (by decide) (by decide) kq_) ?_
      refine own_G.step (g' := (mkF m 18 #[.val (.int i)] [(.int i)])) (fun tq_ kq_ => XS.iloadN X0.here hx rfl (hb hby d1_17) rfl kq_) ?_
      refine own_G.step (g' := (mkF m 19 #[.val (.int i)] [(.int (2 : Int32)), (.int i)])) (fun tq_ kq_ => XS.iconst X0.here hx rfl (hb hby d1_18) kq_) ?_
      rcases Classical.em (i = (2 : Int32)) with hc19 | hc19
      · refine own_G.step (g' := (mkF m 22 #[.val (.int i)] [])) (fun tq_ kq_ => XS.icmpNo X0.here hx rfl (hb hby d1_19) rfl (teq hc19).2 kq_) ?_
        obtain ⟨T3, X3, e3, st3⟩ := getS2 X0 hx hZ hown (host := "") (Or.inl (hw _ (List.mem_of_getElem? (i := 39) rfl))) Via.refl e0 (Sta.ext O0.2 S_REPLACED) (g := (mkF m 22 #[.val (.int i)] [])) rfl (hb hby d1_22)
        refine own_G.step (T' := T3) (g' := (mkF m 25 #[.val (.int i)] [(.ref w2)])) st3 ?_
        exact own_ret X3 e3 (v := some (.ref w2)) (fun h => by rw [Bd.returns] at h; cases h) Bd.notSynchronized ⟨(by simp [own_pick, hc1, hc10, hc19]), N0, rfl⟩ (by decide) (by decide) (fun fs hr => own_retR X3 hx Bd.returns rfl rfl (hb hby d1_25) hr)
      · refine own_G.step (g' := (mkF m 26 #[.val (.int i)] [])) (fun tq_ kq_ => XS.icmpYes X0.here hx rfl (pc0 := 19) (pc' := 26) rfl (hb hby d1_19) rfl (feq hc19).2 (by decide) (by decide) kq_) ?_
        refine own_G.step (g' := (mkF m 27 #[.val (.int i)] [(.int i)])) (fun tq_ kq_ => XS.iloadN X0.here hx rfl (hb hby d1_26) rfl kq_) ?_
        refine own_G.step (g' := (mkF m 28 #[.val (.int i)] [(.int (3 : Int32)), (.int i)])) (fun tq_ kq_ => XS.iconst X0.here hx rfl (hb hby d1_27) kq_) ?_
        rcases Classical.em (i = (3 : Int32)) with hc28 | hc28
        · refine own_G.step (g' := (mkF m 31 #[.val (.int i)] [])) (fun tq_ kq_ => XS.icmpNo X0.here hx rfl (hb hby d1_28) rfl (teq hc28).2 kq_) ?_
          obtain ⟨T4, X4, e4, st4⟩ := getS2 X0 hx hZ hown (host := "") (Or.inl (hw _ (List.mem_of_getElem? (i := 28) rfl))) Via.refl e0 (Sta.ext O0.2 S_RETRACTED) (g := (mkF m 31 #[.val (.int i)] [])) rfl (hb hby d1_31)
          refine own_G.step (T' := T4) (g' := (mkF m 34 #[.val (.int i)] [(.ref w3)])) st4 ?_
          exact own_ret X4 e4 (v := some (.ref w3)) (fun h => by rw [Bd.returns] at h; cases h) Bd.notSynchronized ⟨(by simp [own_pick, hc1, hc10, hc19, hc28]), N0, rfl⟩ (by decide) (by decide) (fun fs hr => own_retR X4 hx Bd.returns rfl rfl (hb hby d1_34) hr)
        · refine own_G.step (g' := (mkF m 35 #[.val (.int i)] [])) (fun tq_ kq_ => XS.icmpYes X0.here hx rfl (pc0 := 28) (pc' := 35) rfl (hb hby d1_28) rfl (feq hc28).2 (by decide) (by decide) kq_) ?_
          refine own_G.step (g' := (mkF m 36 #[.val (.int i)] [(.int i)])) (fun tq_ kq_ => XS.iloadN X0.here hx rfl (hb hby d1_35) rfl kq_) ?_
          refine own_G.step (g' := (mkF m 37 #[.val (.int i)] [(.int (4 : Int32)), (.int i)])) (fun tq_ kq_ => XS.iconst X0.here hx rfl (hb hby d1_36) kq_) ?_
          rcases Classical.em (i = (4 : Int32)) with hc37 | hc37
          · refine own_G.step (g' := (mkF m 40 #[.val (.int i)] [])) (fun tq_ kq_ => XS.icmpNo X0.here hx rfl (hb hby d1_37) rfl (teq hc37).2 kq_) ?_
            obtain ⟨T5, X5, e5, st5⟩ := getS2 X0 hx hZ hown (host := "") (Or.inl (hw _ (List.mem_of_getElem? (i := 35) rfl))) Via.refl e0 (Sta.ext O0.2 S_NOOP) (g := (mkF m 40 #[.val (.int i)] [])) rfl (hb hby d1_40)
            refine own_G.step (T' := T5) (g' := (mkF m 43 #[.val (.int i)] [(.ref w4)])) st5 ?_
            exact own_ret X5 e5 (v := some (.ref w4)) (fun h => by rw [Bd.returns] at h; cases h) Bd.notSynchronized ⟨(by simp [own_pick, hc1, hc10, hc19, hc28, hc37]), N0, rfl⟩ (by decide) (by decide) (fun fs hr => own_retR X5 hx Bd.returns rfl rfl (hb hby d1_43) hr)
          · refine own_G.step (g' := (mkF m 44 #[.val (.int i)] [])) (fun tq_ kq_ => XS.icmpYes X0.here hx rfl (pc0 := 37) (pc' := 44) rfl (hb hby d1_37) rfl (feq hc37).2 (by decide) (by decide) kq_) ?_
            refine own_G.step (g' := (mkF m 45 #[.val (.int i)] [(.int i)])) (fun tq_ kq_ => XS.iloadN X0.here hx rfl (hb hby d1_44) rfl kq_) ?_
            refine own_G.step (g' := (mkF m 46 #[.val (.int i)] [(.int (5 : Int32)), (.int i)])) (fun tq_ kq_ => XS.iconst X0.here hx rfl (hb hby d1_45) kq_) ?_
            rcases Classical.em (i = (5 : Int32)) with hc46 | hc46
            · refine own_G.step (g' := (mkF m 49 #[.val (.int i)] [])) (fun tq_ kq_ => XS.icmpNo X0.here hx rfl (hb hby d1_46) rfl (teq hc46).2 kq_) ?_
              obtain ⟨T6, X6, e6, st6⟩ := getS2 X0 hx hZ hown (host := "") (Or.inl (hw _ (List.mem_of_getElem? (i := 44) rfl))) Via.refl e0 (Sta.ext O0.2 S_REFUSED) (g := (mkF m 49 #[.val (.int i)] [])) rfl (hb hby d1_49)
              refine own_G.step (T' := T6) (g' := (mkF m 52 #[.val (.int i)] [(.ref w5)])) st6 ?_
              exact own_ret X6 e6 (v := some (.ref w5)) (fun h => by rw [Bd.returns] at h; cases h) Bd.notSynchronized ⟨(by simp [own_pick, hc1, hc10, hc19, hc28, hc37, hc46]), N0, rfl⟩ (by decide) (by decide) (fun fs hr => own_retR X6 hx Bd.returns rfl rfl (hb hby d1_52) hr)
            · refine own_G.step (g' := (mkF m 53 #[.val (.int i)] [])) (fun tq_ kq_ => XS.icmpYes X0.here hx rfl (pc0 := 46) (pc' := 53) rfl (hb hby d1_46) rfl (feq hc46).2 (by decide) (by decide) kq_) ?_
              refine own_G.step (g' := (mkF m 54 #[.val (.int i)] [(.int i)])) (fun tq_ kq_ => XS.iloadN X0.here hx rfl (hb hby d1_53) rfl kq_) ?_
              refine own_G.step (g' := (mkF m 56 #[.val (.int i)] [(.int (6 : Int32)), (.int i)])) (fun tq_ kq_ => XS.bipush X0.here hx rfl (hb hby d1_54) kq_) ?_
              rcases Classical.em (i = (6 : Int32)) with hc56 | hc56
              · refine own_G.step (g' := (mkF m 59 #[.val (.int i)] [])) (fun tq_ kq_ => XS.icmpNo X0.here hx rfl (hb hby d1_56) rfl (teq hc56).2 kq_) ?_
                obtain ⟨T7, X7, e7, st7⟩ := getS2 X0 hx hZ hown (host := "") (Or.inl (hw _ (List.mem_of_getElem? (i := 27) rfl))) Via.refl e0 (Sta.ext O0.2 S_WOULD_PULL) (g := (mkF m 59 #[.val (.int i)] [])) rfl (hb hby d1_59)
                refine own_G.step (T' := T7) (g' := (mkF m 62 #[.val (.int i)] [(.ref w6)])) st7 ?_
                exact own_ret X7 e7 (v := some (.ref w6)) (fun h => by rw [Bd.returns] at h; cases h) Bd.notSynchronized ⟨(by simp [own_pick, hc1, hc10, hc19, hc28, hc37, hc46, hc56]), N0, rfl⟩ (by decide) (by decide) (fun fs hr => own_retR X7 hx Bd.returns rfl rfl (hb hby d1_62) hr)
              · refine own_G.step (g' := (mkF m 63 #[.val (.int i)] [])) (fun tq_ kq_ => XS.icmpYes X0.here hx rfl (pc0 := 56) (pc' := 63) rfl (hb hby d1_56) rfl (feq hc56).2 (by decide) (by decide) kq_) ?_
                refine own_G.step (g' := (mkF m 64 #[.val (.int i)] [(.int i)])) (fun tq_ kq_ => XS.iloadN X0.here hx rfl (hb hby d1_63) rfl kq_) ?_
                refine own_G.step (g' := (mkF m 66 #[.val (.int i)] [(.int (7 : Int32)), (.int i)])) (fun tq_ kq_ => XS.bipush X0.here hx rfl (hb hby d1_64) kq_) ?_
                rcases Classical.em (i = (7 : Int32)) with hc66 | hc66
                · refine own_G.step (g' := (mkF m 69 #[.val (.int i)] [])) (fun tq_ kq_ => XS.icmpNo X0.here hx rfl (hb hby d1_66) rfl (teq hc66).2 kq_) ?_
                  obtain ⟨T8, X8, e8, st8⟩ := getS2 X0 hx hZ hown (host := "") (Or.inl (hw _ (List.mem_of_getElem? (i := 37) rfl))) Via.refl e0 (Sta.ext O0.2 S_WOULD_REPLACE) (g := (mkF m 69 #[.val (.int i)] [])) rfl (hb hby d1_69)
                  refine own_G.step (T' := T8) (g' := (mkF m 72 #[.val (.int i)] [(.ref w7)])) st8 ?_
                  exact own_ret X8 e8 (v := some (.ref w7)) (fun h => by rw [Bd.returns] at h; cases h) Bd.notSynchronized ⟨(by simp [own_pick, hc1, hc10, hc19, hc28, hc37, hc46, hc56, hc66]), N0, rfl⟩ (by decide) (by decide) (fun fs hr => own_retR X8 hx Bd.returns rfl rfl (hb hby d1_72) hr)
                · refine own_G.step (g' := (mkF m 73 #[.val (.int i)] [])) (fun tq_ kq_ => XS.icmpYes X0.here hx rfl (pc0 := 66) (pc' := 73) rfl (hb hby d1_66) rfl (feq hc66).2 (by decide) (by decide) kq_) ?_
                  refine own_G.step (g' := (mkF m 74 #[.val (.int i)] [(.int i)])) (fun tq_ kq_ => XS.iloadN X0.here hx rfl (hb hby d1_73) rfl kq_) ?_
                  refine own_G.step (g' := (mkF m 76 #[.val (.int i)] [(.int (8 : Int32)), (.int i)])) (fun tq_ kq_ => XS.bipush X0.here hx rfl (hb hby d1_74) kq_) ?_
                  rcases Classical.em (i = (8 : Int32)) with hc76 | hc76
                  · refine own_G.step (g' := (mkF m 79 #[.val (.int i)] [])) (fun tq_ kq_ => XS.icmpNo X0.here hx rfl (hb hby d1_76) rfl (teq hc76).2 kq_) ?_
                    obtain ⟨T9, X9, e9, st9⟩ := getS2 X0 hx hZ hown (host := "") (Or.inl (hw _ (List.mem_of_getElem? (i := 32) rfl))) Via.refl e0 (Sta.ext O0.2 S_WOULD_RETRACT) (g := (mkF m 79 #[.val (.int i)] [])) rfl (hb hby d1_79)
                    refine own_G.step (T' := T9) (g' := (mkF m 82 #[.val (.int i)] [(.ref w8)])) st9 ?_
                    exact own_ret X9 e9 (v := some (.ref w8)) (fun h => by rw [Bd.returns] at h; cases h) Bd.notSynchronized ⟨(by simp [own_pick, hc1, hc10, hc19, hc28, hc37, hc46, hc56, hc66, hc76]), N0, rfl⟩ (by decide) (by decide) (fun fs hr => own_retR X9 hx Bd.returns rfl rfl (hb hby d1_82) hr)
                  · refine own_G.step (g' := (mkF m 83 #[.val (.int i)] [])) (fun tq_ kq_ => XS.icmpYes X0.here hx rfl (pc0 := 76) (pc' := 83) rfl (hb hby d1_76) rfl (feq hc76).2 (by decide) (by decide) kq_) ?_
                    obtain ⟨T10, X10, e10, st10⟩ := getS2 X0 hx hZ hown (host := "") (Or.inl (hw _ (List.mem_of_getElem? (i := 42) rfl))) Via.refl e0 (Sta.ext O0.2 S_MISSING) (g := (mkF m 83 #[.val (.int i)] [])) rfl (hb hby d1_83)
                    refine own_G.step (T' := T10) (g' := (mkF m 86 #[.val (.int i)] [(.ref w9)])) st10 ?_
                    exact own_ret X10 e10 (v := some (.ref w9)) (fun h => by rw [Bd.returns] at h; cases h) Bd.notSynchronized ⟨(by simp [own_pick, hc1, hc10, hc19, hc28, hc37, hc46, hc56, hc66, hc76]), N0, rfl⟩ (by decide) (by decide) (fun fs hr => own_retR X10 hx Bd.returns rfl rfl (hb hby d1_86) hr)
theorem pd__28I_29Lcom_2fexample_2ftermflow_2ftermflow_2fpull_2fStatus_3b : parseMethodDescriptor "(I)Lcom/example/termflow/termflow/pull/Status;" = some ⟨[.int], some (.object "com/example/termflow/termflow/pull/Status")⟩ := by decide +kernel
theorem d4_0 : decode method_3_code 0 = .ok (.iload_n 0, 1) := by decide +kernel
theorem d4_1 : decode method_3_code 1 = .ok (.ifCond .ne 7, 3) := by decide +kernel
theorem d4_4 : decode method_3_code 4 = .ok (.getstatic 28, 3) := by decide +kernel
theorem d4_7 : decode method_3_code 7 = .ok (.areturn, 1) := by decide +kernel
theorem d4_8 : decode method_3_code 8 = .ok (.iload_n 0, 1) := by decide +kernel
theorem d4_9 : decode method_3_code 9 = .ok (.iconst 2, 1) := by decide +kernel
theorem d4_10 : decode method_3_code 10 = .ok (.if_icmp .ne 7, 3) := by decide +kernel
theorem d4_13 : decode method_3_code 13 = .ok (.getstatic 31, 3) := by decide +kernel
theorem d4_16 : decode method_3_code 16 = .ok (.areturn, 1) := by decide +kernel
theorem d4_17 : decode method_3_code 17 = .ok (.iload_n 0, 1) := by decide +kernel
theorem d4_18 : decode method_3_code 18 = .ok (.iconst 3, 1) := by decide +kernel
theorem d4_19 : decode method_3_code 19 = .ok (.if_icmp .ne 7, 3) := by decide +kernel
theorem d4_22 : decode method_3_code 22 = .ok (.getstatic 34, 3) := by decide +kernel
theorem d4_25 : decode method_3_code 25 = .ok (.areturn, 1) := by decide +kernel
theorem d4_26 : decode method_3_code 26 = .ok (.iload_n 0, 1) := by decide +kernel
theorem d4_27 : decode method_3_code 27 = .ok (.invokestatic 40, 3) := by decide +kernel
theorem d4_30 : decode method_3_code 30 = .ok (.areturn, 1) := by decide +kernel
theorem ef_exp (m : MethodId) (i : Int32) : entryFrame m #[(.int i)] 1 = mkF m 0 #[.val (.int i)] [] := by
  first | (simp [entryFrame, mkF, argsToLocals, Value.category]; done) | rfl
def Q_exp (Z : State) (i : Int32) (w0 : Addr) (w1 : Addr) (w2 : Addr) (w3 : Addr) (w4 : Addr) (w5 : Addr) (w6 : Addr) (w7 : Addr) (w8 : Addr) (w9 : Addr) (h0 : Heap) (n0 : Nat) (v : Option Value) (h : Heap) (L : List Loc) : Prop := v = some (.ref (own_exp i w0 w1 w2 w3 w4 w5 w6 w7 w8 w9)) ∧ Fr n0 L ∧ h = h0
set_option maxRecDepth 65536 in
set_option maxHeartbeats 40000000 in
theorem rm_exp (l : Launch) (Z : State) (a0 : Array Value) (hw : ∀ d ∈ tables_1, d.before a0 Z = true) (ws : List Jvm.Cond) (i : Int32) (w0 : Addr) (w1 : Addr) (w2 : Addr) (w3 : Addr) (w4 : Addr) (w5 : Addr) (w6 : Addr) (w7 : Addr) (w8 : Addr) (w9 : Addr) (h0 : Heap) (n0 : Nat) (O0 : Old Z n0 h0) (S_PULLED : Sta Z Z.heap "com/example/termflow/termflow/pull/Status" "PULLED" "Lcom/example/termflow/termflow/pull/Status;" (.ref w0)) (S_PRESENT : Sta Z Z.heap "com/example/termflow/termflow/pull/Status" "PRESENT" "Lcom/example/termflow/termflow/pull/Status;" (.ref w1)) (S_REPLACED : Sta Z Z.heap "com/example/termflow/termflow/pull/Status" "REPLACED" "Lcom/example/termflow/termflow/pull/Status;" (.ref w2)) (S_RETRACTED : Sta Z Z.heap "com/example/termflow/termflow/pull/Status" "RETRACTED" "Lcom/example/termflow/termflow/pull/Status;" (.ref w3)) (S_NOOP : Sta Z Z.heap "com/example/termflow/termflow/pull/Status" "NOOP" "Lcom/example/termflow/termflow/pull/Status;" (.ref w4)) (S_REFUSED : Sta Z Z.heap "com/example/termflow/termflow/pull/Status" "REFUSED" "Lcom/example/termflow/termflow/pull/Status;" (.ref w5)) (S_WOULD_PULL : Sta Z Z.heap "com/example/termflow/termflow/pull/Status" "WOULD_PULL" "Lcom/example/termflow/termflow/pull/Status;" (.ref w6)) (S_WOULD_REPLACE : Sta Z Z.heap "com/example/termflow/termflow/pull/Status" "WOULD_REPLACE" "Lcom/example/termflow/termflow/pull/Status;" (.ref w7)) (S_WOULD_RETRACT : Sta Z Z.heap "com/example/termflow/termflow/pull/Status" "WOULD_RETRACT" "Lcom/example/termflow/termflow/pull/Status;" (.ref w8)) (S_MISSING : Sta Z Z.heap "com/example/termflow/termflow/pull/Status" "MISSING" "Lcom/example/termflow/termflow/pull/Status;" (.ref w9)) :
    MetFree l (⟨"com/example/termflow/termflow/pull/StatusPlannedPinLaw", "expected", "(I)Lcom/example/termflow/termflow/pull/Status;"⟩ : MethodName) (head1 (Jvm.Cond.code (⟨"com/example/termflow/termflow/pull/StatusPlannedPinLaw", "expected", "(I)Lcom/example/termflow/termflow/pull/Status;"⟩ : MethodName) method_3_code 1 (some (.object "com/example/termflow/termflow/pull/Status")) :: ws) ({ frames := 1, cells := 0, slots := 0, locals := 12 } : Room)) (fun aq_ Uq_ => aq_ = #[(.int i)] ∧ Z.Warmed39 Uq_.vm ∧ Uq_.heap = h0) (fun _ _ _ _ _ => True) (fun _ Uq_ oq_ Ur_ => ∃ vq_ Lq_, oq_ = .returned vq_ ∧ Q_exp Z i w0 w1 w2 w3 w4 w5 w6 w7 w8 w9 h0 n0 vq_ Ur_.heap Lq_ ∧ FrameEnd Uq_ oq_ Ur_ Lq_ ({ frames := 1, cells := 0, slots := 0, locals := 12 } : Room).cells ({ frames := 1, cells := 0, slots := 0, locals := 12 } : Room).slots) := by
  refine MetFree.of_bodySF (plainFor_of_name pn_com_2fexample_2ftermflow_2ftermflow_2fpull_2fStatusPlannedPinLaw) hisR ?_
  intro p e s m args below meth c s₁ Bd hml0 hP hK
  obtain ⟨rfl, hZ, hh⟩ := hP
  have hx := Bd.exec
  have hby := Bd.bytes
  have hml : c.maxLocals = 1 := hml0
  have hown : s.vm.findClass "com/example/termflow/termflow/pull/StatusPlannedPinLaw" = some m.cls := findClass_of_methodNamed Bd.named
  have hnm := (name_of_methodNamed Bd.named Bd.method).1
  have X0 : Stand p l e ({ frames := 1, cells := 0, slots := 0, locals := 12 } : Room) s m #[(.int i)] below meth c s₁ [] 0 0 := Stand.of_body Bd
  have e0 : s₁.heap = h0 := by rw [← hh, Bd.state]; rfl
  have N0 := Fr.nil n0
  have K0 := Keep.refl h0 []
  refine own_G.start (Q := Q_exp Z i w0 w1 w2 w3 w4 w5 w6 w7 w8 w9 h0 n0) (ef_exp m i) ?_
  refine own_G.step (g' := (mkF m 1 #[.val (.int i)] [(.int i)])) (fun tq_ kq_ => XS.iloadN X0.here hx rfl (hb hby d4_0) rfl kq_) ?_
  rcases Classical.em (i = (0 : Int32)) with hc1 | hc1
  · refine own_G.step (g' := (mkF m 4 #[.val (.int i)] [])) (fun tq_ kq_ => XS.ifNo X0.here hx rfl (hb hby d4_1) rfl ((if0 _ _).trans (teq hc1).2) kq_) ?_
    obtain ⟨T1, X1, e1, st1⟩ := getS2 X0 hx hZ hown (host := "") (Or.inl (hw _ (List.mem_of_getElem? (i := 27) rfl))) Via.refl e0 (Sta.ext O0.2 S_WOULD_PULL) (g := (mkF m 4 #[.val (.int i)] [])) rfl (hb hby d4_4)
    refine own_G.step (T' := T1) (g' := (mkF m 7 #[.val (.int i)] [(.ref w6)])) st1 ?_
    exact own_ret X1 e1 (v := some (.ref w6)) (fun h => by rw [Bd.returns] at h; cases h) Bd.notSynchronized ⟨(by simp [own_exp, hc1]), N0, rfl⟩ (by decide) (by decide) (fun fs hr => own_retR X1 hx Bd.returns rfl rfl (hb hby d4_7) hr)
  · refine own_G.step (g' := (mkF m 8 #[.val (.int i)] [])) (fun tq_ kq_ => XS.ifYes X0.here hx rfl (pc0 := 1) (pc' := 8) rfl (hb hby d4_1) rfl ((if0 _ _).trans (feq hc1).2) (by decide) (by decide) kq_) ?_
    refine own_G.step (g' := (mkF m 9 #[.val (.int i)] [(.int i)])) (fun tq_ kq_ => XS.iloadN X0.here hx rfl (hb hby d4_8) rfl kq_) ?_
    refine own_G.step (g' := (mkF m 10 #[.val (.int i)] [(.int (2 : Int32)), (.int i)])) (fun tq_ kq_ => XS.iconst X0.here hx rfl (hb hby d4_9) kq_) ?_
    rcases Classical.em (i = (2 : Int32)) with hc10 | hc10
    · refine own_G.step (g' := (mkF m 13 #[.val (.int i)] [])) (fun tq_ kq_ => XS.icmpNo X0.here hx rfl (hb hby d4_10) rfl (teq hc10).2 kq_) ?_
      obtain ⟨T2, X2, e2, st2⟩ := getS2 X0 hx hZ hown (host := "") (Or.inl (hw _ (List.mem_of_getElem? (i := 37) rfl))) Via.refl e0 (Sta.ext O0.2 S_WOULD_REPLACE) (g := (mkF m 13 #[.val (.int i)] [])) rfl (hb hby d4_13)
      refine own_G.step (T' := T2) (g' := (mkF m 16 #[.val (.int i)] [(.ref w7)])) st2 ?_
      exact own_ret X2 e2 (v := some (.ref w7)) (fun h => by rw [Bd.returns] at h; cases h) Bd.notSynchronized ⟨(by simp [own_exp, hc1, hc10]), N0, rfl⟩ (by decide) (by decide) (fun fs hr => own_retR X2 hx Bd.returns rfl rfl (hb hby d4_16) hr)
    · refine own_G.step (g' := (mkF m 17 #[.val (.int i)] [])) (fun tq_ kq_ => XS.icmpYes X0.here hx rfl (pc0 := 10) (pc' := 17) rfl (hb hby d4_10) rfl (feq hc10).2 (by decide) (by decide) kq_) ?_
      refine own_G.step (g' := (mkF m 18 #[.val (.int i)] [(.int i)])) (fun tq_ kq_ => XS.iloadN X0.here hx rfl (hb hby d4_17) rfl kq_) ?_
      refine own_G.step (g' := (mkF m 19 #[.val (.int i)] [(.int (3 : Int32)), (.int i)])) (fun tq_ kq_ => XS.iconst X0.here hx rfl (hb hby d4_18) kq_) ?_
      rcases Classical.em (i = (3 : Int32)) with hc19 | hc19
      · refine own_G.step (g' := (mkF m 22 #[.val (.int i)] [])) (fun tq_ kq_ => XS.icmpNo X0.here hx rfl (hb hby d4_19) rfl (teq hc19).2 kq_) ?_
        obtain ⟨T3, X3, e3, st3⟩ := getS2 X0 hx hZ hown (host := "") (Or.inl (hw _ (List.mem_of_getElem? (i := 32) rfl))) Via.refl e0 (Sta.ext O0.2 S_WOULD_RETRACT) (g := (mkF m 22 #[.val (.int i)] [])) rfl (hb hby d4_22)
        refine own_G.step (T' := T3) (g' := (mkF m 25 #[.val (.int i)] [(.ref w8)])) st3 ?_
        exact own_ret X3 e3 (v := some (.ref w8)) (fun h => by rw [Bd.returns] at h; cases h) Bd.notSynchronized ⟨(by simp [own_exp, hc1, hc10, hc19]), N0, rfl⟩ (by decide) (by decide) (fun fs hr => own_retR X3 hx Bd.returns rfl rfl (hb hby d4_25) hr)
      · refine own_G.step (g' := (mkF m 26 #[.val (.int i)] [])) (fun tq_ kq_ => XS.icmpYes X0.here hx rfl (pc0 := 19) (pc' := 26) rfl (hb hby d4_19) rfl (feq hc19).2 (by decide) (by decide) kq_) ?_
        refine own_G.step (g' := (mkF m 27 #[.val (.int i)] [(.int i)])) (fun tq_ kq_ => XS.iloadN X0.here hx rfl (hb hby d4_26) rfl kq_) ?_
        obtain ⟨_, _, ⟨T4, L4, k4, n4⟩, -, X4, ⟨Lc4, hQ4, l4, y4, z4⟩, st4⟩ := Jvm.LawKit.callS X0 hx (y := (⟨"com/example/termflow/termflow/pull/StatusPlannedPinLaw", "pick", "(I)Lcom/example/termflow/termflow/pull/Status;"⟩ : MethodName)) hown (mvT hZ (hw _ (List.mem_of_getElem? (i := 1) rfl))) (mvT hZ (hw _ (List.mem_of_getElem? (i := 2) rfl))) (mvT hZ (hw _ (List.mem_of_getElem? (i := 3) rfl))) (mvT hZ (hw _ (List.mem_of_getElem? (i := 4) rfl))) (by decide) (backOf (W := 0) (rm_pick l Z a0 hw [] i w0 w1 w2 w3 w4 w5 w6 w7 w8 w9 h0 n0 O0 S_PULLED S_PRESENT S_REPLACED S_RETRACTED S_NOOP S_REFUSED S_WOULD_PULL S_WOULD_REPLACE S_WOULD_RETRACT S_MISSING) hZ (hw _ (List.mem_of_getElem? (i := 4) rfl)) (hw _ (List.mem_of_getElem? (i := 3) rfl)) (by decide) (by decide)) (g := (mkF m 27 #[.val (.int i)] [(.int i)])) rfl (by rw [hml]; rfl) (argsL := [(.int i)]) (rest := []) (lenOf pd__28I_29Lcom_2fexample_2ftermflow_2ftermflow_2fpull_2fStatus_3b rfl) rfl (by show 2 * 0 + _ ≤ _; exact Nat.le_of_eq rfl) (hb hby d4_27) (fun _ _ => ⟨rfl, e0, (by decide : 0 + 0 ≤ _), (by decide : 0 + 0 ≤ _)⟩)
        dsimp only [Pt.U, Pt.locs, Pt.cells, Pt.slots] at X4 l4 y4 z4 st4 hQ4
        subst l4 y4 z4
        obtain ⟨rfl, Nq4, P5⟩ := hQ4
        have N4 := Fr.app N0 Nq4
        refine own_G.step (T' := T4) (g' := (mkF m 30 #[.val (.int i)] [(.ref (own_pick i w0 w1 w2 w3 w4 w5 w6 w7 w8 w9))])) (fun tq_ kq_ => st4 _ kq_) ?_
        exact own_ret X4 P5 (v := some (.ref (own_pick i w0 w1 w2 w3 w4 w5 w6 w7 w8 w9))) (fun h => by rw [Bd.returns] at h; cases h) Bd.notSynchronized ⟨(by simp [own_exp, hc1, hc10, hc19]), N4, rfl⟩ (by decide) (by decide) (fun fs hr => own_retR X4 hx Bd.returns rfl rfl (hb hby d4_30) hr)
theorem d3_0 : decode jdk_37_method_2_code 0 = .ok (.aload_n 0, 1) := by decide +kernel
theorem d3_1 : decode jdk_37_method_2_code 1 = .ok (.getfield 7, 3) := by decide +kernel
theorem d3_4 : decode jdk_37_method_2_code 4 = .ok (.ireturn, 1) := by decide +kernel
theorem pn_java_2flang_2fEnum : plainName "java/lang/Enum" = true := by first | (simp [plainName, overriddenIn]; done) | decide +kernel
theorem ef_ord (m : MethodId) (a : Addr) : entryFrame m #[(.ref a)] 1 = mkF m 0 #[.val (.ref a)] [] := by
  first | (simp [entryFrame, mkF, argsToLocals, Value.category]; done) | rfl
def Q_ord (Z : State) (a : Addr) (o : Int32) (h0 : Heap) (n0 : Nat) (v : Option Value) (h : Heap) (L : List Loc) : Prop := v = some (.int o) ∧ Fr n0 L ∧ h = h0
set_option maxRecDepth 65536 in
set_option maxHeartbeats 40000000 in
theorem rm_ord (l : Launch) (Z : State) (a0 : Array Value) (hw : ∀ d ∈ tables_1, d.before a0 Z = true) (ws : List Jvm.Cond) (a : Addr) (o : Int32) (h0 : Heap) (n0 : Nat) (O0 : Old Z n0 h0) (Fa : Fld Z Z.heap a "java/lang/Enum" "ordinal" "I" (.int o)) :
    MetFree l (⟨"java/lang/Enum", "ordinal", "()I"⟩ : MethodName) (head1 (Jvm.Cond.code (⟨"java/lang/Enum", "ordinal", "()I"⟩ : MethodName) jdk_37_method_2_code 1 (some .int) :: ws) ({ frames := 0, cells := 0, slots := 0, locals := 0 } : Room)) (fun aq_ Uq_ => aq_ = #[(.ref a)] ∧ Z.Warmed39 Uq_.vm ∧ Uq_.heap = h0) (fun _ _ _ _ _ => True) (fun _ Uq_ oq_ Ur_ => ∃ vq_ Lq_, oq_ = .returned vq_ ∧ Q_ord Z a o h0 n0 vq_ Ur_.heap Lq_ ∧ FrameEnd Uq_ oq_ Ur_ Lq_ ({ frames := 0, cells := 0, slots := 0, locals := 0 } : Room).cells ({ frames := 0, cells := 0, slots := 0, locals := 0 } : Room).slots) := by
  refine MetFree.of_bodySF (plainFor_of_name pn_java_2flang_2fEnum) hisR ?_
  intro p e s m args below meth c s₁ Bd hml0 hP hK
  obtain ⟨rfl, hZ, hh⟩ := hP
  have hx := Bd.exec
  have hby := Bd.bytes
  have hml : c.maxLocals = 1 := hml0
  have hown : s.vm.findClass "java/lang/Enum" = some m.cls := findClass_of_methodNamed Bd.named
  have hnm := (name_of_methodNamed Bd.named Bd.method).1
  have X0 : Stand p l e ({ frames := 0, cells := 0, slots := 0, locals := 0 } : Room) s m #[(.ref a)] below meth c s₁ [] 0 0 := Stand.of_body Bd
  have e0 : s₁.heap = h0 := by rw [← hh, Bd.state]; rfl
  have N0 := Fr.nil n0
  have K0 := Keep.refl h0 []
  refine own_G.start (Q := Q_ord Z a o h0 n0) (ef_ord m a) ?_
  refine own_G.step (g' := (mkF m 1 #[.val (.ref a)] [(.ref a)])) (fun tq_ kq_ => XS.aloadN X0.here hx rfl (hb hby d3_0) rfl rfl kq_) ?_
  obtain ⟨T1, X1, e1, st1⟩ := getF X0 hx hZ hown (host := "") (Or.inl (hw _ (List.mem_of_getElem? (i := 20) rfl))) Via.refl e0 (Fld.ext O0.2 Fa) (g := (mkF m 1 #[.val (.ref a)] [(.ref a)])) rfl rfl (hb hby d3_1)
  refine own_G.step (T' := T1) (g' := (mkF m 4 #[.val (.ref a)] [(.int o)])) st1 ?_
  exact own_ret X1 e1 (v := some (.int o)) (fun h => by rw [Bd.returns] at h; cases h) Bd.notSynchronized ⟨rfl, N0, rfl⟩ (by decide) (by decide) (fun fs hr => retI X1 hx Bd.returns (hb hby d3_4) hr)
theorem pd__28_29I : parseMethodDescriptor "()I" = some ⟨[], some .int⟩ := by decide +kernel
theorem d2_0 : decode prog_85_method_7_code 0 = .ok (.aload_n 0, 1) := by decide +kernel
theorem d2_1 : decode prog_85_method_7_code 1 = .ok (.invokevirtual 76, 3) := by decide +kernel
theorem d2_4 : decode prog_85_method_7_code 4 = .ok (.tableswitch 50 0 3 #[32, 50, 38, 44], 32) := by decide +kernel
theorem d2_36 : decode prog_85_method_7_code 36 = .ok (.getstatic 22, 3) := by decide +kernel
theorem d2_39 : decode prog_85_method_7_code 39 = .ok (.goto 16, 3) := by decide +kernel
theorem d2_42 : decode prog_85_method_7_code 42 = .ok (.getstatic 25, 3) := by decide +kernel
theorem d2_45 : decode prog_85_method_7_code 45 = .ok (.goto 10, 3) := by decide +kernel
theorem d2_48 : decode prog_85_method_7_code 48 = .ok (.getstatic 28, 3) := by decide +kernel
theorem d2_51 : decode prog_85_method_7_code 51 = .ok (.goto 4, 3) := by decide +kernel
theorem d2_54 : decode prog_85_method_7_code 54 = .ok (.aload_n 0, 1) := by decide +kernel
theorem d2_55 : decode prog_85_method_7_code 55 = .ok (.areturn, 1) := by decide +kernel
theorem pn_com_2fexample_2ftermflow_2ftermflow_2fpull_2fStatus : plainName "com/example/termflow/termflow/pull/Status" = true := by first | (simp [plainName, overriddenIn]; done) | decide +kernel
theorem ef_plan (m : MethodId) (a : Addr) : entryFrame m #[(.ref a)] 1 = mkF m 0 #[.val (.ref a)] [] := by
  first | (simp [entryFrame, mkF, argsToLocals, Value.category]; done) | rfl
def Q_plan (Z : State) (a : Addr) (o : Int32) (w0 : Addr) (w1 : Addr) (w2 : Addr) (w3 : Addr) (w4 : Addr) (w5 : Addr) (w6 : Addr) (w7 : Addr) (w8 : Addr) (w9 : Addr) (h0 : Heap) (n0 : Nat) (v : Option Value) (h : Heap) (L : List Loc) : Prop := v = some (.ref (own_plan o a w6 w7 w8)) ∧ Fr n0 L ∧ h = h0
set_option maxRecDepth 65536 in
set_option maxHeartbeats 40000000 in
theorem rm_plan (l : Launch) (Z : State) (a0 : Array Value) (hw : ∀ d ∈ tables_1, d.before a0 Z = true) (ws : List Jvm.Cond) (a : Addr) (o : Int32) (w0 : Addr) (w1 : Addr) (w2 : Addr) (w3 : Addr) (w4 : Addr) (w5 : Addr) (w6 : Addr) (w7 : Addr) (w8 : Addr) (w9 : Addr) (h0 : Heap) (n0 : Nat) (O0 : Old Z n0 h0) (Ea : Exa Z Z.heap a "com/example/termflow/termflow/pull/Status") (Fa : Fld Z Z.heap a "java/lang/Enum" "ordinal" "I" (.int o)) (ho : o = (0 : Int32) ∨ o = (1 : Int32) ∨ o = (2 : Int32) ∨ o = (3 : Int32) ∨ o = (4 : Int32) ∨ o = (5 : Int32) ∨ o = (6 : Int32) ∨ o = (7 : Int32) ∨ o = (8 : Int32) ∨ o = (9 : Int32)) (S_PULLED : Sta Z Z.heap "com/example/termflow/termflow/pull/Status" "PULLED" "Lcom/example/termflow/termflow/pull/Status;" (.ref w0)) (S_PRESENT : Sta Z Z.heap "com/example/termflow/termflow/pull/Status" "PRESENT" "Lcom/example/termflow/termflow/pull/Status;" (.ref w1)) (S_REPLACED : Sta Z Z.heap "com/example/termflow/termflow/pull/Status" "REPLACED" "Lcom/example/termflow/termflow/pull/Status;" (.ref w2)) (S_RETRACTED : Sta Z Z.heap "com/example/termflow/termflow/pull/Status" "RETRACTED" "Lcom/example/termflow/termflow/pull/Status;" (.ref w3)) (S_NOOP : Sta Z Z.heap "com/example/termflow/termflow/pull/Status" "NOOP" "Lcom/example/termflow/termflow/pull/Status;" (.ref w4)) (S_REFUSED : Sta Z Z.heap "com/example/termflow/termflow/pull/Status" "REFUSED" "Lcom/example/termflow/termflow/pull/Status;" (.ref w5)) (S_WOULD_PULL : Sta Z Z.heap "com/example/termflow/termflow/pull/Status" "WOULD_PULL" "Lcom/example/termflow/termflow/pull/Status;" (.ref w6)) (S_WOULD_REPLACE : Sta Z Z.heap "com/example/termflow/termflow/pull/Status" "WOULD_REPLACE" "Lcom/example/termflow/termflow/pull/Status;" (.ref w7)) (S_WOULD_RETRACT : Sta Z Z.heap "com/example/termflow/termflow/pull/Status" "WOULD_RETRACT" "Lcom/example/termflow/termflow/pull/Status;" (.ref w8)) (S_MISSING : Sta Z Z.heap "com/example/termflow/termflow/pull/Status" "MISSING" "Lcom/example/termflow/termflow/pull/Status;" (.ref w9)) :
    MetFree l (⟨"com/example/termflow/termflow/pull/Status", "planned", "()Lcom/example/termflow/termflow/pull/Status;"⟩ : MethodName) (head1 (Jvm.Cond.code (⟨"com/example/termflow/termflow/pull/Status", "planned", "()Lcom/example/termflow/termflow/pull/Status;"⟩ : MethodName) prog_85_method_7_code 1 (some (.object "com/example/termflow/termflow/pull/Status")) :: ws) ({ frames := 1, cells := 0, slots := 0, locals := 12 } : Room)) (fun aq_ Uq_ => aq_ = #[(.ref a)] ∧ Z.Warmed39 Uq_.vm ∧ Uq_.heap = h0) (fun _ _ _ _ _ => True) (fun _ Uq_ oq_ Ur_ => ∃ vq_ Lq_, oq_ = .returned vq_ ∧ Q_plan Z a o w0 w1 w2 w3 w4 w5 w6 w7 w8 w9 h0 n0 vq_ Ur_.heap Lq_ ∧ FrameEnd Uq_ oq_ Ur_ Lq_ ({ frames := 1, cells := 0, slots := 0, locals := 12 } : Room).cells ({ frames := 1, cells := 0, slots := 0, locals := 12 } : Room).slots) := by
  refine MetFree.of_bodySF (plainFor_of_name pn_com_2fexample_2ftermflow_2ftermflow_2fpull_2fStatus) hisR ?_
  intro p e s m args below meth c s₁ Bd hml0 hP hK
  obtain ⟨rfl, hZ, hh⟩ := hP
  have hx := Bd.exec
  have hby := Bd.bytes
  have hml : c.maxLocals = 1 := hml0
  have hown : s.vm.findClass "com/example/termflow/termflow/pull/Status" = some m.cls := findClass_of_methodNamed Bd.named
  have hnm := (name_of_methodNamed Bd.named Bd.method).1
  have X0 : Stand p l e ({ frames := 1, cells := 0, slots := 0, locals := 12 } : Room) s m #[(.ref a)] below meth c s₁ [] 0 0 := Stand.of_body Bd
  have e0 : s₁.heap = h0 := by rw [← hh, Bd.state]; rfl
  have N0 := Fr.nil n0
  have K0 := Keep.refl h0 []
  refine own_G.start (Q := Q_plan Z a o w0 w1 w2 w3 w4 w5 w6 w7 w8 w9 h0 n0) (ef_plan m a) ?_
  refine own_G.step (g' := (mkF m 1 #[.val (.ref a)] [(.ref a)])) (fun tq_ kq_ => XS.aloadN X0.here hx rfl (hb hby d2_0) rfl rfl kq_) ?_
  obtain ⟨cq1, kq1, q1a, q1b, q1c⟩ := isOf hZ e0 (Exa.ext O0.2 Ea)
  obtain ⟨_, _, ⟨T1, L1, k1, n1⟩, -, X1, ⟨Lc1, hQ1, l1, y1, z1⟩, st1⟩ := X0.virtualBackUp hx (x := (⟨"com/example/termflow/termflow/pull/Status", "ordinal", "()I"⟩ : MethodName)) (y := (⟨"java/lang/Enum", "ordinal", "()I"⟩ : MethodName)) (owner := "java/lang/Enum") hown (mvT hZ (hw _ (List.mem_of_getElem? (i := 13) rfl))) (mvT hZ (hw _ (List.mem_of_getElem? (i := 14) rfl))) (mvT hZ (hw _ (List.mem_of_getElem? (i := 15) rfl))) (by decide) (mvT hZ (hw _ (List.mem_of_getElem? (i := 17) rfl))) (mvT hZ (hw _ (List.mem_of_getElem? (i := 16) rfl))) (backOf (W := 0) (rm_ord l Z a0 hw [] a o h0 n0 O0 Fa) hZ (hw _ (List.mem_of_getElem? (i := 19) rfl)) (hw _ (List.mem_of_getElem? (i := 18) rfl)) (by decide) (by decide)) q1a q1c (g := (mkF m 1 #[.val (.ref a)] [(.ref a)])) rfl (by rw [hml]; rfl) (Steps.refl _) (argsL := []) (rest := []) (lenOf pd__28_29I rfl) rfl (by show 2 * 0 + _ ≤ _; exact Nat.le_of_eq rfl) (hb hby d2_1) (fun _ _ => ⟨rfl, e0, (by decide : 0 + 0 ≤ _), (by decide : 0 + 0 ≤ _)⟩)
  dsimp only [Pt.U, Pt.locs, Pt.cells, Pt.slots] at X1 l1 y1 z1 st1 hQ1
  subst l1 y1 z1
  obtain ⟨rfl, Nq1, P2⟩ := hQ1
  have N1 := Fr.app N0 Nq1
  refine own_G.step (T' := T1) (g' := (mkF m 4 #[.val (.ref a)] [(.int o)])) (fun tq_ kq_ => st1.trans kq_) ?_
  rcases ho with rfl | rfl | rfl | rfl | rfl | rfl | rfl | rfl | rfl | rfl
  · refine own_G.step (g' := (mkF m 36 #[.val (.ref a)] [])) (fun tq_ kq_ => XS.tswIn X1.here hx rfl (pc0 := 4) (pc' := 36) (o := 32) rfl (hb hby d2_4) rfl (by decide) (by decide) (by decide) (by decide) kq_) ?_
    obtain ⟨T3, X3, e3, st3⟩ := getS2 X1 hx hZ hown (host := "") (Or.inl (hw _ (List.mem_of_getElem? (i := 22) rfl))) Via.refl P2 (Sta.ext O0.2 S_WOULD_PULL) (g := (mkF m 36 #[.val (.ref a)] [])) rfl (hb hby d2_36)
    refine own_G.step (T' := T3) (g' := (mkF m 39 #[.val (.ref a)] [(.ref w6)])) st3 ?_
    refine own_G.step (g' := (mkF m 55 #[.val (.ref a)] [(.ref w6)])) (fun tq_ kq_ => XS.goto X3.here hx rfl (pc0 := 39) (pc' := 55) rfl (hb hby d2_39) (by decide) (by decide) kq_) ?_
    exact own_ret X3 e3 (v := some (.ref w6)) (fun h => by rw [Bd.returns] at h; cases h) Bd.notSynchronized ⟨(by simp [own_plan]), N1, rfl⟩ (by decide) (by decide) (fun fs hr => own_retR X3 hx Bd.returns rfl rfl (hb hby d2_55) hr)
  · refine own_G.step (g' := (mkF m 54 #[.val (.ref a)] [])) (fun tq_ kq_ => XS.tswIn X1.here hx rfl (pc0 := 4) (pc' := 54) (o := 50) rfl (hb hby d2_4) rfl (by decide) (by decide) (by decide) (by decide) kq_) ?_
    refine own_G.step (g' := (mkF m 55 #[.val (.ref a)] [(.ref a)])) (fun tq_ kq_ => XS.aloadN X1.here hx rfl (hb hby d2_54) rfl rfl kq_) ?_
    exact own_ret X1 P2 (v := some (.ref a)) (fun h => by rw [Bd.returns] at h; cases h) Bd.notSynchronized ⟨(by simp [own_plan]), N1, rfl⟩ (by decide) (by decide) (fun fs hr => own_retR X1 hx Bd.returns rfl rfl (hb hby d2_55) hr)
  · refine own_G.step (g' := (mkF m 42 #[.val (.ref a)] [])) (fun tq_ kq_ => XS.tswIn X1.here hx rfl (pc0 := 4) (pc' := 42) (o := 38) rfl (hb hby d2_4) rfl (by decide) (by decide) (by decide) (by decide) kq_) ?_
    obtain ⟨T4, X4, e4, st4⟩ := getS2 X1 hx hZ hown (host := "") (Or.inl (hw _ (List.mem_of_getElem? (i := 41) rfl))) Via.refl P2 (Sta.ext O0.2 S_WOULD_REPLACE) (g := (mkF m 42 #[.val (.ref a)] [])) rfl (hb hby d2_42)
    refine own_G.step (T' := T4) (g' := (mkF m 45 #[.val (.ref a)] [(.ref w7)])) st4 ?_
    refine own_G.step (g' := (mkF m 55 #[.val (.ref a)] [(.ref w7)])) (fun tq_ kq_ => XS.goto X4.here hx rfl (pc0 := 45) (pc' := 55) rfl (hb hby d2_45) (by decide) (by decide) kq_) ?_
    exact own_ret X4 e4 (v := some (.ref w7)) (fun h => by rw [Bd.returns] at h; cases h) Bd.notSynchronized ⟨(by simp [own_plan]), N1, rfl⟩ (by decide) (by decide) (fun fs hr => own_retR X4 hx Bd.returns rfl rfl (hb hby d2_55) hr)
  · refine own_G.step (g' := (mkF m 48 #[.val (.ref a)] [])) (fun tq_ kq_ => XS.tswIn X1.here hx rfl (pc0 := 4) (pc' := 48) (o := 44) rfl (hb hby d2_4) rfl (by decide) (by decide) (by decide) (by decide) kq_) ?_
    obtain ⟨T5, X5, e5, st5⟩ := getS2 X1 hx hZ hown (host := "") (Or.inl (hw _ (List.mem_of_getElem? (i := 30) rfl))) Via.refl P2 (Sta.ext O0.2 S_WOULD_RETRACT) (g := (mkF m 48 #[.val (.ref a)] [])) rfl (hb hby d2_48)
    refine own_G.step (T' := T5) (g' := (mkF m 51 #[.val (.ref a)] [(.ref w8)])) st5 ?_
    refine own_G.step (g' := (mkF m 55 #[.val (.ref a)] [(.ref w8)])) (fun tq_ kq_ => XS.goto X5.here hx rfl (pc0 := 51) (pc' := 55) rfl (hb hby d2_51) (by decide) (by decide) kq_) ?_
    exact own_ret X5 e5 (v := some (.ref w8)) (fun h => by rw [Bd.returns] at h; cases h) Bd.notSynchronized ⟨(by simp [own_plan]), N1, rfl⟩ (by decide) (by decide) (fun fs hr => own_retR X5 hx Bd.returns rfl rfl (hb hby d2_55) hr)
  · refine own_G.step (g' := (mkF m 54 #[.val (.ref a)] [])) (fun tq_ kq_ => XS.tswOut X1.here hx rfl (pc0 := 4) (pc' := 54) rfl (hb hby d2_4) rfl (by decide) (by decide) (by decide) kq_) ?_
    refine own_G.step (g' := (mkF m 55 #[.val (.ref a)] [(.ref a)])) (fun tq_ kq_ => XS.aloadN X1.here hx rfl (hb hby d2_54) rfl rfl kq_) ?_
    exact own_ret X1 P2 (v := some (.ref a)) (fun h => by rw [Bd.returns] at h; cases h) Bd.notSynchronized ⟨(by simp [own_plan]), N1, rfl⟩ (by decide) (by decide) (fun fs hr => own_retR X1 hx Bd.returns rfl rfl (hb hby d2_55) hr)
  · refine own_G.step (g' := (mkF m 54 #[.val (.ref a)] [])) (fun tq_ kq_ => XS.tswOut X1.here hx rfl (pc0 := 4) (pc' := 54) rfl (hb hby d2_4) rfl (by decide) (by decide) (by decide) kq_) ?_
    refine own_G.step (g' := (mkF m 55 #[.val (.ref a)] [(.ref a)])) (fun tq_ kq_ => XS.aloadN X1.here hx rfl (hb hby d2_54) rfl rfl kq_) ?_
    exact own_ret X1 P2 (v := some (.ref a)) (fun h => by rw [Bd.returns] at h; cases h) Bd.notSynchronized ⟨(by simp [own_plan]), N1, rfl⟩ (by decide) (by decide) (fun fs hr => own_retR X1 hx Bd.returns rfl rfl (hb hby d2_55) hr)
  · refine own_G.step (g' := (mkF m 54 #[.val (.ref a)] [])) (fun tq_ kq_ => XS.tswOut X1.here hx rfl (pc0 := 4) (pc' := 54) rfl (hb hby d2_4) rfl (by decide) (by decide) (by decide) kq_) ?_
    refine own_G.step (g' := (mkF m 55 #[.val (.ref a)] [(.ref a)])) (fun tq_ kq_ => XS.aloadN X1.here hx rfl (hb hby d2_54) rfl rfl kq_) ?_
    exact own_ret X1 P2 (v := some (.ref a)) (fun h => by rw [Bd.returns] at h; cases h) Bd.notSynchronized ⟨(by simp [own_plan]), N1, rfl⟩ (by decide) (by decide) (fun fs hr => own_retR X1 hx Bd.returns rfl rfl (hb hby d2_55) hr)
  · refine own_G.step (g' := (mkF m 54 #[.val (.ref a)] [])) (fun tq_ kq_ => XS.tswOut X1.here hx rfl (pc0 := 4) (pc' := 54) rfl (hb hby d2_4) rfl (by decide) (by decide) (by decide) kq_) ?_
    refine own_G.step (g' := (mkF m 55 #[.val (.ref a)] [(.ref a)])) (fun tq_ kq_ => XS.aloadN X1.here hx rfl (hb hby d2_54) rfl rfl kq_) ?_
    exact own_ret X1 P2 (v := some (.ref a)) (fun h => by rw [Bd.returns] at h; cases h) Bd.notSynchronized ⟨(by simp [own_plan]), N1, rfl⟩ (by decide) (by decide) (fun fs hr => own_retR X1 hx Bd.returns rfl rfl (hb hby d2_55) hr)
  · refine own_G.step (g' := (mkF m 54 #[.val (.ref a)] [])) (fun tq_ kq_ => XS.tswOut X1.here hx rfl (pc0 := 4) (pc' := 54) rfl (hb hby d2_4) rfl (by decide) (by decide) (by decide) kq_) ?_
    refine own_G.step (g' := (mkF m 55 #[.val (.ref a)] [(.ref a)])) (fun tq_ kq_ => XS.aloadN X1.here hx rfl (hb hby d2_54) rfl rfl kq_) ?_
    exact own_ret X1 P2 (v := some (.ref a)) (fun h => by rw [Bd.returns] at h; cases h) Bd.notSynchronized ⟨(by simp [own_plan]), N1, rfl⟩ (by decide) (by decide) (fun fs hr => own_retR X1 hx Bd.returns rfl rfl (hb hby d2_55) hr)
  · refine own_G.step (g' := (mkF m 54 #[.val (.ref a)] [])) (fun tq_ kq_ => XS.tswOut X1.here hx rfl (pc0 := 4) (pc' := 54) rfl (hb hby d2_4) rfl (by decide) (by decide) (by decide) kq_) ?_
    refine own_G.step (g' := (mkF m 55 #[.val (.ref a)] [(.ref a)])) (fun tq_ kq_ => XS.aloadN X1.here hx rfl (hb hby d2_54) rfl rfl kq_) ?_
    exact own_ret X1 P2 (v := some (.ref a)) (fun h => by rw [Bd.returns] at h; cases h) Bd.notSynchronized ⟨(by simp [own_plan]), N1, rfl⟩ (by decide) (by decide) (fun fs hr => own_retR X1 hx Bd.returns rfl rfl (hb hby d2_55) hr)
theorem pd__28_29Lcom_2fexample_2ftermflow_2ftermflow_2fpull_2fStatus_3b : parseMethodDescriptor "()Lcom/example/termflow/termflow/pull/Status;" = some ⟨[], some (.object "com/example/termflow/termflow/pull/Status")⟩ := by decide +kernel
theorem ef_law (m : MethodId) (i0 : Int32) : entryFrame m #[(.int i0)] maxLocals = mkF m 0 #[.val (.int i0), .unset, .unset, .unset] [] := by
  first | (simp [entryFrame, mkF, argsToLocals, Value.category, maxLocals]; done) | rfl
def Q_law (Z : State) (i0 : Int32) (w0 : Addr) (w1 : Addr) (w2 : Addr) (w3 : Addr) (w4 : Addr) (w5 : Addr) (w6 : Addr) (w7 : Addr) (w8 : Addr) (w9 : Addr) (h0 : Heap) (n0 : Nat) (v : Option Value) (h : Heap) (L : List Loc) : Prop := v = some (.int 1) ∧ Fr n0 L
set_option maxRecDepth 65536 in
set_option maxHeartbeats 40000000 in
theorem rm_law (l : Launch) (Z : State) (a0 : Array Value) (hw : ∀ d ∈ tables_1, d.before a0 Z = true) (ws : List Jvm.Cond) (i0 : Int32) (w0 : Addr) (w1 : Addr) (w2 : Addr) (w3 : Addr) (w4 : Addr) (w5 : Addr) (w6 : Addr) (w7 : Addr) (w8 : Addr) (w9 : Addr) (h0 : Heap) (n0 : Nat) (O0 : Old Z n0 h0) (S_PULLED : Sta Z Z.heap "com/example/termflow/termflow/pull/Status" "PULLED" "Lcom/example/termflow/termflow/pull/Status;" (.ref w0)) (S_PRESENT : Sta Z Z.heap "com/example/termflow/termflow/pull/Status" "PRESENT" "Lcom/example/termflow/termflow/pull/Status;" (.ref w1)) (S_REPLACED : Sta Z Z.heap "com/example/termflow/termflow/pull/Status" "REPLACED" "Lcom/example/termflow/termflow/pull/Status;" (.ref w2)) (S_RETRACTED : Sta Z Z.heap "com/example/termflow/termflow/pull/Status" "RETRACTED" "Lcom/example/termflow/termflow/pull/Status;" (.ref w3)) (S_NOOP : Sta Z Z.heap "com/example/termflow/termflow/pull/Status" "NOOP" "Lcom/example/termflow/termflow/pull/Status;" (.ref w4)) (S_REFUSED : Sta Z Z.heap "com/example/termflow/termflow/pull/Status" "REFUSED" "Lcom/example/termflow/termflow/pull/Status;" (.ref w5)) (S_WOULD_PULL : Sta Z Z.heap "com/example/termflow/termflow/pull/Status" "WOULD_PULL" "Lcom/example/termflow/termflow/pull/Status;" (.ref w6)) (S_WOULD_REPLACE : Sta Z Z.heap "com/example/termflow/termflow/pull/Status" "WOULD_REPLACE" "Lcom/example/termflow/termflow/pull/Status;" (.ref w7)) (S_WOULD_RETRACT : Sta Z Z.heap "com/example/termflow/termflow/pull/Status" "WOULD_RETRACT" "Lcom/example/termflow/termflow/pull/Status;" (.ref w8)) (S_MISSING : Sta Z Z.heap "com/example/termflow/termflow/pull/Status" "MISSING" "Lcom/example/termflow/termflow/pull/Status;" (.ref w9)) (E_PULLED : Exa Z Z.heap w0 "com/example/termflow/termflow/pull/Status") (E_PRESENT : Exa Z Z.heap w1 "com/example/termflow/termflow/pull/Status") (E_REPLACED : Exa Z Z.heap w2 "com/example/termflow/termflow/pull/Status") (E_RETRACTED : Exa Z Z.heap w3 "com/example/termflow/termflow/pull/Status") (E_NOOP : Exa Z Z.heap w4 "com/example/termflow/termflow/pull/Status") (E_REFUSED : Exa Z Z.heap w5 "com/example/termflow/termflow/pull/Status") (E_WOULD_PULL : Exa Z Z.heap w6 "com/example/termflow/termflow/pull/Status") (E_WOULD_REPLACE : Exa Z Z.heap w7 "com/example/termflow/termflow/pull/Status") (E_WOULD_RETRACT : Exa Z Z.heap w8 "com/example/termflow/termflow/pull/Status") (E_MISSING : Exa Z Z.heap w9 "com/example/termflow/termflow/pull/Status") (F_PULLED_ordinal : Fld Z Z.heap w0 "java/lang/Enum" "ordinal" "I" (.int (0 : Int32))) (F_PRESENT_ordinal : Fld Z Z.heap w1 "java/lang/Enum" "ordinal" "I" (.int (1 : Int32))) (F_REPLACED_ordinal : Fld Z Z.heap w2 "java/lang/Enum" "ordinal" "I" (.int (2 : Int32))) (F_RETRACTED_ordinal : Fld Z Z.heap w3 "java/lang/Enum" "ordinal" "I" (.int (3 : Int32))) (F_NOOP_ordinal : Fld Z Z.heap w4 "java/lang/Enum" "ordinal" "I" (.int (4 : Int32))) (F_REFUSED_ordinal : Fld Z Z.heap w5 "java/lang/Enum" "ordinal" "I" (.int (5 : Int32))) (F_WOULD_PULL_ordinal : Fld Z Z.heap w6 "java/lang/Enum" "ordinal" "I" (.int (6 : Int32))) (F_WOULD_REPLACE_ordinal : Fld Z Z.heap w7 "java/lang/Enum" "ordinal" "I" (.int (7 : Int32))) (F_WOULD_RETRACT_ordinal : Fld Z Z.heap w8 "java/lang/Enum" "ordinal" "I" (.int (8 : Int32))) (F_MISSING_ordinal : Fld Z Z.heap w9 "java/lang/Enum" "ordinal" "I" (.int (9 : Int32))) :
    MetFree l x (head1 (Jvm.Cond.code x code maxLocals ret :: ws) room_1) (fun aq_ Uq_ => aq_ = #[(.int i0)] ∧ Z.Warmed39 Uq_.vm ∧ Uq_.heap = h0) (fun _ _ _ _ _ => True) (fun _ Uq_ oq_ Ur_ => ∃ vq_ Lq_, oq_ = .returned vq_ ∧ Q_law Z i0 w0 w1 w2 w3 w4 w5 w6 w7 w8 w9 h0 n0 vq_ Ur_.heap Lq_ ∧ FrameEnd Uq_ oq_ Ur_ Lq_ 0 0) := by
  refine MetFree.of_bodySF (plainFor_of_name pn_com_2fexample_2ftermflow_2ftermflow_2fpull_2fStatusPlannedPinLaw) hisR ?_
  intro p e s m args below meth c s₁ Bd hml0 hP hK
  obtain ⟨rfl, hZ, hh⟩ := hP
  have hx := Bd.exec
  have hby := Bd.bytes
  have hml : c.maxLocals = 4 := hml0
  have hown : s.vm.findClass "com/example/termflow/termflow/pull/StatusPlannedPinLaw" = some m.cls := findClass_of_methodNamed Bd.named
  have hnm := (name_of_methodNamed Bd.named Bd.method).1
  have X0 : Stand p l e room_1 s m #[(.int i0)] below meth c s₁ [] 0 0 := Stand.of_body Bd
  have e0 : s₁.heap = h0 := by rw [← hh, Bd.state]; rfl
  have N0 := Fr.nil n0
  have K0 := Keep.refl h0 []
  refine own_G.start (Q := Q_law Z i0 w0 w1 w2 w3 w4 w5 w6 w7 w8 w9 h0 n0) (ef_law m i0) ?_
  refine own_G.step (g' := (mkF m 1 #[.val (.int i0), .unset, .unset, .unset] [(.int i0)])) (fun tq_ kq_ => XS.iloadN X0.here hx rfl (hb hby at_0) rfl kq_) ?_
  refine own_G.step (g' := (mkF m 3 #[.val (.int i0), .unset, .unset, .unset] [(.int (2147483647 : Int32)), (.int i0)])) (fun tq_ kq_ => X0.ldcInt hx hown (mvT hZ (hw _ (List.mem_of_getElem? (i := 0) rfl))) (g := (mkF m 1 #[.val (.int i0), .unset, .unset, .unset] [(.int i0)])) rfl (hb hby at_1) _ kq_) ?_
  refine own_G.step (g' := (mkF m 4 #[.val (.int i0), .unset, .unset, .unset] [(.int (i0 &&& (2147483647 : Int32)))])) (fun tq_ kq_ => XS.iand X0.here hx rfl (hb hby at_3) rfl kq_) ?_
  refine own_G.step (g' := (mkF m 6 #[.val (.int i0), .unset, .unset, .unset] [(.int (10 : Int32)), (.int (i0 &&& (2147483647 : Int32)))])) (fun tq_ kq_ => XS.bipush X0.here hx rfl (hb hby at_4) kq_) ?_
  refine own_G.step (g' := (mkF m 7 #[.val (.int i0), .unset, .unset, .unset] [(.int ((i0 &&& (2147483647 : Int32)) % (10 : Int32)))])) (fun tq_ kq_ => iremM (g := (mkF m 6 #[.val (.int i0), .unset, .unset, .unset] [(.int (10 : Int32)), (.int (i0 &&& (2147483647 : Int32)))])) X0 hx rfl (hb hby at_6) rfl (by decide) kq_) ?_
  refine own_G.step (g' := (mkF m 8 #[.val (.int i0), .val (.int ((i0 &&& (2147483647 : Int32)) % (10 : Int32))), .unset, .unset] [])) (fun tq_ kq_ => XS.istoreN X0.here hx rfl (hb hby at_7) rfl (l' := #[.val (.int i0), .val (.int ((i0 &&& (2147483647 : Int32)) % (10 : Int32))), .unset, .unset]) rfl kq_) ?_
  obtain ⟨i, hi⟩ : ∃ z, z = ((i0 &&& (2147483647 : Int32)) % (10 : Int32)) := ⟨_, rfl⟩
  refine own_G.cast (g' := (mkF m 8 #[.val (.int i0), .val (.int i), .unset, .unset] [])) (by rw [hi]) ?_
  have hten := own_ten i0
  rw [← hi] at hten
  rcases hten with rfl | rfl | rfl | rfl | rfl | rfl | rfl | rfl | rfl | rfl
  · refine own_G.step (g' := (mkF m 9 #[.val (.int i0), .val (.int (0 : Int32)), .unset, .unset] [(.int (0 : Int32))])) (fun tq_ kq_ => XS.iloadN X0.here hx rfl (hb hby at_8) rfl kq_) ?_
    obtain ⟨_, _, ⟨T1, L1, k1, n1⟩, -, X1, ⟨Lc1, hQ1, l1, y1, z1⟩, st1⟩ := Jvm.LawKit.callS X0 hx (y := (⟨"com/example/termflow/termflow/pull/StatusPlannedPinLaw", "pick", "(I)Lcom/example/termflow/termflow/pull/Status;"⟩ : MethodName)) hown (mvT hZ (hw _ (List.mem_of_getElem? (i := 1) rfl))) (mvT hZ (hw _ (List.mem_of_getElem? (i := 2) rfl))) (mvT hZ (hw _ (List.mem_of_getElem? (i := 3) rfl))) (mvT hZ (hw _ (List.mem_of_getElem? (i := 4) rfl))) (by decide) (backOf (W := 0) (rm_pick l Z a0 hw [] (0 : Int32) w0 w1 w2 w3 w4 w5 w6 w7 w8 w9 h0 n0 O0 S_PULLED S_PRESENT S_REPLACED S_RETRACTED S_NOOP S_REFUSED S_WOULD_PULL S_WOULD_REPLACE S_WOULD_RETRACT S_MISSING) hZ (hw _ (List.mem_of_getElem? (i := 4) rfl)) (hw _ (List.mem_of_getElem? (i := 3) rfl)) (by decide) (by decide)) (g := (mkF m 9 #[.val (.int i0), .val (.int (0 : Int32)), .unset, .unset] [(.int (0 : Int32))])) rfl (by rw [hml]; rfl) (argsL := [(.int (0 : Int32))]) (rest := []) (lenOf pd__28I_29Lcom_2fexample_2ftermflow_2ftermflow_2fpull_2fStatus_3b rfl) rfl (by show 2 * 0 + _ ≤ _; exact Nat.le_of_eq rfl) (hb hby at_9) (fun _ _ => ⟨rfl, e0, (by decide : 0 + 0 ≤ _), (by decide : 0 + 0 ≤ _)⟩)
    dsimp only [Pt.U, Pt.locs, Pt.cells, Pt.slots] at X1 l1 y1 z1 st1 hQ1
    subst l1 y1 z1
    obtain ⟨rfl, Nq1, P2⟩ := hQ1
    have N1 := Fr.app N0 Nq1
    refine own_G.step (T' := T1) (g' := (mkF m 12 #[.val (.int i0), .val (.int (0 : Int32)), .unset, .unset] [(.ref (own_pick (0 : Int32) w0 w1 w2 w3 w4 w5 w6 w7 w8 w9))])) (fun tq_ kq_ => st1 _ kq_) ?_
    have hp3 : own_pick (0 : Int32) w0 w1 w2 w3 w4 w5 w6 w7 w8 w9 = w0 := by simp [own_pick]
    refine own_G.cast (g' := (mkF m 12 #[.val (.int i0), .val (.int (0 : Int32)), .unset, .unset] [(.ref w0)])) (by rw [hp3]) ?_
    refine own_G.step (g' := (mkF m 13 #[.val (.int i0), .val (.int (0 : Int32)), .val (.ref w0), .unset] [])) (fun tq_ kq_ => XS.astoreN X1.here hx rfl (hb hby at_12) rfl rfl (l' := #[.val (.int i0), .val (.int (0 : Int32)), .val (.ref w0), .unset]) rfl kq_) ?_
    refine own_G.step (g' := (mkF m 14 #[.val (.int i0), .val (.int (0 : Int32)), .val (.ref w0), .unset] [(.ref w0)])) (fun tq_ kq_ => XS.aloadN X1.here hx rfl (hb hby at_13) rfl rfl kq_) ?_
    obtain ⟨cq4, kq4, q4a, q4b, q4c⟩ := isOf hZ P2 (Exa.ext O0.2 E_PULLED)
    obtain ⟨_, _, ⟨T4, L4, k4, n4⟩, -, X4, ⟨Lc4, hQ4, l4, y4, z4⟩, st4⟩ := X1.virtualBack hx (y := (⟨"com/example/termflow/termflow/pull/Status", "planned", "()Lcom/example/termflow/termflow/pull/Status;"⟩ : MethodName)) (z := (⟨"com/example/termflow/termflow/pull/Status", "planned", "()Lcom/example/termflow/termflow/pull/Status;"⟩ : MethodName)) hown (mvT hZ (hw _ (List.mem_of_getElem? (i := 8) rfl))) (mvT hZ (hw _ (List.mem_of_getElem? (i := 9) rfl))) (notFace_of_selects (args := #[]) (mvT hZ (hw _ (List.mem_of_getElem? (i := 11) rfl)))) (mvT hZ (hw _ (List.mem_of_getElem? (i := 11) rfl))) (mvT hZ (hw _ (List.mem_of_getElem? (i := 10) rfl))) (by decide) (backOf (W := 0) (rm_plan l Z a0 hw [] w0 (0 : Int32) w0 w1 w2 w3 w4 w5 w6 w7 w8 w9 h0 n0 O0 E_PULLED F_PULLED_ordinal (by decide) S_PULLED S_PRESENT S_REPLACED S_RETRACTED S_NOOP S_REFUSED S_WOULD_PULL S_WOULD_REPLACE S_WOULD_RETRACT S_MISSING) hZ (hw _ (List.mem_of_getElem? (i := 12) rfl)) (hw _ (List.mem_of_getElem? (i := 6) rfl)) (by decide) (by decide)) q4a q4c (g := (mkF m 14 #[.val (.int i0), .val (.int (0 : Int32)), .val (.ref w0), .unset] [(.ref w0)])) rfl (by rw [hml]; rfl) (Steps.refl _) (argsL := []) (rest := []) (lenOf pd__28_29Lcom_2fexample_2ftermflow_2ftermflow_2fpull_2fStatus_3b rfl) rfl (by show 2 * 0 + _ ≤ _; exact Nat.le_of_eq rfl) (hb hby at_14) (fun _ _ => ⟨rfl, P2, (by decide : 0 + 0 ≤ _), (by decide : 0 + 0 ≤ _)⟩)
    dsimp only [Pt.U, Pt.locs, Pt.cells, Pt.slots] at X4 l4 y4 z4 st4 hQ4
    subst l4 y4 z4
    obtain ⟨rfl, Nq4, P5⟩ := hQ4
    have N4 := Fr.app N1 Nq4
    refine own_G.step (T' := T4) (g' := (mkF m 17 #[.val (.int i0), .val (.int (0 : Int32)), .val (.ref w0), .unset] [(.ref (own_plan (0 : Int32) w0 w6 w7 w8))])) (fun tq_ kq_ => st4.trans kq_) ?_
    have hp6 : own_plan (0 : Int32) w0 w6 w7 w8 = w6 := by simp [own_plan]
    refine own_G.cast (g' := (mkF m 17 #[.val (.int i0), .val (.int (0 : Int32)), .val (.ref w0), .unset] [(.ref w6)])) (by rw [hp6]) ?_
    refine own_G.step (g' := (mkF m 18 #[.val (.int i0), .val (.int (0 : Int32)), .val (.ref w0), .val (.ref w6)] [])) (fun tq_ kq_ => XS.astoreN X4.here hx rfl (hb hby at_17) rfl rfl (l' := #[.val (.int i0), .val (.int (0 : Int32)), .val (.ref w0), .val (.ref w6)]) rfl kq_) ?_
    refine own_G.step (g' := (mkF m 19 #[.val (.int i0), .val (.int (0 : Int32)), .val (.ref w0), .val (.ref w6)] [(.ref w6)])) (fun tq_ kq_ => XS.aloadN X4.here hx rfl (hb hby at_18) rfl rfl kq_) ?_
    refine own_G.step (g' := (mkF m 20 #[.val (.int i0), .val (.int (0 : Int32)), .val (.ref w0), .val (.ref w6)] [(.int (0 : Int32)), (.ref w6)])) (fun tq_ kq_ => XS.iloadN X4.here hx rfl (hb hby at_19) rfl kq_) ?_
    obtain ⟨_, _, ⟨T7, L7, k7, n7⟩, -, X7, ⟨Lc7, hQ7, l7, y7, z7⟩, st7⟩ := Jvm.LawKit.callS X4 hx (y := (⟨"com/example/termflow/termflow/pull/StatusPlannedPinLaw", "expected", "(I)Lcom/example/termflow/termflow/pull/Status;"⟩ : MethodName)) hown (mvT hZ (hw _ (List.mem_of_getElem? (i := 24) rfl))) (mvT hZ (hw _ (List.mem_of_getElem? (i := 25) rfl))) (mvT hZ (hw _ (List.mem_of_getElem? (i := 3) rfl))) (mvT hZ (hw _ (List.mem_of_getElem? (i := 26) rfl))) (by decide) (backOf (W := 1) (rm_exp l Z a0 hw [] (0 : Int32) w0 w1 w2 w3 w4 w5 w6 w7 w8 w9 h0 n0 O0 S_PULLED S_PRESENT S_REPLACED S_RETRACTED S_NOOP S_REFUSED S_WOULD_PULL S_WOULD_REPLACE S_WOULD_RETRACT S_MISSING) hZ (hw _ (List.mem_of_getElem? (i := 26) rfl)) (hw _ (List.mem_of_getElem? (i := 3) rfl)) (by decide) (by decide)) (g := (mkF m 20 #[.val (.int i0), .val (.int (0 : Int32)), .val (.ref w0), .val (.ref w6)] [(.int (0 : Int32)), (.ref w6)])) rfl (by rw [hml]; rfl) (argsL := [(.int (0 : Int32))]) (rest := [(.ref w6)]) (lenOf pd__28I_29Lcom_2fexample_2ftermflow_2ftermflow_2fpull_2fStatus_3b rfl) rfl (by show 2 * 0 + _ ≤ _; exact Nat.le_of_eq rfl) (hb hby at_20) (fun _ _ => ⟨rfl, P5, (by decide : 0 + 0 ≤ _), (by decide : 0 + 0 ≤ _)⟩)
    dsimp only [Pt.U, Pt.locs, Pt.cells, Pt.slots] at X7 l7 y7 z7 st7 hQ7
    subst l7 y7 z7
    obtain ⟨rfl, Nq7, P8⟩ := hQ7
    have N7 := Fr.app N4 Nq7
    refine own_G.step (T' := T7) (g' := (mkF m 23 #[.val (.int i0), .val (.int (0 : Int32)), .val (.ref w0), .val (.ref w6)] [(.ref (own_exp (0 : Int32) w0 w1 w2 w3 w4 w5 w6 w7 w8 w9)), (.ref w6)])) (fun tq_ kq_ => st7 _ kq_) ?_
    have hp9 : own_exp (0 : Int32) w0 w1 w2 w3 w4 w5 w6 w7 w8 w9 = w6 := by simp [own_exp, own_pick]
    refine own_G.cast (g' := (mkF m 23 #[.val (.int i0), .val (.int (0 : Int32)), .val (.ref w0), .val (.ref w6)] [(.ref w6), (.ref w6)])) (by rw [hp9]) ?_
    refine own_G.step (g' := (mkF m 28 #[.val (.int i0), .val (.int (0 : Int32)), .val (.ref w0), .val (.ref w6)] [])) (fun tq_ kq_ => Jvm.RoadKit.acmp (g := (mkF m 23 #[.val (.int i0), .val (.int (0 : Int32)), .val (.ref w0), .val (.ref w6)] [(.ref w6), (.ref w6)])) X7 hx rfl rfl rfl (pc0 := 23) (pc' := 28) (same := true) rfl (hb hby at_23) rfl (decide_eq_true rfl) (by decide) (by decide) kq_) ?_
    refine own_G.step (g' := (mkF m 29 #[.val (.int i0), .val (.int (0 : Int32)), .val (.ref w0), .val (.ref w6)] [(.ref w6)])) (fun tq_ kq_ => XS.aloadN X7.here hx rfl (hb hby at_28) rfl rfl kq_) ?_
    obtain ⟨cq10, kq10, q10a, q10b, q10c⟩ := isOf hZ P8 (Exa.ext O0.2 E_WOULD_PULL)
    obtain ⟨_, _, ⟨T10, L10, k10, n10⟩, -, X10, ⟨Lc10, hQ10, l10, y10, z10⟩, st10⟩ := X7.virtualBack hx (y := (⟨"com/example/termflow/termflow/pull/Status", "planned", "()Lcom/example/termflow/termflow/pull/Status;"⟩ : MethodName)) (z := (⟨"com/example/termflow/termflow/pull/Status", "planned", "()Lcom/example/termflow/termflow/pull/Status;"⟩ : MethodName)) hown (mvT hZ (hw _ (List.mem_of_getElem? (i := 8) rfl))) (mvT hZ (hw _ (List.mem_of_getElem? (i := 9) rfl))) (notFace_of_selects (args := #[]) (mvT hZ (hw _ (List.mem_of_getElem? (i := 11) rfl)))) (mvT hZ (hw _ (List.mem_of_getElem? (i := 11) rfl))) (mvT hZ (hw _ (List.mem_of_getElem? (i := 10) rfl))) (by decide) (backOf (W := 0) (rm_plan l Z a0 hw [] w6 (6 : Int32) w0 w1 w2 w3 w4 w5 w6 w7 w8 w9 h0 n0 O0 E_WOULD_PULL F_WOULD_PULL_ordinal (by decide) S_PULLED S_PRESENT S_REPLACED S_RETRACTED S_NOOP S_REFUSED S_WOULD_PULL S_WOULD_REPLACE S_WOULD_RETRACT S_MISSING) hZ (hw _ (List.mem_of_getElem? (i := 12) rfl)) (hw _ (List.mem_of_getElem? (i := 6) rfl)) (by decide) (by decide)) q10a q10c (g := (mkF m 29 #[.val (.int i0), .val (.int (0 : Int32)), .val (.ref w0), .val (.ref w6)] [(.ref w6)])) rfl (by rw [hml]; rfl) (Steps.refl _) (argsL := []) (rest := []) (lenOf pd__28_29Lcom_2fexample_2ftermflow_2ftermflow_2fpull_2fStatus_3b rfl) rfl (by show 2 * 0 + _ ≤ _; exact Nat.le_of_eq rfl) (hb hby at_29) (fun _ _ => ⟨rfl, P8, (by decide : 0 + 0 ≤ _), (by decide : 0 + 0 ≤ _)⟩)
    dsimp only [Pt.U, Pt.locs, Pt.cells, Pt.slots] at X10 l10 y10 z10 st10 hQ10
    subst l10 y10 z10
    obtain ⟨rfl, Nq10, P11⟩ := hQ10
    have N10 := Fr.app N7 Nq10
    refine own_G.step (T' := T10) (g' := (mkF m 32 #[.val (.int i0), .val (.int (0 : Int32)), .val (.ref w0), .val (.ref w6)] [(.ref (own_plan (6 : Int32) w6 w6 w7 w8))])) (fun tq_ kq_ => st10.trans kq_) ?_
    have hp12 : own_plan (6 : Int32) w6 w6 w7 w8 = w6 := by simp [own_plan]
    refine own_G.cast (g' := (mkF m 32 #[.val (.int i0), .val (.int (0 : Int32)), .val (.ref w0), .val (.ref w6)] [(.ref w6)])) (by rw [hp12]) ?_
    refine own_G.step (g' := (mkF m 33 #[.val (.int i0), .val (.int (0 : Int32)), .val (.ref w0), .val (.ref w6)] [(.ref w6), (.ref w6)])) (fun tq_ kq_ => XS.aloadN X10.here hx rfl (hb hby at_32) rfl rfl kq_) ?_
    refine own_G.step (g' := (mkF m 36 #[.val (.int i0), .val (.int (0 : Int32)), .val (.ref w0), .val (.ref w6)] [])) (fun tq_ kq_ => Jvm.RoadKit.acmp (g := (mkF m 33 #[.val (.int i0), .val (.int (0 : Int32)), .val (.ref w0), .val (.ref w6)] [(.ref w6), (.ref w6)])) X10 hx rfl rfl rfl (pc0 := 33) (pc' := 36) (same := true) rfl (hb hby at_33) rfl (decide_eq_true rfl) (by decide) (by decide) kq_) ?_
    refine own_G.step (g' := (mkF m 37 #[.val (.int i0), .val (.int (0 : Int32)), .val (.ref w0), .val (.ref w6)] [(.int (1 : Int32))])) (fun tq_ kq_ => XS.iconst X10.here hx rfl (hb hby at_36) kq_) ?_
    refine own_G.step (g' := (mkF m 41 #[.val (.int i0), .val (.int (0 : Int32)), .val (.ref w0), .val (.ref w6)] [(.int (1 : Int32))])) (fun tq_ kq_ => XS.goto X10.here hx rfl (pc0 := 37) (pc' := 41) rfl (hb hby at_37) (by decide) (by decide) kq_) ?_
    exact own_ret X10 P11 (v := some (.int (1 : Int32))) (fun h => by rw [Bd.returns] at h; cases h) Bd.notSynchronized ⟨rfl, N10⟩ (by decide) (by decide) (fun fs hr => retN X10 hx (t := .boolean) Bd.returns (by simp) (hb hby at_41) hr)
  · refine own_G.step (g' := (mkF m 9 #[.val (.int i0), .val (.int (1 : Int32)), .unset, .unset] [(.int (1 : Int32))])) (fun tq_ kq_ => XS.iloadN X0.here hx rfl (hb hby at_8) rfl kq_) ?_
    obtain ⟨_, _, ⟨T13, L13, k13, n13⟩, -, X13, ⟨Lc13, hQ13, l13, y13, z13⟩, st13⟩ := Jvm.LawKit.callS X0 hx (y := (⟨"com/example/termflow/termflow/pull/StatusPlannedPinLaw", "pick", "(I)Lcom/example/termflow/termflow/pull/Status;"⟩ : MethodName)) hown (mvT hZ (hw _ (List.mem_of_getElem? (i := 1) rfl))) (mvT hZ (hw _ (List.mem_of_getElem? (i := 2) rfl))) (mvT hZ (hw _ (List.mem_of_getElem? (i := 3) rfl))) (mvT hZ (hw _ (List.mem_of_getElem? (i := 4) rfl))) (by decide) (backOf (W := 0) (rm_pick l Z a0 hw [] (1 : Int32) w0 w1 w2 w3 w4 w5 w6 w7 w8 w9 h0 n0 O0 S_PULLED S_PRESENT S_REPLACED S_RETRACTED S_NOOP S_REFUSED S_WOULD_PULL S_WOULD_REPLACE S_WOULD_RETRACT S_MISSING) hZ (hw _ (List.mem_of_getElem? (i := 4) rfl)) (hw _ (List.mem_of_getElem? (i := 3) rfl)) (by decide) (by decide)) (g := (mkF m 9 #[.val (.int i0), .val (.int (1 : Int32)), .unset, .unset] [(.int (1 : Int32))])) rfl (by rw [hml]; rfl) (argsL := [(.int (1 : Int32))]) (rest := []) (lenOf pd__28I_29Lcom_2fexample_2ftermflow_2ftermflow_2fpull_2fStatus_3b rfl) rfl (by show 2 * 0 + _ ≤ _; exact Nat.le_of_eq rfl) (hb hby at_9) (fun _ _ => ⟨rfl, e0, (by decide : 0 + 0 ≤ _), (by decide : 0 + 0 ≤ _)⟩)
    dsimp only [Pt.U, Pt.locs, Pt.cells, Pt.slots] at X13 l13 y13 z13 st13 hQ13
    subst l13 y13 z13
    obtain ⟨rfl, Nq13, P14⟩ := hQ13
    have N13 := Fr.app N0 Nq13
    refine own_G.step (T' := T13) (g' := (mkF m 12 #[.val (.int i0), .val (.int (1 : Int32)), .unset, .unset] [(.ref (own_pick (1 : Int32) w0 w1 w2 w3 w4 w5 w6 w7 w8 w9))])) (fun tq_ kq_ => st13 _ kq_) ?_
    have hp15 : own_pick (1 : Int32) w0 w1 w2 w3 w4 w5 w6 w7 w8 w9 = w1 := by simp [own_pick]
    refine own_G.cast (g' := (mkF m 12 #[.val (.int i0), .val (.int (1 : Int32)), .unset, .unset] [(.ref w1)])) (by rw [hp15]) ?_
    refine own_G.step (g' := (mkF m 13 #[.val (.int i0), .val (.int (1 : Int32)), .val (.ref w1), .unset] [])) (fun tq_ kq_ => XS.astoreN X13.here hx rfl (hb hby at_12) rfl rfl (l' := #[.val (.int i0), .val (.int (1 : Int32)), .val (.ref w1), .unset]) rfl kq_) ?_
    refine own_G.step (g' := (mkF m 14 #[.val (.int i0), .val (.int (1 : Int32)), .val (.ref w1), .unset] [(.ref w1)])) (fun tq_ kq_ => XS.aloadN X13.here hx rfl (hb hby at_13) rfl rfl kq_) ?_
    obtain ⟨cq16, kq16, q16a, q16b, q16c⟩ := isOf hZ P14 (Exa.ext O0.2 E_PRESENT)
    obtain ⟨_, _, ⟨T16, L16, k16, n16⟩, -, X16, ⟨Lc16, hQ16, l16, y16, z16⟩, st16⟩ := X13.virtualBack hx (y := (⟨"com/example/termflow/termflow/pull/Status", "planned", "()Lcom/example/termflow/termflow/pull/Status;"⟩ : MethodName)) (z := (⟨"com/example/termflow/termflow/pull/Status", "planned", "()Lcom/example/termflow/termflow/pull/Status;"⟩ : MethodName)) hown (mvT hZ (hw _ (List.mem_of_getElem? (i := 8) rfl))) (mvT hZ (hw _ (List.mem_of_getElem? (i := 9) rfl))) (notFace_of_selects (args := #[]) (mvT hZ (hw _ (List.mem_of_getElem? (i := 11) rfl)))) (mvT hZ (hw _ (List.mem_of_getElem? (i := 11) rfl))) (mvT hZ (hw _ (List.mem_of_getElem? (i := 10) rfl))) (by decide) (backOf (W := 0) (rm_plan l Z a0 hw [] w1 (1 : Int32) w0 w1 w2 w3 w4 w5 w6 w7 w8 w9 h0 n0 O0 E_PRESENT F_PRESENT_ordinal (by decide) S_PULLED S_PRESENT S_REPLACED S_RETRACTED S_NOOP S_REFUSED S_WOULD_PULL S_WOULD_REPLACE S_WOULD_RETRACT S_MISSING) hZ (hw _ (List.mem_of_getElem? (i := 12) rfl)) (hw _ (List.mem_of_getElem? (i := 6) rfl)) (by decide) (by decide)) q16a q16c (g := (mkF m 14 #[.val (.int i0), .val (.int (1 : Int32)), .val (.ref w1), .unset] [(.ref w1)])) rfl (by rw [hml]; rfl) (Steps.refl _) (argsL := []) (rest := []) (lenOf pd__28_29Lcom_2fexample_2ftermflow_2ftermflow_2fpull_2fStatus_3b rfl) rfl (by show 2 * 0 + _ ≤ _; exact Nat.le_of_eq rfl) (hb hby at_14) (fun _ _ => ⟨rfl, P14, (by decide : 0 + 0 ≤ _), (by decide : 0 + 0 ≤ _)⟩)
    dsimp only [Pt.U, Pt.locs, Pt.cells, Pt.slots] at X16 l16 y16 z16 st16 hQ16
    subst l16 y16 z16
    obtain ⟨rfl, Nq16, P17⟩ := hQ16
    have N16 := Fr.app N13 Nq16
    refine own_G.step (T' := T16) (g' := (mkF m 17 #[.val (.int i0), .val (.int (1 : Int32)), .val (.ref w1), .unset] [(.ref (own_plan (1 : Int32) w1 w6 w7 w8))])) (fun tq_ kq_ => st16.trans kq_) ?_
    have hp18 : own_plan (1 : Int32) w1 w6 w7 w8 = w1 := by simp [own_plan]
    refine own_G.cast (g' := (mkF m 17 #[.val (.int i0), .val (.int (1 : Int32)), .val (.ref w1), .unset] [(.ref w1)])) (by rw [hp18]) ?_
    refine own_G.step (g' := (mkF m 18 #[.val (.int i0), .val (.int (1 : Int32)), .val (.ref w1), .val (.ref w1)] [])) (fun tq_ kq_ => XS.astoreN X16.here hx rfl (hb hby at_17) rfl rfl (l' := #[.val (.int i0), .val (.int (1 : Int32)), .val (.ref w1), .val (.ref w1)]) rfl kq_) ?_
    refine own_G.step (g' := (mkF m 19 #[.val (.int i0), .val (.int (1 : Int32)), .val (.ref w1), .val (.ref w1)] [(.ref w1)])) (fun tq_ kq_ => XS.aloadN X16.here hx rfl (hb hby at_18) rfl rfl kq_) ?_
    refine own_G.step (g' := (mkF m 20 #[.val (.int i0), .val (.int (1 : Int32)), .val (.ref w1), .val (.ref w1)] [(.int (1 : Int32)), (.ref w1)])) (fun tq_ kq_ => XS.iloadN X16.here hx rfl (hb hby at_19) rfl kq_) ?_
    obtain ⟨_, _, ⟨T19, L19, k19, n19⟩, -, X19, ⟨Lc19, hQ19, l19, y19, z19⟩, st19⟩ := Jvm.LawKit.callS X16 hx (y := (⟨"com/example/termflow/termflow/pull/StatusPlannedPinLaw", "expected", "(I)Lcom/example/termflow/termflow/pull/Status;"⟩ : MethodName)) hown (mvT hZ (hw _ (List.mem_of_getElem? (i := 24) rfl))) (mvT hZ (hw _ (List.mem_of_getElem? (i := 25) rfl))) (mvT hZ (hw _ (List.mem_of_getElem? (i := 3) rfl))) (mvT hZ (hw _ (List.mem_of_getElem? (i := 26) rfl))) (by decide) (backOf (W := 1) (rm_exp l Z a0 hw [] (1 : Int32) w0 w1 w2 w3 w4 w5 w6 w7 w8 w9 h0 n0 O0 S_PULLED S_PRESENT S_REPLACED S_RETRACTED S_NOOP S_REFUSED S_WOULD_PULL S_WOULD_REPLACE S_WOULD_RETRACT S_MISSING) hZ (hw _ (List.mem_of_getElem? (i := 26) rfl)) (hw _ (List.mem_of_getElem? (i := 3) rfl)) (by decide) (by decide)) (g := (mkF m 20 #[.val (.int i0), .val (.int (1 : Int32)), .val (.ref w1), .val (.ref w1)] [(.int (1 : Int32)), (.ref w1)])) rfl (by rw [hml]; rfl) (argsL := [(.int (1 : Int32))]) (rest := [(.ref w1)]) (lenOf pd__28I_29Lcom_2fexample_2ftermflow_2ftermflow_2fpull_2fStatus_3b rfl) rfl (by show 2 * 0 + _ ≤ _; exact Nat.le_of_eq rfl) (hb hby at_20) (fun _ _ => ⟨rfl, P17, (by decide : 0 + 0 ≤ _), (by decide : 0 + 0 ≤ _)⟩)
    dsimp only [Pt.U, Pt.locs, Pt.cells, Pt.slots] at X19 l19 y19 z19 st19 hQ19
    subst l19 y19 z19
    obtain ⟨rfl, Nq19, P20⟩ := hQ19
    have N19 := Fr.app N16 Nq19
    refine own_G.step (T' := T19) (g' := (mkF m 23 #[.val (.int i0), .val (.int (1 : Int32)), .val (.ref w1), .val (.ref w1)] [(.ref (own_exp (1 : Int32) w0 w1 w2 w3 w4 w5 w6 w7 w8 w9)), (.ref w1)])) (fun tq_ kq_ => st19 _ kq_) ?_
    have hp21 : own_exp (1 : Int32) w0 w1 w2 w3 w4 w5 w6 w7 w8 w9 = w1 := by simp [own_exp, own_pick]
    refine own_G.cast (g' := (mkF m 23 #[.val (.int i0), .val (.int (1 : Int32)), .val (.ref w1), .val (.ref w1)] [(.ref w1), (.ref w1)])) (by rw [hp21]) ?_
    refine own_G.step (g' := (mkF m 28 #[.val (.int i0), .val (.int (1 : Int32)), .val (.ref w1), .val (.ref w1)] [])) (fun tq_ kq_ => Jvm.RoadKit.acmp (g := (mkF m 23 #[.val (.int i0), .val (.int (1 : Int32)), .val (.ref w1), .val (.ref w1)] [(.ref w1), (.ref w1)])) X19 hx rfl rfl rfl (pc0 := 23) (pc' := 28) (same := true) rfl (hb hby at_23) rfl (decide_eq_true rfl) (by decide) (by decide) kq_) ?_
    refine own_G.step (g' := (mkF m 29 #[.val (.int i0), .val (.int (1 : Int32)), .val (.ref w1), .val (.ref w1)] [(.ref w1)])) (fun tq_ kq_ => XS.aloadN X19.here hx rfl (hb hby at_28) rfl rfl kq_) ?_
    obtain ⟨cq22, kq22, q22a, q22b, q22c⟩ := isOf hZ P20 (Exa.ext O0.2 E_PRESENT)
    obtain ⟨_, _, ⟨T22, L22, k22, n22⟩, -, X22, ⟨Lc22, hQ22, l22, y22, z22⟩, st22⟩ := X19.virtualBack hx (y := (⟨"com/example/termflow/termflow/pull/Status", "planned", "()Lcom/example/termflow/termflow/pull/Status;"⟩ : MethodName)) (z := (⟨"com/example/termflow/termflow/pull/Status", "planned", "()Lcom/example/termflow/termflow/pull/Status;"⟩ : MethodName)) hown (mvT hZ (hw _ (List.mem_of_getElem? (i := 8) rfl))) (mvT hZ (hw _ (List.mem_of_getElem? (i := 9) rfl))) (notFace_of_selects (args := #[]) (mvT hZ (hw _ (List.mem_of_getElem? (i := 11) rfl)))) (mvT hZ (hw _ (List.mem_of_getElem? (i := 11) rfl))) (mvT hZ (hw _ (List.mem_of_getElem? (i := 10) rfl))) (by decide) (backOf (W := 0) (rm_plan l Z a0 hw [] w1 (1 : Int32) w0 w1 w2 w3 w4 w5 w6 w7 w8 w9 h0 n0 O0 E_PRESENT F_PRESENT_ordinal (by decide) S_PULLED S_PRESENT S_REPLACED S_RETRACTED S_NOOP S_REFUSED S_WOULD_PULL S_WOULD_REPLACE S_WOULD_RETRACT S_MISSING) hZ (hw _ (List.mem_of_getElem? (i := 12) rfl)) (hw _ (List.mem_of_getElem? (i := 6) rfl)) (by decide) (by decide)) q22a q22c (g := (mkF m 29 #[.val (.int i0), .val (.int (1 : Int32)), .val (.ref w1), .val (.ref w1)] [(.ref w1)])) rfl (by rw [hml]; rfl) (Steps.refl _) (argsL := []) (rest := []) (lenOf pd__28_29Lcom_2fexample_2ftermflow_2ftermflow_2fpull_2fStatus_3b rfl) rfl (by show 2 * 0 + _ ≤ _; exact Nat.le_of_eq rfl) (hb hby at_29) (fun _ _ => ⟨rfl, P20, (by decide : 0 + 0 ≤ _), (by decide : 0 + 0 ≤ _)⟩)
    dsimp only [Pt.U, Pt.locs, Pt.cells, Pt.slots] at X22 l22 y22 z22 st22 hQ22
    subst l22 y22 z22
    obtain ⟨rfl, Nq22, P23⟩ := hQ22
    have N22 := Fr.app N19 Nq22
    refine own_G.step (T' := T22) (g' := (mkF m 32 #[.val (.int i0), .val (.int (1 : Int32)), .val (.ref w1), .val (.ref w1)] [(.ref (own_plan (1 : Int32) w1 w6 w7 w8))])) (fun tq_ kq_ => st22.trans kq_) ?_
    have hp24 : own_plan (1 : Int32) w1 w6 w7 w8 = w1 := by simp [own_plan]
    refine own_G.cast (g' := (mkF m 32 #[.val (.int i0), .val (.int (1 : Int32)), .val (.ref w1), .val (.ref w1)] [(.ref w1)])) (by rw [hp24]) ?_
    refine own_G.step (g' := (mkF m 33 #[.val (.int i0), .val (.int (1 : Int32)), .val (.ref w1), .val (.ref w1)] [(.ref w1), (.ref w1)])) (fun tq_ kq_ => XS.aloadN X22.here hx rfl (hb hby at_32) rfl rfl kq_) ?_
    refine own_G.step (g' := (mkF m 36 #[.val (.int i0), .val (.int (1 : Int32)), .val (.ref w1), .val (.ref w1)] [])) (fun tq_ kq_ => Jvm.RoadKit.acmp (g := (mkF m 33 #[.val (.int i0), .val (.int (1 : Int32)), .val (.ref w1), .val (.ref w1)] [(.ref w1), (.ref w1)])) X22 hx rfl rfl rfl (pc0 := 33) (pc' := 36) (same := true) rfl (hb hby at_33) rfl (decide_eq_true rfl) (by decide) (by decide) kq_) ?_
    refine own_G.step (g' := (mkF m 37 #[.val (.int i0), .val (.int (1 : Int32)), .val (.ref w1), .val (.ref w1)] [(.int (1 : Int32))])) (fun tq_ kq_ => XS.iconst X22.here hx rfl (hb hby at_36) kq_) ?_
    refine own_G.step (g' := (mkF m 41 #[.val (.int i0), .val (.int (1 : Int32)), .val (.ref w1), .val (.ref w1)] [(.int (1 : Int32))])) (fun tq_ kq_ => XS.goto X22.here hx rfl (pc0 := 37) (pc' := 41) rfl (hb hby at_37) (by decide) (by decide) kq_) ?_
    exact own_ret X22 P23 (v := some (.int (1 : Int32))) (fun h => by rw [Bd.returns] at h; cases h) Bd.notSynchronized ⟨rfl, N22⟩ (by decide) (by decide) (fun fs hr => retN X22 hx (t := .boolean) Bd.returns (by simp) (hb hby at_41) hr)
  · refine own_G.step (g' := (mkF m 9 #[.val (.int i0), .val (.int (2 : Int32)), .unset, .unset] [(.int (2 : Int32))])) (fun tq_ kq_ => XS.iloadN X0.here hx rfl (hb hby at_8) rfl kq_) ?_
    obtain ⟨_, _, ⟨T25, L25, k25, n25⟩, -, X25, ⟨Lc25, hQ25, l25, y25, z25⟩, st25⟩ := Jvm.LawKit.callS X0 hx (y := (⟨"com/example/termflow/termflow/pull/StatusPlannedPinLaw", "pick", "(I)Lcom/example/termflow/termflow/pull/Status;"⟩ : MethodName)) hown (mvT hZ (hw _ (List.mem_of_getElem? (i := 1) rfl))) (mvT hZ (hw _ (List.mem_of_getElem? (i := 2) rfl))) (mvT hZ (hw _ (List.mem_of_getElem? (i := 3) rfl))) (mvT hZ (hw _ (List.mem_of_getElem? (i := 4) rfl))) (by decide) (backOf (W := 0) (rm_pick l Z a0 hw [] (2 : Int32) w0 w1 w2 w3 w4 w5 w6 w7 w8 w9 h0 n0 O0 S_PULLED S_PRESENT S_REPLACED S_RETRACTED S_NOOP S_REFUSED S_WOULD_PULL S_WOULD_REPLACE S_WOULD_RETRACT S_MISSING) hZ (hw _ (List.mem_of_getElem? (i := 4) rfl)) (hw _ (List.mem_of_getElem? (i := 3) rfl)) (by decide) (by decide)) (g := (mkF m 9 #[.val (.int i0), .val (.int (2 : Int32)), .unset, .unset] [(.int (2 : Int32))])) rfl (by rw [hml]; rfl) (argsL := [(.int (2 : Int32))]) (rest := []) (lenOf pd__28I_29Lcom_2fexample_2ftermflow_2ftermflow_2fpull_2fStatus_3b rfl) rfl (by show 2 * 0 + _ ≤ _; exact Nat.le_of_eq rfl) (hb hby at_9) (fun _ _ => ⟨rfl, e0, (by decide : 0 + 0 ≤ _), (by decide : 0 + 0 ≤ _)⟩)
    dsimp only [Pt.U, Pt.locs, Pt.cells, Pt.slots] at X25 l25 y25 z25 st25 hQ25
    subst l25 y25 z25
    obtain ⟨rfl, Nq25, P26⟩ := hQ25
    have N25 := Fr.app N0 Nq25
    refine own_G.step (T' := T25) (g' := (mkF m 12 #[.val (.int i0), .val (.int (2 : Int32)), .unset, .unset] [(.ref (own_pick (2 : Int32) w0 w1 w2 w3 w4 w5 w6 w7 w8 w9))])) (fun tq_ kq_ => st25 _ kq_) ?_
    have hp27 : own_pick (2 : Int32) w0 w1 w2 w3 w4 w5 w6 w7 w8 w9 = w2 := by simp [own_pick]
    refine own_G.cast (g' := (mkF m 12 #[.val (.int i0), .val (.int (2 : Int32)), .unset, .unset] [(.ref w2)])) (by rw [hp27]) ?_
    refine own_G.step (g' := (mkF m 13 #[.val (.int i0), .val (.int (2 : Int32)), .val (.ref w2), .unset] [])) (fun tq_ kq_ => XS.astoreN X25.here hx rfl (hb hby at_12) rfl rfl (l' := #[.val (.int i0), .val (.int (2 : Int32)), .val (.ref w2), .unset]) rfl kq_) ?_
    refine own_G.step (g' := (mkF m 14 #[.val (.int i0), .val (.int (2 : Int32)), .val (.ref w2), .unset] [(.ref w2)])) (fun tq_ kq_ => XS.aloadN X25.here hx rfl (hb hby at_13) rfl rfl kq_) ?_
    obtain ⟨cq28, kq28, q28a, q28b, q28c⟩ := isOf hZ P26 (Exa.ext O0.2 E_REPLACED)
    obtain ⟨_, _, ⟨T28, L28, k28, n28⟩, -, X28, ⟨Lc28, hQ28, l28, y28, z28⟩, st28⟩ := X25.virtualBack hx (y := (⟨"com/example/termflow/termflow/pull/Status", "planned", "()Lcom/example/termflow/termflow/pull/Status;"⟩ : MethodName)) (z := (⟨"com/example/termflow/termflow/pull/Status", "planned", "()Lcom/example/termflow/termflow/pull/Status;"⟩ : MethodName)) hown (mvT hZ (hw _ (List.mem_of_getElem? (i := 8) rfl))) (mvT hZ (hw _ (List.mem_of_getElem? (i := 9) rfl))) (notFace_of_selects (args := #[]) (mvT hZ (hw _ (List.mem_of_getElem? (i := 11) rfl)))) (mvT hZ (hw _ (List.mem_of_getElem? (i := 11) rfl))) (mvT hZ (hw _ (List.mem_of_getElem? (i := 10) rfl))) (by decide) (backOf (W := 0) (rm_plan l Z a0 hw [] w2 (2 : Int32) w0 w1 w2 w3 w4 w5 w6 w7 w8 w9 h0 n0 O0 E_REPLACED F_REPLACED_ordinal (by decide) S_PULLED S_PRESENT S_REPLACED S_RETRACTED S_NOOP S_REFUSED S_WOULD_PULL S_WOULD_REPLACE S_WOULD_RETRACT S_MISSING) hZ (hw _ (List.mem_of_getElem? (i := 12) rfl)) (hw _ (List.mem_of_getElem? (i := 6) rfl)) (by decide) (by decide)) q28a q28c (g := (mkF m 14 #[.val (.int i0), .val (.int (2 : Int32)), .val (.ref w2), .unset] [(.ref w2)])) rfl (by rw [hml]; rfl) (Steps.refl _) (argsL := []) (rest := []) (lenOf pd__28_29Lcom_2fexample_2ftermflow_2ftermflow_2fpull_2fStatus_3b rfl) rfl (by show 2 * 0 + _ ≤ _; exact Nat.le_of_eq rfl) (hb hby at_14) (fun _ _ => ⟨rfl, P26, (by decide : 0 + 0 ≤ _), (by decide : 0 + 0 ≤ _)⟩)
    dsimp only [Pt.U, Pt.locs, Pt.cells, Pt.slots] at X28 l28 y28 z28 st28 hQ28
    subst l28 y28 z28
    obtain ⟨rfl, Nq28, P29⟩ := hQ28
    have N28 := Fr.app N25 Nq28
    refine own_G.step (T' := T28) (g' := (mkF m 17 #[.val (.int i0), .val (.int (2 : Int32)), .val (.ref w2), .unset] [(.ref (own_plan (2 : Int32) w2 w6 w7 w8))])) (fun tq_ kq_ => st28.trans kq_) ?_
    have hp30 : own_plan (2 : Int32) w2 w6 w7 w8 = w7 := by simp [own_plan]
    refine own_G.cast (g' := (mkF m 17 #[.val (.int i0), .val (.int (2 : Int32)), .val (.ref w2), .unset] [(.ref w7)])) (by rw [hp30]) ?_
    refine own_G.step (g' := (mkF m 18 #[.val (.int i0), .val (.int (2 : Int32)), .val (.ref w2), .val (.ref w7)] [])) (fun tq_ kq_ => XS.astoreN X28.here hx rfl (hb hby at_17) rfl rfl (l' := #[.val (.int i0), .val (.int (2 : Int32)), .val (.ref w2), .val (.ref w7)]) rfl kq_) ?_
    refine own_G.step (g' := (mkF m 19 #[.val (.int i0), .val (.int (2 : Int32)), .val (.ref w2), .val (.ref w7)] [(.ref w7)])) (fun tq_ kq_ => XS.aloadN X28.here hx rfl (hb hby at_18) rfl rfl kq_) ?_
    refine own_G.step (g' := (mkF m 20 #[.val (.int i0), .val (.int (2 : Int32)), .val (.ref w2), .val (.ref w7)] [(.int (2 : Int32)), (.ref w7)])) (fun tq_ kq_ => XS.iloadN X28.here hx rfl (hb hby at_19) rfl kq_) ?_
    obtain ⟨_, _, ⟨T31, L31, k31, n31⟩, -, X31, ⟨Lc31, hQ31, l31, y31, z31⟩, st31⟩ := Jvm.LawKit.callS X28 hx (y := (⟨"com/example/termflow/termflow/pull/StatusPlannedPinLaw", "expected", "(I)Lcom/example/termflow/termflow/pull/Status;"⟩ : MethodName)) hown (mvT hZ (hw _ (List.mem_of_getElem? (i := 24) rfl))) (mvT hZ (hw _ (List.mem_of_getElem? (i := 25) rfl))) (mvT hZ (hw _ (List.mem_of_getElem? (i := 3) rfl))) (mvT hZ (hw _ (List.mem_of_getElem? (i := 26) rfl))) (by decide) (backOf (W := 1) (rm_exp l Z a0 hw [] (2 : Int32) w0 w1 w2 w3 w4 w5 w6 w7 w8 w9 h0 n0 O0 S_PULLED S_PRESENT S_REPLACED S_RETRACTED S_NOOP S_REFUSED S_WOULD_PULL S_WOULD_REPLACE S_WOULD_RETRACT S_MISSING) hZ (hw _ (List.mem_of_getElem? (i := 26) rfl)) (hw _ (List.mem_of_getElem? (i := 3) rfl)) (by decide) (by decide)) (g := (mkF m 20 #[.val (.int i0), .val (.int (2 : Int32)), .val (.ref w2), .val (.ref w7)] [(.int (2 : Int32)), (.ref w7)])) rfl (by rw [hml]; rfl) (argsL := [(.int (2 : Int32))]) (rest := [(.ref w7)]) (lenOf pd__28I_29Lcom_2fexample_2ftermflow_2ftermflow_2fpull_2fStatus_3b rfl) rfl (by show 2 * 0 + _ ≤ _; exact Nat.le_of_eq rfl) (hb hby at_20) (fun _ _ => ⟨rfl, P29, (by decide : 0 + 0 ≤ _), (by decide : 0 + 0 ≤ _)⟩)
    dsimp only [Pt.U, Pt.locs, Pt.cells, Pt.slots] at X31 l31 y31 z31 st31 hQ31
    subst l31 y31 z31
    obtain ⟨rfl, Nq31, P32⟩ := hQ31
    have N31 := Fr.app N28 Nq31
    refine own_G.step (T' := T31) (g' := (mkF m 23 #[.val (.int i0), .val (.int (2 : Int32)), .val (.ref w2), .val (.ref w7)] [(.ref (own_exp (2 : Int32) w0 w1 w2 w3 w4 w5 w6 w7 w8 w9)), (.ref w7)])) (fun tq_ kq_ => st31 _ kq_) ?_
    have hp33 : own_exp (2 : Int32) w0 w1 w2 w3 w4 w5 w6 w7 w8 w9 = w7 := by simp [own_exp, own_pick]
    refine own_G.cast (g' := (mkF m 23 #[.val (.int i0), .val (.int (2 : Int32)), .val (.ref w2), .val (.ref w7)] [(.ref w7), (.ref w7)])) (by rw [hp33]) ?_
    refine own_G.step (g' := (mkF m 28 #[.val (.int i0), .val (.int (2 : Int32)), .val (.ref w2), .val (.ref w7)] [])) (fun tq_ kq_ => Jvm.RoadKit.acmp (g := (mkF m 23 #[.val (.int i0), .val (.int (2 : Int32)), .val (.ref w2), .val (.ref w7)] [(.ref w7), (.ref w7)])) X31 hx rfl rfl rfl (pc0 := 23) (pc' := 28) (same := true) rfl (hb hby at_23) rfl (decide_eq_true rfl) (by decide) (by decide) kq_) ?_
    refine own_G.step (g' := (mkF m 29 #[.val (.int i0), .val (.int (2 : Int32)), .val (.ref w2), .val (.ref w7)] [(.ref w7)])) (fun tq_ kq_ => XS.aloadN X31.here hx rfl (hb hby at_28) rfl rfl kq_) ?_
    obtain ⟨cq34, kq34, q34a, q34b, q34c⟩ := isOf hZ P32 (Exa.ext O0.2 E_WOULD_REPLACE)
    obtain ⟨_, _, ⟨T34, L34, k34, n34⟩, -, X34, ⟨Lc34, hQ34, l34, y34, z34⟩, st34⟩ := X31.virtualBack hx (y := (⟨"com/example/termflow/termflow/pull/Status", "planned", "()Lcom/example/termflow/termflow/pull/Status;"⟩ : MethodName)) (z := (⟨"com/example/termflow/termflow/pull/Status", "planned", "()Lcom/example/termflow/termflow/pull/Status;"⟩ : MethodName)) hown (mvT hZ (hw _ (List.mem_of_getElem? (i := 8) rfl))) (mvT hZ (hw _ (List.mem_of_getElem? (i := 9) rfl))) (notFace_of_selects (args := #[]) (mvT hZ (hw _ (List.mem_of_getElem? (i := 11) rfl)))) (mvT hZ (hw _ (List.mem_of_getElem? (i := 11) rfl))) (mvT hZ (hw _ (List.mem_of_getElem? (i := 10) rfl))) (by decide) (backOf (W := 0) (rm_plan l Z a0 hw [] w7 (7 : Int32) w0 w1 w2 w3 w4 w5 w6 w7 w8 w9 h0 n0 O0 E_WOULD_REPLACE F_WOULD_REPLACE_ordinal (by decide) S_PULLED S_PRESENT S_REPLACED S_RETRACTED S_NOOP S_REFUSED S_WOULD_PULL S_WOULD_REPLACE S_WOULD_RETRACT S_MISSING) hZ (hw _ (List.mem_of_getElem? (i := 12) rfl)) (hw _ (List.mem_of_getElem? (i := 6) rfl)) (by decide) (by decide)) q34a q34c (g := (mkF m 29 #[.val (.int i0), .val (.int (2 : Int32)), .val (.ref w2), .val (.ref w7)] [(.ref w7)])) rfl (by rw [hml]; rfl) (Steps.refl _) (argsL := []) (rest := []) (lenOf pd__28_29Lcom_2fexample_2ftermflow_2ftermflow_2fpull_2fStatus_3b rfl) rfl (by show 2 * 0 + _ ≤ _; exact Nat.le_of_eq rfl) (hb hby at_29) (fun _ _ => ⟨rfl, P32, (by decide : 0 + 0 ≤ _), (by decide : 0 + 0 ≤ _)⟩)
    dsimp only [Pt.U, Pt.locs, Pt.cells, Pt.slots] at X34 l34 y34 z34 st34 hQ34
    subst l34 y34 z34
    obtain ⟨rfl, Nq34, P35⟩ := hQ34
    have N34 := Fr.app N31 Nq34
    refine own_G.step (T' := T34) (g' := (mkF m 32 #[.val (.int i0), .val (.int (2 : Int32)), .val (.ref w2), .val (.ref w7)] [(.ref (own_plan (7 : Int32) w7 w6 w7 w8))])) (fun tq_ kq_ => st34.trans kq_) ?_
    have hp36 : own_plan (7 : Int32) w7 w6 w7 w8 = w7 := by simp [own_plan]
    refine own_G.cast (g' := (mkF m 32 #[.val (.int i0), .val (.int (2 : Int32)), .val (.ref w2), .val (.ref w7)] [(.ref w7)])) (by rw [hp36]) ?_
    refine own_G.step (g' := (mkF m 33 #[.val (.int i0), .val (.int (2 : Int32)), .val (.ref w2), .val (.ref w7)] [(.ref w7), (.ref w7)])) (fun tq_ kq_ => XS.aloadN X34.here hx rfl (hb hby at_32) rfl rfl kq_) ?_
    refine own_G.step (g' := (mkF m 36 #[.val (.int i0), .val (.int (2 : Int32)), .val (.ref w2), .val (.ref w7)] [])) (fun tq_ kq_ => Jvm.RoadKit.acmp (g := (mkF m 33 #[.val (.int i0), .val (.int (2 : Int32)), .val (.ref w2), .val (.ref w7)] [(.ref w7), (.ref w7)])) X34 hx rfl rfl rfl (pc0 := 33) (pc' := 36) (same := true) rfl (hb hby at_33) rfl (decide_eq_true rfl) (by decide) (by decide) kq_) ?_
    refine own_G.step (g' := (mkF m 37 #[.val (.int i0), .val (.int (2 : Int32)), .val (.ref w2), .val (.ref w7)] [(.int (1 : Int32))])) (fun tq_ kq_ => XS.iconst X34.here hx rfl (hb hby at_36) kq_) ?_
    refine own_G.step (g' := (mkF m 41 #[.val (.int i0), .val (.int (2 : Int32)), .val (.ref w2), .val (.ref w7)] [(.int (1 : Int32))])) (fun tq_ kq_ => XS.goto X34.here hx rfl (pc0 := 37) (pc' := 41) rfl (hb hby at_37) (by decide) (by decide) kq_) ?_
    exact own_ret X34 P35 (v := some (.int (1 : Int32))) (fun h => by rw [Bd.returns] at h; cases h) Bd.notSynchronized ⟨rfl, N34⟩ (by decide) (by decide) (fun fs hr => retN X34 hx (t := .boolean) Bd.returns (by simp) (hb hby at_41) hr)
  · refine own_G.step (g' := (mkF m 9 #[.val (.int i0), .val (.int (3 : Int32)), .unset, .unset] [(.int (3 : Int32))])) (fun tq_ kq_ => XS.iloadN X0.here hx rfl (hb hby at_8) rfl kq_) ?_
    obtain ⟨_, _, ⟨T37, L37, k37, n37⟩, -, X37, ⟨Lc37, hQ37, l37, y37, z37⟩, st37⟩ := Jvm.LawKit.callS X0 hx (y := (⟨"com/example/termflow/termflow/pull/StatusPlannedPinLaw", "pick", "(I)Lcom/example/termflow/termflow/pull/Status;"⟩ : MethodName)) hown (mvT hZ (hw _ (List.mem_of_getElem? (i := 1) rfl))) (mvT hZ (hw _ (List.mem_of_getElem? (i := 2) rfl))) (mvT hZ (hw _ (List.mem_of_getElem? (i := 3) rfl))) (mvT hZ (hw _ (List.mem_of_getElem? (i := 4) rfl))) (by decide) (backOf (W := 0) (rm_pick l Z a0 hw [] (3 : Int32) w0 w1 w2 w3 w4 w5 w6 w7 w8 w9 h0 n0 O0 S_PULLED S_PRESENT S_REPLACED S_RETRACTED S_NOOP S_REFUSED S_WOULD_PULL S_WOULD_REPLACE S_WOULD_RETRACT S_MISSING) hZ (hw _ (List.mem_of_getElem? (i := 4) rfl)) (hw _ (List.mem_of_getElem? (i := 3) rfl)) (by decide) (by decide)) (g := (mkF m 9 #[.val (.int i0), .val (.int (3 : Int32)), .unset, .unset] [(.int (3 : Int32))])) rfl (by rw [hml]; rfl) (argsL := [(.int (3 : Int32))]) (rest := []) (lenOf pd__28I_29Lcom_2fexample_2ftermflow_2ftermflow_2fpull_2fStatus_3b rfl) rfl (by show 2 * 0 + _ ≤ _; exact Nat.le_of_eq rfl) (hb hby at_9) (fun _ _ => ⟨rfl, e0, (by decide : 0 + 0 ≤ _), (by decide : 0 + 0 ≤ _)⟩)
    dsimp only [Pt.U, Pt.locs, Pt.cells, Pt.slots] at X37 l37 y37 z37 st37 hQ37
    subst l37 y37 z37
    obtain ⟨rfl, Nq37, P38⟩ := hQ37
    have N37 := Fr.app N0 Nq37
    refine own_G.step (T' := T37) (g' := (mkF m 12 #[.val (.int i0), .val (.int (3 : Int32)), .unset, .unset] [(.ref (own_pick (3 : Int32) w0 w1 w2 w3 w4 w5 w6 w7 w8 w9))])) (fun tq_ kq_ => st37 _ kq_) ?_
    have hp39 : own_pick (3 : Int32) w0 w1 w2 w3 w4 w5 w6 w7 w8 w9 = w3 := by simp [own_pick]
    refine own_G.cast (g' := (mkF m 12 #[.val (.int i0), .val (.int (3 : Int32)), .unset, .unset] [(.ref w3)])) (by rw [hp39]) ?_
    refine own_G.step (g' := (mkF m 13 #[.val (.int i0), .val (.int (3 : Int32)), .val (.ref w3), .unset] [])) (fun tq_ kq_ => XS.astoreN X37.here hx rfl (hb hby at_12) rfl rfl (l' := #[.val (.int i0), .val (.int (3 : Int32)), .val (.ref w3), .unset]) rfl kq_) ?_
    refine own_G.step (g' := (mkF m 14 #[.val (.int i0), .val (.int (3 : Int32)), .val (.ref w3), .unset] [(.ref w3)])) (fun tq_ kq_ => XS.aloadN X37.here hx rfl (hb hby at_13) rfl rfl kq_) ?_
    obtain ⟨cq40, kq40, q40a, q40b, q40c⟩ := isOf hZ P38 (Exa.ext O0.2 E_RETRACTED)
    obtain ⟨_, _, ⟨T40, L40, k40, n40⟩, -, X40, ⟨Lc40, hQ40, l40, y40, z40⟩, st40⟩ := X37.virtualBack hx (y := (⟨"com/example/termflow/termflow/pull/Status", "planned", "()Lcom/example/termflow/termflow/pull/Status;"⟩ : MethodName)) (z := (⟨"com/example/termflow/termflow/pull/Status", "planned", "()Lcom/example/termflow/termflow/pull/Status;"⟩ : MethodName)) hown (mvT hZ (hw _ (List.mem_of_getElem? (i := 8) rfl))) (mvT hZ (hw _ (List.mem_of_getElem? (i := 9) rfl))) (notFace_of_selects (args := #[]) (mvT hZ (hw _ (List.mem_of_getElem? (i := 11) rfl)))) (mvT hZ (hw _ (List.mem_of_getElem? (i := 11) rfl))) (mvT hZ (hw _ (List.mem_of_getElem? (i := 10) rfl))) (by decide) (backOf (W := 0) (rm_plan l Z a0 hw [] w3 (3 : Int32) w0 w1 w2 w3 w4 w5 w6 w7 w8 w9 h0 n0 O0 E_RETRACTED F_RETRACTED_ordinal (by decide) S_PULLED S_PRESENT S_REPLACED S_RETRACTED S_NOOP S_REFUSED S_WOULD_PULL S_WOULD_REPLACE S_WOULD_RETRACT S_MISSING) hZ (hw _ (List.mem_of_getElem? (i := 12) rfl)) (hw _ (List.mem_of_getElem? (i := 6) rfl)) (by decide) (by decide)) q40a q40c (g := (mkF m 14 #[.val (.int i0), .val (.int (3 : Int32)), .val (.ref w3), .unset] [(.ref w3)])) rfl (by rw [hml]; rfl) (Steps.refl _) (argsL := []) (rest := []) (lenOf pd__28_29Lcom_2fexample_2ftermflow_2ftermflow_2fpull_2fStatus_3b rfl) rfl (by show 2 * 0 + _ ≤ _; exact Nat.le_of_eq rfl) (hb hby at_14) (fun _ _ => ⟨rfl, P38, (by decide : 0 + 0 ≤ _), (by decide : 0 + 0 ≤ _)⟩)
    dsimp only [Pt.U, Pt.locs, Pt.cells, Pt.slots] at X40 l40 y40 z40 st40 hQ40
    subst l40 y40 z40
    obtain ⟨rfl, Nq40, P41⟩ := hQ40
    have N40 := Fr.app N37 Nq40
    refine own_G.step (T' := T40) (g' := (mkF m 17 #[.val (.int i0), .val (.int (3 : Int32)), .val (.ref w3), .unset] [(.ref (own_plan (3 : Int32) w3 w6 w7 w8))])) (fun tq_ kq_ => st40.trans kq_) ?_
    have hp42 : own_plan (3 : Int32) w3 w6 w7 w8 = w8 := by simp [own_plan]
    refine own_G.cast (g' := (mkF m 17 #[.val (.int i0), .val (.int (3 : Int32)), .val (.ref w3), .unset] [(.ref w8)])) (by rw [hp42]) ?_
    refine own_G.step (g' := (mkF m 18 #[.val (.int i0), .val (.int (3 : Int32)), .val (.ref w3), .val (.ref w8)] [])) (fun tq_ kq_ => XS.astoreN X40.here hx rfl (hb hby at_17) rfl rfl (l' := #[.val (.int i0), .val (.int (3 : Int32)), .val (.ref w3), .val (.ref w8)]) rfl kq_) ?_
    refine own_G.step (g' := (mkF m 19 #[.val (.int i0), .val (.int (3 : Int32)), .val (.ref w3), .val (.ref w8)] [(.ref w8)])) (fun tq_ kq_ => XS.aloadN X40.here hx rfl (hb hby at_18) rfl rfl kq_) ?_
    refine own_G.step (g' := (mkF m 20 #[.val (.int i0), .val (.int (3 : Int32)), .val (.ref w3), .val (.ref w8)] [(.int (3 : Int32)), (.ref w8)])) (fun tq_ kq_ => XS.iloadN X40.here hx rfl (hb hby at_19) rfl kq_) ?_
    obtain ⟨_, _, ⟨T43, L43, k43, n43⟩, -, X43, ⟨Lc43, hQ43, l43, y43, z43⟩, st43⟩ := Jvm.LawKit.callS X40 hx (y := (⟨"com/example/termflow/termflow/pull/StatusPlannedPinLaw", "expected", "(I)Lcom/example/termflow/termflow/pull/Status;"⟩ : MethodName)) hown (mvT hZ (hw _ (List.mem_of_getElem? (i := 24) rfl))) (mvT hZ (hw _ (List.mem_of_getElem? (i := 25) rfl))) (mvT hZ (hw _ (List.mem_of_getElem? (i := 3) rfl))) (mvT hZ (hw _ (List.mem_of_getElem? (i := 26) rfl))) (by decide) (backOf (W := 1) (rm_exp l Z a0 hw [] (3 : Int32) w0 w1 w2 w3 w4 w5 w6 w7 w8 w9 h0 n0 O0 S_PULLED S_PRESENT S_REPLACED S_RETRACTED S_NOOP S_REFUSED S_WOULD_PULL S_WOULD_REPLACE S_WOULD_RETRACT S_MISSING) hZ (hw _ (List.mem_of_getElem? (i := 26) rfl)) (hw _ (List.mem_of_getElem? (i := 3) rfl)) (by decide) (by decide)) (g := (mkF m 20 #[.val (.int i0), .val (.int (3 : Int32)), .val (.ref w3), .val (.ref w8)] [(.int (3 : Int32)), (.ref w8)])) rfl (by rw [hml]; rfl) (argsL := [(.int (3 : Int32))]) (rest := [(.ref w8)]) (lenOf pd__28I_29Lcom_2fexample_2ftermflow_2ftermflow_2fpull_2fStatus_3b rfl) rfl (by show 2 * 0 + _ ≤ _; exact Nat.le_of_eq rfl) (hb hby at_20) (fun _ _ => ⟨rfl, P41, (by decide : 0 + 0 ≤ _), (by decide : 0 + 0 ≤ _)⟩)
    dsimp only [Pt.U, Pt.locs, Pt.cells, Pt.slots] at X43 l43 y43 z43 st43 hQ43
    subst l43 y43 z43
    obtain ⟨rfl, Nq43, P44⟩ := hQ43
    have N43 := Fr.app N40 Nq43
    refine own_G.step (T' := T43) (g' := (mkF m 23 #[.val (.int i0), .val (.int (3 : Int32)), .val (.ref w3), .val (.ref w8)] [(.ref (own_exp (3 : Int32) w0 w1 w2 w3 w4 w5 w6 w7 w8 w9)), (.ref w8)])) (fun tq_ kq_ => st43 _ kq_) ?_
    have hp45 : own_exp (3 : Int32) w0 w1 w2 w3 w4 w5 w6 w7 w8 w9 = w8 := by simp [own_exp, own_pick]
    refine own_G.cast (g' := (mkF m 23 #[.val (.int i0), .val (.int (3 : Int32)), .val (.ref w3), .val (.ref w8)] [(.ref w8), (.ref w8)])) (by rw [hp45]) ?_
    refine own_G.step (g' := (mkF m 28 #[.val (.int i0), .val (.int (3 : Int32)), .val (.ref w3), .val (.ref w8)] [])) (fun tq_ kq_ => Jvm.RoadKit.acmp (g := (mkF m 23 #[.val (.int i0), .val (.int (3 : Int32)), .val (.ref w3), .val (.ref w8)] [(.ref w8), (.ref w8)])) X43 hx rfl rfl rfl (pc0 := 23) (pc' := 28) (same := true) rfl (hb hby at_23) rfl (decide_eq_true rfl) (by decide) (by decide) kq_) ?_
    refine own_G.step (g' := (mkF m 29 #[.val (.int i0), .val (.int (3 : Int32)), .val (.ref w3), .val (.ref w8)] [(.ref w8)])) (fun tq_ kq_ => XS.aloadN X43.here hx rfl (hb hby at_28) rfl rfl kq_) ?_
    obtain ⟨cq46, kq46, q46a, q46b, q46c⟩ := isOf hZ P44 (Exa.ext O0.2 E_WOULD_RETRACT)
    obtain ⟨_, _, ⟨T46, L46, k46, n46⟩, -, X46, ⟨Lc46, hQ46, l46, y46, z46⟩, st46⟩ := X43.virtualBack hx (y := (⟨"com/example/termflow/termflow/pull/Status", "planned", "()Lcom/example/termflow/termflow/pull/Status;"⟩ : MethodName)) (z := (⟨"com/example/termflow/termflow/pull/Status", "planned", "()Lcom/example/termflow/termflow/pull/Status;"⟩ : MethodName)) hown (mvT hZ (hw _ (List.mem_of_getElem? (i := 8) rfl))) (mvT hZ (hw _ (List.mem_of_getElem? (i := 9) rfl))) (notFace_of_selects (args := #[]) (mvT hZ (hw _ (List.mem_of_getElem? (i := 11) rfl)))) (mvT hZ (hw _ (List.mem_of_getElem? (i := 11) rfl))) (mvT hZ (hw _ (List.mem_of_getElem? (i := 10) rfl))) (by decide) (backOf (W := 0) (rm_plan l Z a0 hw [] w8 (8 : Int32) w0 w1 w2 w3 w4 w5 w6 w7 w8 w9 h0 n0 O0 E_WOULD_RETRACT F_WOULD_RETRACT_ordinal (by decide) S_PULLED S_PRESENT S_REPLACED S_RETRACTED S_NOOP S_REFUSED S_WOULD_PULL S_WOULD_REPLACE S_WOULD_RETRACT S_MISSING) hZ (hw _ (List.mem_of_getElem? (i := 12) rfl)) (hw _ (List.mem_of_getElem? (i := 6) rfl)) (by decide) (by decide)) q46a q46c (g := (mkF m 29 #[.val (.int i0), .val (.int (3 : Int32)), .val (.ref w3), .val (.ref w8)] [(.ref w8)])) rfl (by rw [hml]; rfl) (Steps.refl _) (argsL := []) (rest := []) (lenOf pd__28_29Lcom_2fexample_2ftermflow_2ftermflow_2fpull_2fStatus_3b rfl) rfl (by show 2 * 0 + _ ≤ _; exact Nat.le_of_eq rfl) (hb hby at_29) (fun _ _ => ⟨rfl, P44, (by decide : 0 + 0 ≤ _), (by decide : 0 + 0 ≤ _)⟩)
    dsimp only [Pt.U, Pt.locs, Pt.cells, Pt.slots] at X46 l46 y46 z46 st46 hQ46
    subst l46 y46 z46
    obtain ⟨rfl, Nq46, P47⟩ := hQ46
    have N46 := Fr.app N43 Nq46
    refine own_G.step (T' := T46) (g' := (mkF m 32 #[.val (.int i0), .val (.int (3 : Int32)), .val (.ref w3), .val (.ref w8)] [(.ref (own_plan (8 : Int32) w8 w6 w7 w8))])) (fun tq_ kq_ => st46.trans kq_) ?_
    have hp48 : own_plan (8 : Int32) w8 w6 w7 w8 = w8 := by simp [own_plan]
    refine own_G.cast (g' := (mkF m 32 #[.val (.int i0), .val (.int (3 : Int32)), .val (.ref w3), .val (.ref w8)] [(.ref w8)])) (by rw [hp48]) ?_
    refine own_G.step (g' := (mkF m 33 #[.val (.int i0), .val (.int (3 : Int32)), .val (.ref w3), .val (.ref w8)] [(.ref w8), (.ref w8)])) (fun tq_ kq_ => XS.aloadN X46.here hx rfl (hb hby at_32) rfl rfl kq_) ?_
    refine own_G.step (g' := (mkF m 36 #[.val (.int i0), .val (.int (3 : Int32)), .val (.ref w3), .val (.ref w8)] [])) (fun tq_ kq_ => Jvm.RoadKit.acmp (g := (mkF m 33 #[.val (.int i0), .val (.int (3 : Int32)), .val (.ref w3), .val (.ref w8)] [(.ref w8), (.ref w8)])) X46 hx rfl rfl rfl (pc0 := 33) (pc' := 36) (same := true) rfl (hb hby at_33) rfl (decide_eq_true rfl) (by decide) (by decide) kq_) ?_
    refine own_G.step (g' := (mkF m 37 #[.val (.int i0), .val (.int (3 : Int32)), .val (.ref w3), .val (.ref w8)] [(.int (1 : Int32))])) (fun tq_ kq_ => XS.iconst X46.here hx rfl (hb hby at_36) kq_) ?_
    refine own_G.step (g' := (mkF m 41 #[.val (.int i0), .val (.int (3 : Int32)), .val (.ref w3), .val (.ref w8)] [(.int (1 : Int32))])) (fun tq_ kq_ => XS.goto X46.here hx rfl (pc0 := 37) (pc' := 41) rfl (hb hby at_37) (by decide) (by decide) kq_) ?_
    exact own_ret X46 P47 (v := some (.int (1 : Int32))) (fun h => by rw [Bd.returns] at h; cases h) Bd.notSynchronized ⟨rfl, N46⟩ (by decide) (by decide) (fun fs hr => retN X46 hx (t := .boolean) Bd.returns (by simp) (hb hby at_41) hr)
  · refine own_G.step (g' := (mkF m 9 #[.val (.int i0), .val (.int (4 : Int32)), .unset, .unset] [(.int (4 : Int32))])) (fun tq_ kq_ => XS.iloadN X0.here hx rfl (hb hby at_8) rfl kq_) ?_
    obtain ⟨_, _, ⟨T49, L49, k49, n49⟩, -, X49, ⟨Lc49, hQ49, l49, y49, z49⟩, st49⟩ := Jvm.LawKit.callS X0 hx (y := (⟨"com/example/termflow/termflow/pull/StatusPlannedPinLaw", "pick", "(I)Lcom/example/termflow/termflow/pull/Status;"⟩ : MethodName)) hown (mvT hZ (hw _ (List.mem_of_getElem? (i := 1) rfl))) (mvT hZ (hw _ (List.mem_of_getElem? (i := 2) rfl))) (mvT hZ (hw _ (List.mem_of_getElem? (i := 3) rfl))) (mvT hZ (hw _ (List.mem_of_getElem? (i := 4) rfl))) (by decide) (backOf (W := 0) (rm_pick l Z a0 hw [] (4 : Int32) w0 w1 w2 w3 w4 w5 w6 w7 w8 w9 h0 n0 O0 S_PULLED S_PRESENT S_REPLACED S_RETRACTED S_NOOP S_REFUSED S_WOULD_PULL S_WOULD_REPLACE S_WOULD_RETRACT S_MISSING) hZ (hw _ (List.mem_of_getElem? (i := 4) rfl)) (hw _ (List.mem_of_getElem? (i := 3) rfl)) (by decide) (by decide)) (g := (mkF m 9 #[.val (.int i0), .val (.int (4 : Int32)), .unset, .unset] [(.int (4 : Int32))])) rfl (by rw [hml]; rfl) (argsL := [(.int (4 : Int32))]) (rest := []) (lenOf pd__28I_29Lcom_2fexample_2ftermflow_2ftermflow_2fpull_2fStatus_3b rfl) rfl (by show 2 * 0 + _ ≤ _; exact Nat.le_of_eq rfl) (hb hby at_9) (fun _ _ => ⟨rfl, e0, (by decide : 0 + 0 ≤ _), (by decide : 0 + 0 ≤ _)⟩)
    dsimp only [Pt.U, Pt.locs, Pt.cells, Pt.slots] at X49 l49 y49 z49 st49 hQ49
    subst l49 y49 z49
    obtain ⟨rfl, Nq49, P50⟩ := hQ49
    have N49 := Fr.app N0 Nq49
    refine own_G.step (T' := T49) (g' := (mkF m 12 #[.val (.int i0), .val (.int (4 : Int32)), .unset, .unset] [(.ref (own_pick (4 : Int32) w0 w1 w2 w3 w4 w5 w6 w7 w8 w9))])) (fun tq_ kq_ => st49 _ kq_) ?_
    have hp51 : own_pick (4 : Int32) w0 w1 w2 w3 w4 w5 w6 w7 w8 w9 = w4 := by simp [own_pick]
    refine own_G.cast (g' := (mkF m 12 #[.val (.int i0), .val (.int (4 : Int32)), .unset, .unset] [(.ref w4)])) (by rw [hp51]) ?_
    refine own_G.step (g' := (mkF m 13 #[.val (.int i0), .val (.int (4 : Int32)), .val (.ref w4), .unset] [])) (fun tq_ kq_ => XS.astoreN X49.here hx rfl (hb hby at_12) rfl rfl (l' := #[.val (.int i0), .val (.int (4 : Int32)), .val (.ref w4), .unset]) rfl kq_) ?_
    refine own_G.step (g' := (mkF m 14 #[.val (.int i0), .val (.int (4 : Int32)), .val (.ref w4), .unset] [(.ref w4)])) (fun tq_ kq_ => XS.aloadN X49.here hx rfl (hb hby at_13) rfl rfl kq_) ?_
    obtain ⟨cq52, kq52, q52a, q52b, q52c⟩ := isOf hZ P50 (Exa.ext O0.2 E_NOOP)
    obtain ⟨_, _, ⟨T52, L52, k52, n52⟩, -, X52, ⟨Lc52, hQ52, l52, y52, z52⟩, st52⟩ := X49.virtualBack hx (y := (⟨"com/example/termflow/termflow/pull/Status", "planned", "()Lcom/example/termflow/termflow/pull/Status;"⟩ : MethodName)) (z := (⟨"com/example/termflow/termflow/pull/Status", "planned", "()Lcom/example/termflow/termflow/pull/Status;"⟩ : MethodName)) hown (mvT hZ (hw _ (List.mem_of_getElem? (i := 8) rfl))) (mvT hZ (hw _ (List.mem_of_getElem? (i := 9) rfl))) (notFace_of_selects (args := #[]) (mvT hZ (hw _ (List.mem_of_getElem? (i := 11) rfl)))) (mvT hZ (hw _ (List.mem_of_getElem? (i := 11) rfl))) (mvT hZ (hw _ (List.mem_of_getElem? (i := 10) rfl))) (by decide) (backOf (W := 0) (rm_plan l Z a0 hw [] w4 (4 : Int32) w0 w1 w2 w3 w4 w5 w6 w7 w8 w9 h0 n0 O0 E_NOOP F_NOOP_ordinal (by decide) S_PULLED S_PRESENT S_REPLACED S_RETRACTED S_NOOP S_REFUSED S_WOULD_PULL S_WOULD_REPLACE S_WOULD_RETRACT S_MISSING) hZ (hw _ (List.mem_of_getElem? (i := 12) rfl)) (hw _ (List.mem_of_getElem? (i := 6) rfl)) (by decide) (by decide)) q52a q52c (g := (mkF m 14 #[.val (.int i0), .val (.int (4 : Int32)), .val (.ref w4), .unset] [(.ref w4)])) rfl (by rw [hml]; rfl) (Steps.refl _) (argsL := []) (rest := []) (lenOf pd__28_29Lcom_2fexample_2ftermflow_2ftermflow_2fpull_2fStatus_3b rfl) rfl (by show 2 * 0 + _ ≤ _; exact Nat.le_of_eq rfl) (hb hby at_14) (fun _ _ => ⟨rfl, P50, (by decide : 0 + 0 ≤ _), (by decide : 0 + 0 ≤ _)⟩)
    dsimp only [Pt.U, Pt.locs, Pt.cells, Pt.slots] at X52 l52 y52 z52 st52 hQ52
    subst l52 y52 z52
    obtain ⟨rfl, Nq52, P53⟩ := hQ52
    have N52 := Fr.app N49 Nq52
    refine own_G.step (T' := T52) (g' := (mkF m 17 #[.val (.int i0), .val (.int (4 : Int32)), .val (.ref w4), .unset] [(.ref (own_plan (4 : Int32) w4 w6 w7 w8))])) (fun tq_ kq_ => st52.trans kq_) ?_
    have hp54 : own_plan (4 : Int32) w4 w6 w7 w8 = w4 := by simp [own_plan]
    refine own_G.cast (g' := (mkF m 17 #[.val (.int i0), .val (.int (4 : Int32)), .val (.ref w4), .unset] [(.ref w4)])) (by rw [hp54]) ?_
    refine own_G.step (g' := (mkF m 18 #[.val (.int i0), .val (.int (4 : Int32)), .val (.ref w4), .val (.ref w4)] [])) (fun tq_ kq_ => XS.astoreN X52.here hx rfl (hb hby at_17) rfl rfl (l' := #[.val (.int i0), .val (.int (4 : Int32)), .val (.ref w4), .val (.ref w4)]) rfl kq_) ?_
    refine own_G.step (g' := (mkF m 19 #[.val (.int i0), .val (.int (4 : Int32)), .val (.ref w4), .val (.ref w4)] [(.ref w4)])) (fun tq_ kq_ => XS.aloadN X52.here hx rfl (hb hby at_18) rfl rfl kq_) ?_
    refine own_G.step (g' := (mkF m 20 #[.val (.int i0), .val (.int (4 : Int32)), .val (.ref w4), .val (.ref w4)] [(.int (4 : Int32)), (.ref w4)])) (fun tq_ kq_ => XS.iloadN X52.here hx rfl (hb hby at_19) rfl kq_) ?_
    obtain ⟨_, _, ⟨T55, L55, k55, n55⟩, -, X55, ⟨Lc55, hQ55, l55, y55, z55⟩, st55⟩ := Jvm.LawKit.callS X52 hx (y := (⟨"com/example/termflow/termflow/pull/StatusPlannedPinLaw", "expected", "(I)Lcom/example/termflow/termflow/pull/Status;"⟩ : MethodName)) hown (mvT hZ (hw _ (List.mem_of_getElem? (i := 24) rfl))) (mvT hZ (hw _ (List.mem_of_getElem? (i := 25) rfl))) (mvT hZ (hw _ (List.mem_of_getElem? (i := 3) rfl))) (mvT hZ (hw _ (List.mem_of_getElem? (i := 26) rfl))) (by decide) (backOf (W := 1) (rm_exp l Z a0 hw [] (4 : Int32) w0 w1 w2 w3 w4 w5 w6 w7 w8 w9 h0 n0 O0 S_PULLED S_PRESENT S_REPLACED S_RETRACTED S_NOOP S_REFUSED S_WOULD_PULL S_WOULD_REPLACE S_WOULD_RETRACT S_MISSING) hZ (hw _ (List.mem_of_getElem? (i := 26) rfl)) (hw _ (List.mem_of_getElem? (i := 3) rfl)) (by decide) (by decide)) (g := (mkF m 20 #[.val (.int i0), .val (.int (4 : Int32)), .val (.ref w4), .val (.ref w4)] [(.int (4 : Int32)), (.ref w4)])) rfl (by rw [hml]; rfl) (argsL := [(.int (4 : Int32))]) (rest := [(.ref w4)]) (lenOf pd__28I_29Lcom_2fexample_2ftermflow_2ftermflow_2fpull_2fStatus_3b rfl) rfl (by show 2 * 0 + _ ≤ _; exact Nat.le_of_eq rfl) (hb hby at_20) (fun _ _ => ⟨rfl, P53, (by decide : 0 + 0 ≤ _), (by decide : 0 + 0 ≤ _)⟩)
    dsimp only [Pt.U, Pt.locs, Pt.cells, Pt.slots] at X55 l55 y55 z55 st55 hQ55
    subst l55 y55 z55
    obtain ⟨rfl, Nq55, P56⟩ := hQ55
    have N55 := Fr.app N52 Nq55
    refine own_G.step (T' := T55) (g' := (mkF m 23 #[.val (.int i0), .val (.int (4 : Int32)), .val (.ref w4), .val (.ref w4)] [(.ref (own_exp (4 : Int32) w0 w1 w2 w3 w4 w5 w6 w7 w8 w9)), (.ref w4)])) (fun tq_ kq_ => st55 _ kq_) ?_
    have hp57 : own_exp (4 : Int32) w0 w1 w2 w3 w4 w5 w6 w7 w8 w9 = w4 := by simp [own_exp, own_pick]
    refine own_G.cast (g' := (mkF m 23 #[.val (.int i0), .val (.int (4 : Int32)), .val (.ref w4), .val (.ref w4)] [(.ref w4), (.ref w4)])) (by rw [hp57]) ?_
    refine own_G.step (g' := (mkF m 28 #[.val (.int i0), .val (.int (4 : Int32)), .val (.ref w4), .val (.ref w4)] [])) (fun tq_ kq_ => Jvm.RoadKit.acmp (g := (mkF m 23 #[.val (.int i0), .val (.int (4 : Int32)), .val (.ref w4), .val (.ref w4)] [(.ref w4), (.ref w4)])) X55 hx rfl rfl rfl (pc0 := 23) (pc' := 28) (same := true) rfl (hb hby at_23) rfl (decide_eq_true rfl) (by decide) (by decide) kq_) ?_
    refine own_G.step (g' := (mkF m 29 #[.val (.int i0), .val (.int (4 : Int32)), .val (.ref w4), .val (.ref w4)] [(.ref w4)])) (fun tq_ kq_ => XS.aloadN X55.here hx rfl (hb hby at_28) rfl rfl kq_) ?_
    obtain ⟨cq58, kq58, q58a, q58b, q58c⟩ := isOf hZ P56 (Exa.ext O0.2 E_NOOP)
    obtain ⟨_, _, ⟨T58, L58, k58, n58⟩, -, X58, ⟨Lc58, hQ58, l58, y58, z58⟩, st58⟩ := X55.virtualBack hx (y := (⟨"com/example/termflow/termflow/pull/Status", "planned", "()Lcom/example/termflow/termflow/pull/Status;"⟩ : MethodName)) (z := (⟨"com/example/termflow/termflow/pull/Status", "planned", "()Lcom/example/termflow/termflow/pull/Status;"⟩ : MethodName)) hown (mvT hZ (hw _ (List.mem_of_getElem? (i := 8) rfl))) (mvT hZ (hw _ (List.mem_of_getElem? (i := 9) rfl))) (notFace_of_selects (args := #[]) (mvT hZ (hw _ (List.mem_of_getElem? (i := 11) rfl)))) (mvT hZ (hw _ (List.mem_of_getElem? (i := 11) rfl))) (mvT hZ (hw _ (List.mem_of_getElem? (i := 10) rfl))) (by decide) (backOf (W := 0) (rm_plan l Z a0 hw [] w4 (4 : Int32) w0 w1 w2 w3 w4 w5 w6 w7 w8 w9 h0 n0 O0 E_NOOP F_NOOP_ordinal (by decide) S_PULLED S_PRESENT S_REPLACED S_RETRACTED S_NOOP S_REFUSED S_WOULD_PULL S_WOULD_REPLACE S_WOULD_RETRACT S_MISSING) hZ (hw _ (List.mem_of_getElem? (i := 12) rfl)) (hw _ (List.mem_of_getElem? (i := 6) rfl)) (by decide) (by decide)) q58a q58c (g := (mkF m 29 #[.val (.int i0), .val (.int (4 : Int32)), .val (.ref w4), .val (.ref w4)] [(.ref w4)])) rfl (by rw [hml]; rfl) (Steps.refl _) (argsL := []) (rest := []) (lenOf pd__28_29Lcom_2fexample_2ftermflow_2ftermflow_2fpull_2fStatus_3b rfl) rfl (by show 2 * 0 + _ ≤ _; exact Nat.le_of_eq rfl) (hb hby at_29) (fun _ _ => ⟨rfl, P56, (by decide : 0 + 0 ≤ _), (by decide : 0 + 0 ≤ _)⟩)
    dsimp only [Pt.U, Pt.locs, Pt.cells, Pt.slots] at X58 l58 y58 z58 st58 hQ58
    subst l58 y58 z58
    obtain ⟨rfl, Nq58, P59⟩ := hQ58
    have N58 := Fr.app N55 Nq58
    refine own_G.step (T' := T58) (g' := (mkF m 32 #[.val (.int i0), .val (.int (4 : Int32)), .val (.ref w4), .val (.ref w4)] [(.ref (own_plan (4 : Int32) w4 w6 w7 w8))])) (fun tq_ kq_ => st58.trans kq_) ?_
    have hp60 : own_plan (4 : Int32) w4 w6 w7 w8 = w4 := by simp [own_plan]
    refine own_G.cast (g' := (mkF m 32 #[.val (.int i0), .val (.int (4 : Int32)), .val (.ref w4), .val (.ref w4)] [(.ref w4)])) (by rw [hp60]) ?_
    refine own_G.step (g' := (mkF m 33 #[.val (.int i0), .val (.int (4 : Int32)), .val (.ref w4), .val (.ref w4)] [(.ref w4), (.ref w4)])) (fun tq_ kq_ => XS.aloadN X58.here hx rfl (hb hby at_32) rfl rfl kq_) ?_
    refine own_G.step (g' := (mkF m 36 #[.val (.int i0), .val (.int (4 : Int32)), .val (.ref w4), .val (.ref w4)] [])) (fun tq_ kq_ => Jvm.RoadKit.acmp (g := (mkF m 33 #[.val (.int i0), .val (.int (4 : Int32)), .val (.ref w4), .val (.ref w4)] [(.ref w4), (.ref w4)])) X58 hx rfl rfl rfl (pc0 := 33) (pc' := 36) (same := true) rfl (hb hby at_33) rfl (decide_eq_true rfl) (by decide) (by decide) kq_) ?_
    refine own_G.step (g' := (mkF m 37 #[.val (.int i0), .val (.int (4 : Int32)), .val (.ref w4), .val (.ref w4)] [(.int (1 : Int32))])) (fun tq_ kq_ => XS.iconst X58.here hx rfl (hb hby at_36) kq_) ?_
    refine own_G.step (g' := (mkF m 41 #[.val (.int i0), .val (.int (4 : Int32)), .val (.ref w4), .val (.ref w4)] [(.int (1 : Int32))])) (fun tq_ kq_ => XS.goto X58.here hx rfl (pc0 := 37) (pc' := 41) rfl (hb hby at_37) (by decide) (by decide) kq_) ?_
    exact own_ret X58 P59 (v := some (.int (1 : Int32))) (fun h => by rw [Bd.returns] at h; cases h) Bd.notSynchronized ⟨rfl, N58⟩ (by decide) (by decide) (fun fs hr => retN X58 hx (t := .boolean) Bd.returns (by simp) (hb hby at_41) hr)
  · refine own_G.step (g' := (mkF m 9 #[.val (.int i0), .val (.int (5 : Int32)), .unset, .unset] [(.int (5 : Int32))])) (fun tq_ kq_ => XS.iloadN X0.here hx rfl (hb hby at_8) rfl kq_) ?_
    obtain ⟨_, _, ⟨T61, L61, k61, n61⟩, -, X61, ⟨Lc61, hQ61, l61, y61, z61⟩, st61⟩ := Jvm.LawKit.callS X0 hx (y := (⟨"com/example/termflow/termflow/pull/StatusPlannedPinLaw", "pick", "(I)Lcom/example/termflow/termflow/pull/Status;"⟩ : MethodName)) hown (mvT hZ (hw _ (List.mem_of_getElem? (i := 1) rfl))) (mvT hZ (hw _ (List.mem_of_getElem? (i := 2) rfl))) (mvT hZ (hw _ (List.mem_of_getElem? (i := 3) rfl))) (mvT hZ (hw _ (List.mem_of_getElem? (i := 4) rfl))) (by decide) (backOf (W := 0) (rm_pick l Z a0 hw [] (5 : Int32) w0 w1 w2 w3 w4 w5 w6 w7 w8 w9 h0 n0 O0 S_PULLED S_PRESENT S_REPLACED S_RETRACTED S_NOOP S_REFUSED S_WOULD_PULL S_WOULD_REPLACE S_WOULD_RETRACT S_MISSING) hZ (hw _ (List.mem_of_getElem? (i := 4) rfl)) (hw _ (List.mem_of_getElem? (i := 3) rfl)) (by decide) (by decide)) (g := (mkF m 9 #[.val (.int i0), .val (.int (5 : Int32)), .unset, .unset] [(.int (5 : Int32))])) rfl (by rw [hml]; rfl) (argsL := [(.int (5 : Int32))]) (rest := []) (lenOf pd__28I_29Lcom_2fexample_2ftermflow_2ftermflow_2fpull_2fStatus_3b rfl) rfl (by show 2 * 0 + _ ≤ _; exact Nat.le_of_eq rfl) (hb hby at_9) (fun _ _ => ⟨rfl, e0, (by decide : 0 + 0 ≤ _), (by decide : 0 + 0 ≤ _)⟩)
    dsimp only [Pt.U, Pt.locs, Pt.cells, Pt.slots] at X61 l61 y61 z61 st61 hQ61
    subst l61 y61 z61
    obtain ⟨rfl, Nq61, P62⟩ := hQ61
    have N61 := Fr.app N0 Nq61
    refine own_G.step (T' := T61) (g' := (mkF m 12 #[.val (.int i0), .val (.int (5 : Int32)), .unset, .unset] [(.ref (own_pick (5 : Int32) w0 w1 w2 w3 w4 w5 w6 w7 w8 w9))])) (fun tq_ kq_ => st61 _ kq_) ?_
    have hp63 : own_pick (5 : Int32) w0 w1 w2 w3 w4 w5 w6 w7 w8 w9 = w5 := by simp [own_pick]
    refine own_G.cast (g' := (mkF m 12 #[.val (.int i0), .val (.int (5 : Int32)), .unset, .unset] [(.ref w5)])) (by rw [hp63]) ?_
    refine own_G.step (g' := (mkF m 13 #[.val (.int i0), .val (.int (5 : Int32)), .val (.ref w5), .unset] [])) (fun tq_ kq_ => XS.astoreN X61.here hx rfl (hb hby at_12) rfl rfl (l' := #[.val (.int i0), .val (.int (5 : Int32)), .val (.ref w5), .unset]) rfl kq_) ?_
    refine own_G.step (g' := (mkF m 14 #[.val (.int i0), .val (.int (5 : Int32)), .val (.ref w5), .unset] [(.ref w5)])) (fun tq_ kq_ => XS.aloadN X61.here hx rfl (hb hby at_13) rfl rfl kq_) ?_
    obtain ⟨cq64, kq64, q64a, q64b, q64c⟩ := isOf hZ P62 (Exa.ext O0.2 E_REFUSED)
    obtain ⟨_, _, ⟨T64, L64, k64, n64⟩, -, X64, ⟨Lc64, hQ64, l64, y64, z64⟩, st64⟩ := X61.virtualBack hx (y := (⟨"com/example/termflow/termflow/pull/Status", "planned", "()Lcom/example/termflow/termflow/pull/Status;"⟩ : MethodName)) (z := (⟨"com/example/termflow/termflow/pull/Status", "planned", "()Lcom/example/termflow/termflow/pull/Status;"⟩ : MethodName)) hown (mvT hZ (hw _ (List.mem_of_getElem? (i := 8) rfl))) (mvT hZ (hw _ (List.mem_of_getElem? (i := 9) rfl))) (notFace_of_selects (args := #[]) (mvT hZ (hw _ (List.mem_of_getElem? (i := 11) rfl)))) (mvT hZ (hw _ (List.mem_of_getElem? (i := 11) rfl))) (mvT hZ (hw _ (List.mem_of_getElem? (i := 10) rfl))) (by decide) (backOf (W := 0) (rm_plan l Z a0 hw [] w5 (5 : Int32) w0 w1 w2 w3 w4 w5 w6 w7 w8 w9 h0 n0 O0 E_REFUSED F_REFUSED_ordinal (by decide) S_PULLED S_PRESENT S_REPLACED S_RETRACTED S_NOOP S_REFUSED S_WOULD_PULL S_WOULD_REPLACE S_WOULD_RETRACT S_MISSING) hZ (hw _ (List.mem_of_getElem? (i := 12) rfl)) (hw _ (List.mem_of_getElem? (i := 6) rfl)) (by decide) (by decide)) q64a q64c (g := (mkF m 14 #[.val (.int i0), .val (.int (5 : Int32)), .val (.ref w5), .unset] [(.ref w5)])) rfl (by rw [hml]; rfl) (Steps.refl _) (argsL := []) (rest := []) (lenOf pd__28_29Lcom_2fexample_2ftermflow_2ftermflow_2fpull_2fStatus_3b rfl) rfl (by show 2 * 0 + _ ≤ _; exact Nat.le_of_eq rfl) (hb hby at_14) (fun _ _ => ⟨rfl, P62, (by decide : 0 + 0 ≤ _), (by decide : 0 + 0 ≤ _)⟩)
    dsimp only [Pt.U, Pt.locs, Pt.cells, Pt.slots] at X64 l64 y64 z64 st64 hQ64
    subst l64 y64 z64
    obtain ⟨rfl, Nq64, P65⟩ := hQ64
    have N64 := Fr.app N61 Nq64
    refine own_G.step (T' := T64) (g' := (mkF m 17 #[.val (.int i0), .val (.int (5 : Int32)), .val (.ref w5), .unset] [(.ref (own_plan (5 : Int32) w5 w6 w7 w8))])) (fun tq_ kq_ => st64.trans kq_) ?_
    have hp66 : own_plan (5 : Int32) w5 w6 w7 w8 = w5 := by simp [own_plan]
    refine own_G.cast (g' := (mkF m 17 #[.val (.int i0), .val (.int (5 : Int32)), .val (.ref w5), .unset] [(.ref w5)])) (by rw [hp66]) ?_
    refine own_G.step (g' := (mkF m 18 #[.val (.int i0), .val (.int (5 : Int32)), .val (.ref w5), .val (.ref w5)] [])) (fun tq_ kq_ => XS.astoreN X64.here hx rfl (hb hby at_17) rfl rfl (l' := #[.val (.int i0), .val (.int (5 : Int32)), .val (.ref w5), .val (.ref w5)]) rfl kq_) ?_
    refine own_G.step (g' := (mkF m 19 #[.val (.int i0), .val (.int (5 : Int32)), .val (.ref w5), .val (.ref w5)] [(.ref w5)])) (fun tq_ kq_ => XS.aloadN X64.here hx rfl (hb hby at_18) rfl rfl kq_) ?_
    refine own_G.step (g' := (mkF m 20 #[.val (.int i0), .val (.int (5 : Int32)), .val (.ref w5), .val (.ref w5)] [(.int (5 : Int32)), (.ref w5)])) (fun tq_ kq_ => XS.iloadN X64.here hx rfl (hb hby at_19) rfl kq_) ?_
    obtain ⟨_, _, ⟨T67, L67, k67, n67⟩, -, X67, ⟨Lc67, hQ67, l67, y67, z67⟩, st67⟩ := Jvm.LawKit.callS X64 hx (y := (⟨"com/example/termflow/termflow/pull/StatusPlannedPinLaw", "expected", "(I)Lcom/example/termflow/termflow/pull/Status;"⟩ : MethodName)) hown (mvT hZ (hw _ (List.mem_of_getElem? (i := 24) rfl))) (mvT hZ (hw _ (List.mem_of_getElem? (i := 25) rfl))) (mvT hZ (hw _ (List.mem_of_getElem? (i := 3) rfl))) (mvT hZ (hw _ (List.mem_of_getElem? (i := 26) rfl))) (by decide) (backOf (W := 1) (rm_exp l Z a0 hw [] (5 : Int32) w0 w1 w2 w3 w4 w5 w6 w7 w8 w9 h0 n0 O0 S_PULLED S_PRESENT S_REPLACED S_RETRACTED S_NOOP S_REFUSED S_WOULD_PULL S_WOULD_REPLACE S_WOULD_RETRACT S_MISSING) hZ (hw _ (List.mem_of_getElem? (i := 26) rfl)) (hw _ (List.mem_of_getElem? (i := 3) rfl)) (by decide) (by decide)) (g := (mkF m 20 #[.val (.int i0), .val (.int (5 : Int32)), .val (.ref w5), .val (.ref w5)] [(.int (5 : Int32)), (.ref w5)])) rfl (by rw [hml]; rfl) (argsL := [(.int (5 : Int32))]) (rest := [(.ref w5)]) (lenOf pd__28I_29Lcom_2fexample_2ftermflow_2ftermflow_2fpull_2fStatus_3b rfl) rfl (by show 2 * 0 + _ ≤ _; exact Nat.le_of_eq rfl) (hb hby at_20) (fun _ _ => ⟨rfl, P65, (by decide : 0 + 0 ≤ _), (by decide : 0 + 0 ≤ _)⟩)
    dsimp only [Pt.U, Pt.locs, Pt.cells, Pt.slots] at X67 l67 y67 z67 st67 hQ67
    subst l67 y67 z67
    obtain ⟨rfl, Nq67, P68⟩ := hQ67
    have N67 := Fr.app N64 Nq67
    refine own_G.step (T' := T67) (g' := (mkF m 23 #[.val (.int i0), .val (.int (5 : Int32)), .val (.ref w5), .val (.ref w5)] [(.ref (own_exp (5 : Int32) w0 w1 w2 w3 w4 w5 w6 w7 w8 w9)), (.ref w5)])) (fun tq_ kq_ => st67 _ kq_) ?_
    have hp69 : own_exp (5 : Int32) w0 w1 w2 w3 w4 w5 w6 w7 w8 w9 = w5 := by simp [own_exp, own_pick]
    refine own_G.cast (g' := (mkF m 23 #[.val (.int i0), .val (.int (5 : Int32)), .val (.ref w5), .val (.ref w5)] [(.ref w5), (.ref w5)])) (by rw [hp69]) ?_
    refine own_G.step (g' := (mkF m 28 #[.val (.int i0), .val (.int (5 : Int32)), .val (.ref w5), .val (.ref w5)] [])) (fun tq_ kq_ => Jvm.RoadKit.acmp (g := (mkF m 23 #[.val (.int i0), .val (.int (5 : Int32)), .val (.ref w5), .val (.ref w5)] [(.ref w5), (.ref w5)])) X67 hx rfl rfl rfl (pc0 := 23) (pc' := 28) (same := true) rfl (hb hby at_23) rfl (decide_eq_true rfl) (by decide) (by decide) kq_) ?_
    refine own_G.step (g' := (mkF m 29 #[.val (.int i0), .val (.int (5 : Int32)), .val (.ref w5), .val (.ref w5)] [(.ref w5)])) (fun tq_ kq_ => XS.aloadN X67.here hx rfl (hb hby at_28) rfl rfl kq_) ?_
    obtain ⟨cq70, kq70, q70a, q70b, q70c⟩ := isOf hZ P68 (Exa.ext O0.2 E_REFUSED)
    obtain ⟨_, _, ⟨T70, L70, k70, n70⟩, -, X70, ⟨Lc70, hQ70, l70, y70, z70⟩, st70⟩ := X67.virtualBack hx (y := (⟨"com/example/termflow/termflow/pull/Status", "planned", "()Lcom/example/termflow/termflow/pull/Status;"⟩ : MethodName)) (z := (⟨"com/example/termflow/termflow/pull/Status", "planned", "()Lcom/example/termflow/termflow/pull/Status;"⟩ : MethodName)) hown (mvT hZ (hw _ (List.mem_of_getElem? (i := 8) rfl))) (mvT hZ (hw _ (List.mem_of_getElem? (i := 9) rfl))) (notFace_of_selects (args := #[]) (mvT hZ (hw _ (List.mem_of_getElem? (i := 11) rfl)))) (mvT hZ (hw _ (List.mem_of_getElem? (i := 11) rfl))) (mvT hZ (hw _ (List.mem_of_getElem? (i := 10) rfl))) (by decide) (backOf (W := 0) (rm_plan l Z a0 hw [] w5 (5 : Int32) w0 w1 w2 w3 w4 w5 w6 w7 w8 w9 h0 n0 O0 E_REFUSED F_REFUSED_ordinal (by decide) S_PULLED S_PRESENT S_REPLACED S_RETRACTED S_NOOP S_REFUSED S_WOULD_PULL S_WOULD_REPLACE S_WOULD_RETRACT S_MISSING) hZ (hw _ (List.mem_of_getElem? (i := 12) rfl)) (hw _ (List.mem_of_getElem? (i := 6) rfl)) (by decide) (by decide)) q70a q70c (g := (mkF m 29 #[.val (.int i0), .val (.int (5 : Int32)), .val (.ref w5), .val (.ref w5)] [(.ref w5)])) rfl (by rw [hml]; rfl) (Steps.refl _) (argsL := []) (rest := []) (lenOf pd__28_29Lcom_2fexample_2ftermflow_2ftermflow_2fpull_2fStatus_3b rfl) rfl (by show 2 * 0 + _ ≤ _; exact Nat.le_of_eq rfl) (hb hby at_29) (fun _ _ => ⟨rfl, P68, (by decide : 0 + 0 ≤ _), (by decide : 0 + 0 ≤ _)⟩)
    dsimp only [Pt.U, Pt.locs, Pt.cells, Pt.slots] at X70 l70 y70 z70 st70 hQ70
    subst l70 y70 z70
    obtain ⟨rfl, Nq70, P71⟩ := hQ70
    have N70 := Fr.app N67 Nq70
    refine own_G.step (T' := T70) (g' := (mkF m 32 #[.val (.int i0), .val (.int (5 : Int32)), .val (.ref w5), .val (.ref w5)] [(.ref (own_plan (5 : Int32) w5 w6 w7 w8))])) (fun tq_ kq_ => st70.trans kq_) ?_
    have hp72 : own_plan (5 : Int32) w5 w6 w7 w8 = w5 := by simp [own_plan]
    refine own_G.cast (g' := (mkF m 32 #[.val (.int i0), .val (.int (5 : Int32)), .val (.ref w5), .val (.ref w5)] [(.ref w5)])) (by rw [hp72]) ?_
    refine own_G.step (g' := (mkF m 33 #[.val (.int i0), .val (.int (5 : Int32)), .val (.ref w5), .val (.ref w5)] [(.ref w5), (.ref w5)])) (fun tq_ kq_ => XS.aloadN X70.here hx rfl (hb hby at_32) rfl rfl kq_) ?_
    refine own_G.step (g' := (mkF m 36 #[.val (.int i0), .val (.int (5 : Int32)), .val (.ref w5), .val (.ref w5)] [])) (fun tq_ kq_ => Jvm.RoadKit.acmp (g := (mkF m 33 #[.val (.int i0), .val (.int (5 : Int32)), .val (.ref w5), .val (.ref w5)] [(.ref w5), (.ref w5)])) X70 hx rfl rfl rfl (pc0 := 33) (pc' := 36) (same := true) rfl (hb hby at_33) rfl (decide_eq_true rfl) (by decide) (by decide) kq_) ?_
    refine own_G.step (g' := (mkF m 37 #[.val (.int i0), .val (.int (5 : Int32)), .val (.ref w5), .val (.ref w5)] [(.int (1 : Int32))])) (fun tq_ kq_ => XS.iconst X70.here hx rfl (hb hby at_36) kq_) ?_
    refine own_G.step (g' := (mkF m 41 #[.val (.int i0), .val (.int (5 : Int32)), .val (.ref w5), .val (.ref w5)] [(.int (1 : Int32))])) (fun tq_ kq_ => XS.goto X70.here hx rfl (pc0 := 37) (pc' := 41) rfl (hb hby at_37) (by decide) (by decide) kq_) ?_
    exact own_ret X70 P71 (v := some (.int (1 : Int32))) (fun h => by rw [Bd.returns] at h; cases h) Bd.notSynchronized ⟨rfl, N70⟩ (by decide) (by decide) (fun fs hr => retN X70 hx (t := .boolean) Bd.returns (by simp) (hb hby at_41) hr)
  · refine own_G.step (g' := (mkF m 9 #[.val (.int i0), .val (.int (6 : Int32)), .unset, .unset] [(.int (6 : Int32))])) (fun tq_ kq_ => XS.iloadN X0.here hx rfl (hb hby at_8) rfl kq_) ?_
    obtain ⟨_, _, ⟨T73, L73, k73, n73⟩, -, X73, ⟨Lc73, hQ73, l73, y73, z73⟩, st73⟩ := Jvm.LawKit.callS X0 hx (y := (⟨"com/example/termflow/termflow/pull/StatusPlannedPinLaw", "pick", "(I)Lcom/example/termflow/termflow/pull/Status;"⟩ : MethodName)) hown (mvT hZ (hw _ (List.mem_of_getElem? (i := 1) rfl))) (mvT hZ (hw _ (List.mem_of_getElem? (i := 2) rfl))) (mvT hZ (hw _ (List.mem_of_getElem? (i := 3) rfl))) (mvT hZ (hw _ (List.mem_of_getElem? (i := 4) rfl))) (by decide) (backOf (W := 0) (rm_pick l Z a0 hw [] (6 : Int32) w0 w1 w2 w3 w4 w5 w6 w7 w8 w9 h0 n0 O0 S_PULLED S_PRESENT S_REPLACED S_RETRACTED S_NOOP S_REFUSED S_WOULD_PULL S_WOULD_REPLACE S_WOULD_RETRACT S_MISSING) hZ (hw _ (List.mem_of_getElem? (i := 4) rfl)) (hw _ (List.mem_of_getElem? (i := 3) rfl)) (by decide) (by decide)) (g := (mkF m 9 #[.val (.int i0), .val (.int (6 : Int32)), .unset, .unset] [(.int (6 : Int32))])) rfl (by rw [hml]; rfl) (argsL := [(.int (6 : Int32))]) (rest := []) (lenOf pd__28I_29Lcom_2fexample_2ftermflow_2ftermflow_2fpull_2fStatus_3b rfl) rfl (by show 2 * 0 + _ ≤ _; exact Nat.le_of_eq rfl) (hb hby at_9) (fun _ _ => ⟨rfl, e0, (by decide : 0 + 0 ≤ _), (by decide : 0 + 0 ≤ _)⟩)
    dsimp only [Pt.U, Pt.locs, Pt.cells, Pt.slots] at X73 l73 y73 z73 st73 hQ73
    subst l73 y73 z73
    obtain ⟨rfl, Nq73, P74⟩ := hQ73
    have N73 := Fr.app N0 Nq73
    refine own_G.step (T' := T73) (g' := (mkF m 12 #[.val (.int i0), .val (.int (6 : Int32)), .unset, .unset] [(.ref (own_pick (6 : Int32) w0 w1 w2 w3 w4 w5 w6 w7 w8 w9))])) (fun tq_ kq_ => st73 _ kq_) ?_
    have hp75 : own_pick (6 : Int32) w0 w1 w2 w3 w4 w5 w6 w7 w8 w9 = w6 := by simp [own_pick]
    refine own_G.cast (g' := (mkF m 12 #[.val (.int i0), .val (.int (6 : Int32)), .unset, .unset] [(.ref w6)])) (by rw [hp75]) ?_
    refine own_G.step (g' := (mkF m 13 #[.val (.int i0), .val (.int (6 : Int32)), .val (.ref w6), .unset] [])) (fun tq_ kq_ => XS.astoreN X73.here hx rfl (hb hby at_12) rfl rfl (l' := #[.val (.int i0), .val (.int (6 : Int32)), .val (.ref w6), .unset]) rfl kq_) ?_
    refine own_G.step (g' := (mkF m 14 #[.val (.int i0), .val (.int (6 : Int32)), .val (.ref w6), .unset] [(.ref w6)])) (fun tq_ kq_ => XS.aloadN X73.here hx rfl (hb hby at_13) rfl rfl kq_) ?_
    obtain ⟨cq76, kq76, q76a, q76b, q76c⟩ := isOf hZ P74 (Exa.ext O0.2 E_WOULD_PULL)
    obtain ⟨_, _, ⟨T76, L76, k76, n76⟩, -, X76, ⟨Lc76, hQ76, l76, y76, z76⟩, st76⟩ := X73.virtualBack hx (y := (⟨"com/example/termflow/termflow/pull/Status", "planned", "()Lcom/example/termflow/termflow/pull/Status;"⟩ : MethodName)) (z := (⟨"com/example/termflow/termflow/pull/Status", "planned", "()Lcom/example/termflow/termflow/pull/Status;"⟩ : MethodName)) hown (mvT hZ (hw _ (List.mem_of_getElem? (i := 8) rfl))) (mvT hZ (hw _ (List.mem_of_getElem? (i := 9) rfl))) (notFace_of_selects (args := #[]) (mvT hZ (hw _ (List.mem_of_getElem? (i := 11) rfl)))) (mvT hZ (hw _ (List.mem_of_getElem? (i := 11) rfl))) (mvT hZ (hw _ (List.mem_of_getElem? (i := 10) rfl))) (by decide) (backOf (W := 0) (rm_plan l Z a0 hw [] w6 (6 : Int32) w0 w1 w2 w3 w4 w5 w6 w7 w8 w9 h0 n0 O0 E_WOULD_PULL F_WOULD_PULL_ordinal (by decide) S_PULLED S_PRESENT S_REPLACED S_RETRACTED S_NOOP S_REFUSED S_WOULD_PULL S_WOULD_REPLACE S_WOULD_RETRACT S_MISSING) hZ (hw _ (List.mem_of_getElem? (i := 12) rfl)) (hw _ (List.mem_of_getElem? (i := 6) rfl)) (by decide) (by decide)) q76a q76c (g := (mkF m 14 #[.val (.int i0), .val (.int (6 : Int32)), .val (.ref w6), .unset] [(.ref w6)])) rfl (by rw [hml]; rfl) (Steps.refl _) (argsL := []) (rest := []) (lenOf pd__28_29Lcom_2fexample_2ftermflow_2ftermflow_2fpull_2fStatus_3b rfl) rfl (by show 2 * 0 + _ ≤ _; exact Nat.le_of_eq rfl) (hb hby at_14) (fun _ _ => ⟨rfl, P74, (by decide : 0 + 0 ≤ _), (by decide : 0 + 0 ≤ _)⟩)
    dsimp only [Pt.U, Pt.locs, Pt.cells, Pt.slots] at X76 l76 y76 z76 st76 hQ76
    subst l76 y76 z76
    obtain ⟨rfl, Nq76, P77⟩ := hQ76
    have N76 := Fr.app N73 Nq76
    refine own_G.step (T' := T76) (g' := (mkF m 17 #[.val (.int i0), .val (.int (6 : Int32)), .val (.ref w6), .unset] [(.ref (own_plan (6 : Int32) w6 w6 w7 w8))])) (fun tq_ kq_ => st76.trans kq_) ?_
    have hp78 : own_plan (6 : Int32) w6 w6 w7 w8 = w6 := by simp [own_plan]
    refine own_G.cast (g' := (mkF m 17 #[.val (.int i0), .val (.int (6 : Int32)), .val (.ref w6), .unset] [(.ref w6)])) (by rw [hp78]) ?_
    refine own_G.step (g' := (mkF m 18 #[.val (.int i0), .val (.int (6 : Int32)), .val (.ref w6), .val (.ref w6)] [])) (fun tq_ kq_ => XS.astoreN X76.here hx rfl (hb hby at_17) rfl rfl (l' := #[.val (.int i0), .val (.int (6 : Int32)), .val (.ref w6), .val (.ref w6)]) rfl kq_) ?_
    refine own_G.step (g' := (mkF m 19 #[.val (.int i0), .val (.int (6 : Int32)), .val (.ref w6), .val (.ref w6)] [(.ref w6)])) (fun tq_ kq_ => XS.aloadN X76.here hx rfl (hb hby at_18) rfl rfl kq_) ?_
    refine own_G.step (g' := (mkF m 20 #[.val (.int i0), .val (.int (6 : Int32)), .val (.ref w6), .val (.ref w6)] [(.int (6 : Int32)), (.ref w6)])) (fun tq_ kq_ => XS.iloadN X76.here hx rfl (hb hby at_19) rfl kq_) ?_
    obtain ⟨_, _, ⟨T79, L79, k79, n79⟩, -, X79, ⟨Lc79, hQ79, l79, y79, z79⟩, st79⟩ := Jvm.LawKit.callS X76 hx (y := (⟨"com/example/termflow/termflow/pull/StatusPlannedPinLaw", "expected", "(I)Lcom/example/termflow/termflow/pull/Status;"⟩ : MethodName)) hown (mvT hZ (hw _ (List.mem_of_getElem? (i := 24) rfl))) (mvT hZ (hw _ (List.mem_of_getElem? (i := 25) rfl))) (mvT hZ (hw _ (List.mem_of_getElem? (i := 3) rfl))) (mvT hZ (hw _ (List.mem_of_getElem? (i := 26) rfl))) (by decide) (backOf (W := 1) (rm_exp l Z a0 hw [] (6 : Int32) w0 w1 w2 w3 w4 w5 w6 w7 w8 w9 h0 n0 O0 S_PULLED S_PRESENT S_REPLACED S_RETRACTED S_NOOP S_REFUSED S_WOULD_PULL S_WOULD_REPLACE S_WOULD_RETRACT S_MISSING) hZ (hw _ (List.mem_of_getElem? (i := 26) rfl)) (hw _ (List.mem_of_getElem? (i := 3) rfl)) (by decide) (by decide)) (g := (mkF m 20 #[.val (.int i0), .val (.int (6 : Int32)), .val (.ref w6), .val (.ref w6)] [(.int (6 : Int32)), (.ref w6)])) rfl (by rw [hml]; rfl) (argsL := [(.int (6 : Int32))]) (rest := [(.ref w6)]) (lenOf pd__28I_29Lcom_2fexample_2ftermflow_2ftermflow_2fpull_2fStatus_3b rfl) rfl (by show 2 * 0 + _ ≤ _; exact Nat.le_of_eq rfl) (hb hby at_20) (fun _ _ => ⟨rfl, P77, (by decide : 0 + 0 ≤ _), (by decide : 0 + 0 ≤ _)⟩)
    dsimp only [Pt.U, Pt.locs, Pt.cells, Pt.slots] at X79 l79 y79 z79 st79 hQ79
    subst l79 y79 z79
    obtain ⟨rfl, Nq79, P80⟩ := hQ79
    have N79 := Fr.app N76 Nq79
    refine own_G.step (T' := T79) (g' := (mkF m 23 #[.val (.int i0), .val (.int (6 : Int32)), .val (.ref w6), .val (.ref w6)] [(.ref (own_exp (6 : Int32) w0 w1 w2 w3 w4 w5 w6 w7 w8 w9)), (.ref w6)])) (fun tq_ kq_ => st79 _ kq_) ?_
    have hp81 : own_exp (6 : Int32) w0 w1 w2 w3 w4 w5 w6 w7 w8 w9 = w6 := by simp [own_exp, own_pick]
    refine own_G.cast (g' := (mkF m 23 #[.val (.int i0), .val (.int (6 : Int32)), .val (.ref w6), .val (.ref w6)] [(.ref w6), (.ref w6)])) (by rw [hp81]) ?_
    refine own_G.step (g' := (mkF m 28 #[.val (.int i0), .val (.int (6 : Int32)), .val (.ref w6), .val (.ref w6)] [])) (fun tq_ kq_ => Jvm.RoadKit.acmp (g := (mkF m 23 #[.val (.int i0), .val (.int (6 : Int32)), .val (.ref w6), .val (.ref w6)] [(.ref w6), (.ref w6)])) X79 hx rfl rfl rfl (pc0 := 23) (pc' := 28) (same := true) rfl (hb hby at_23) rfl (decide_eq_true rfl) (by decide) (by decide) kq_) ?_
    refine own_G.step (g' := (mkF m 29 #[.val (.int i0), .val (.int (6 : Int32)), .val (.ref w6), .val (.ref w6)] [(.ref w6)])) (fun tq_ kq_ => XS.aloadN X79.here hx rfl (hb hby at_28) rfl rfl kq_) ?_
    obtain ⟨cq82, kq82, q82a, q82b, q82c⟩ := isOf hZ P80 (Exa.ext O0.2 E_WOULD_PULL)
    obtain ⟨_, _, ⟨T82, L82, k82, n82⟩, -, X82, ⟨Lc82, hQ82, l82, y82, z82⟩, st82⟩ := X79.virtualBack hx (y := (⟨"com/example/termflow/termflow/pull/Status", "planned", "()Lcom/example/termflow/termflow/pull/Status;"⟩ : MethodName)) (z := (⟨"com/example/termflow/termflow/pull/Status", "planned", "()Lcom/example/termflow/termflow/pull/Status;"⟩ : MethodName)) hown (mvT hZ (hw _ (List.mem_of_getElem? (i := 8) rfl))) (mvT hZ (hw _ (List.mem_of_getElem? (i := 9) rfl))) (notFace_of_selects (args := #[]) (mvT hZ (hw _ (List.mem_of_getElem? (i := 11) rfl)))) (mvT hZ (hw _ (List.mem_of_getElem? (i := 11) rfl))) (mvT hZ (hw _ (List.mem_of_getElem? (i := 10) rfl))) (by decide) (backOf (W := 0) (rm_plan l Z a0 hw [] w6 (6 : Int32) w0 w1 w2 w3 w4 w5 w6 w7 w8 w9 h0 n0 O0 E_WOULD_PULL F_WOULD_PULL_ordinal (by decide) S_PULLED S_PRESENT S_REPLACED S_RETRACTED S_NOOP S_REFUSED S_WOULD_PULL S_WOULD_REPLACE S_WOULD_RETRACT S_MISSING) hZ (hw _ (List.mem_of_getElem? (i := 12) rfl)) (hw _ (List.mem_of_getElem? (i := 6) rfl)) (by decide) (by decide)) q82a q82c (g := (mkF m 29 #[.val (.int i0), .val (.int (6 : Int32)), .val (.ref w6), .val (.ref w6)] [(.ref w6)])) rfl (by rw [hml]; rfl) (Steps.refl _) (argsL := []) (rest := []) (lenOf pd__28_29Lcom_2fexample_2ftermflow_2ftermflow_2fpull_2fStatus_3b rfl) rfl (by show 2 * 0 + _ ≤ _; exact Nat.le_of_eq rfl) (hb hby at_29) (fun _ _ => ⟨rfl, P80, (by decide : 0 + 0 ≤ _), (by decide : 0 + 0 ≤ _)⟩)
    dsimp only [Pt.U, Pt.locs, Pt.cells, Pt.slots] at X82 l82 y82 z82 st82 hQ82
    subst l82 y82 z82
    obtain ⟨rfl, Nq82, P83⟩ := hQ82
    have N82 := Fr.app N79 Nq82
    refine own_G.step (T' := T82) (g' := (mkF m 32 #[.val (.int i0), .val (.int (6 : Int32)), .val (.ref w6), .val (.ref w6)] [(.ref (own_plan (6 : Int32) w6 w6 w7 w8))])) (fun tq_ kq_ => st82.trans kq_) ?_
    have hp84 : own_plan (6 : Int32) w6 w6 w7 w8 = w6 := by simp [own_plan]
    refine own_G.cast (g' := (mkF m 32 #[.val (.int i0), .val (.int (6 : Int32)), .val (.ref w6), .val (.ref w6)] [(.ref w6)])) (by rw [hp84]) ?_
    refine own_G.step (g' := (mkF m 33 #[.val (.int i0), .val (.int (6 : Int32)), .val (.ref w6), .val (.ref w6)] [(.ref w6), (.ref w6)])) (fun tq_ kq_ => XS.aloadN X82.here hx rfl (hb hby at_32) rfl rfl kq_) ?_
    refine own_G.step (g' := (mkF m 36 #[.val (.int i0), .val (.int (6 : Int32)), .val (.ref w6), .val (.ref w6)] [])) (fun tq_ kq_ => Jvm.RoadKit.acmp (g := (mkF m 33 #[.val (.int i0), .val (.int (6 : Int32)), .val (.ref w6), .val (.ref w6)] [(.ref w6), (.ref w6)])) X82 hx rfl rfl rfl (pc0 := 33) (pc' := 36) (same := true) rfl (hb hby at_33) rfl (decide_eq_true rfl) (by decide) (by decide) kq_) ?_
    refine own_G.step (g' := (mkF m 37 #[.val (.int i0), .val (.int (6 : Int32)), .val (.ref w6), .val (.ref w6)] [(.int (1 : Int32))])) (fun tq_ kq_ => XS.iconst X82.here hx rfl (hb hby at_36) kq_) ?_
    refine own_G.step (g' := (mkF m 41 #[.val (.int i0), .val (.int (6 : Int32)), .val (.ref w6), .val (.ref w6)] [(.int (1 : Int32))])) (fun tq_ kq_ => XS.goto X82.here hx rfl (pc0 := 37) (pc' := 41) rfl (hb hby at_37) (by decide) (by decide) kq_) ?_
    exact own_ret X82 P83 (v := some (.int (1 : Int32))) (fun h => by rw [Bd.returns] at h; cases h) Bd.notSynchronized ⟨rfl, N82⟩ (by decide) (by decide) (fun fs hr => retN X82 hx (t := .boolean) Bd.returns (by simp) (hb hby at_41) hr)
  · refine own_G.step (g' := (mkF m 9 #[.val (.int i0), .val (.int (7 : Int32)), .unset, .unset] [(.int (7 : Int32))])) (fun tq_ kq_ => XS.iloadN X0.here hx rfl (hb hby at_8) rfl kq_) ?_
    obtain ⟨_, _, ⟨T85, L85, k85, n85⟩, -, X85, ⟨Lc85, hQ85, l85, y85, z85⟩, st85⟩ := Jvm.LawKit.callS X0 hx (y := (⟨"com/example/termflow/termflow/pull/StatusPlannedPinLaw", "pick", "(I)Lcom/example/termflow/termflow/pull/Status;"⟩ : MethodName)) hown (mvT hZ (hw _ (List.mem_of_getElem? (i := 1) rfl))) (mvT hZ (hw _ (List.mem_of_getElem? (i := 2) rfl))) (mvT hZ (hw _ (List.mem_of_getElem? (i := 3) rfl))) (mvT hZ (hw _ (List.mem_of_getElem? (i := 4) rfl))) (by decide) (backOf (W := 0) (rm_pick l Z a0 hw [] (7 : Int32) w0 w1 w2 w3 w4 w5 w6 w7 w8 w9 h0 n0 O0 S_PULLED S_PRESENT S_REPLACED S_RETRACTED S_NOOP S_REFUSED S_WOULD_PULL S_WOULD_REPLACE S_WOULD_RETRACT S_MISSING) hZ (hw _ (List.mem_of_getElem? (i := 4) rfl)) (hw _ (List.mem_of_getElem? (i := 3) rfl)) (by decide) (by decide)) (g := (mkF m 9 #[.val (.int i0), .val (.int (7 : Int32)), .unset, .unset] [(.int (7 : Int32))])) rfl (by rw [hml]; rfl) (argsL := [(.int (7 : Int32))]) (rest := []) (lenOf pd__28I_29Lcom_2fexample_2ftermflow_2ftermflow_2fpull_2fStatus_3b rfl) rfl (by show 2 * 0 + _ ≤ _; exact Nat.le_of_eq rfl) (hb hby at_9) (fun _ _ => ⟨rfl, e0, (by decide : 0 + 0 ≤ _), (by decide : 0 + 0 ≤ _)⟩)
    dsimp only [Pt.U, Pt.locs, Pt.cells, Pt.slots] at X85 l85 y85 z85 st85 hQ85
    subst l85 y85 z85
    obtain ⟨rfl, Nq85, P86⟩ := hQ85
    have N85 := Fr.app N0 Nq85
    refine own_G.step (T' := T85) (g' := (mkF m 12 #[.val (.int i0), .val (.int (7 : Int32)), .unset, .unset] [(.ref (own_pick (7 : Int32) w0 w1 w2 w3 w4 w5 w6 w7 w8 w9))])) (fun tq_ kq_ => st85 _ kq_) ?_
    have hp87 : own_pick (7 : Int32) w0 w1 w2 w3 w4 w5 w6 w7 w8 w9 = w7 := by simp [own_pick]
    refine own_G.cast (g' := (mkF m 12 #[.val (.int i0), .val (.int (7 : Int32)), .unset, .unset] [(.ref w7)])) (by rw [hp87]) ?_
    refine own_G.step (g' := (mkF m 13 #[.val (.int i0), .val (.int (7 : Int32)), .val (.ref w7), .unset] [])) (fun tq_ kq_ => XS.astoreN X85.here hx rfl (hb hby at_12) rfl rfl (l' := #[.val (.int i0), .val (.int (7 : Int32)), .val (.ref w7), .unset]) rfl kq_) ?_
    refine own_G.step (g' := (mkF m 14 #[.val (.int i0), .val (.int (7 : Int32)), .val (.ref w7), .unset] [(.ref w7)])) (fun tq_ kq_ => XS.aloadN X85.here hx rfl (hb hby at_13) rfl rfl kq_) ?_
    obtain ⟨cq88, kq88, q88a, q88b, q88c⟩ := isOf hZ P86 (Exa.ext O0.2 E_WOULD_REPLACE)
    obtain ⟨_, _, ⟨T88, L88, k88, n88⟩, -, X88, ⟨Lc88, hQ88, l88, y88, z88⟩, st88⟩ := X85.virtualBack hx (y := (⟨"com/example/termflow/termflow/pull/Status", "planned", "()Lcom/example/termflow/termflow/pull/Status;"⟩ : MethodName)) (z := (⟨"com/example/termflow/termflow/pull/Status", "planned", "()Lcom/example/termflow/termflow/pull/Status;"⟩ : MethodName)) hown (mvT hZ (hw _ (List.mem_of_getElem? (i := 8) rfl))) (mvT hZ (hw _ (List.mem_of_getElem? (i := 9) rfl))) (notFace_of_selects (args := #[]) (mvT hZ (hw _ (List.mem_of_getElem? (i := 11) rfl)))) (mvT hZ (hw _ (List.mem_of_getElem? (i := 11) rfl))) (mvT hZ (hw _ (List.mem_of_getElem? (i := 10) rfl))) (by decide) (backOf (W := 0) (rm_plan l Z a0 hw [] w7 (7 : Int32) w0 w1 w2 w3 w4 w5 w6 w7 w8 w9 h0 n0 O0 E_WOULD_REPLACE F_WOULD_REPLACE_ordinal (by decide) S_PULLED S_PRESENT S_REPLACED S_RETRACTED S_NOOP S_REFUSED S_WOULD_PULL S_WOULD_REPLACE S_WOULD_RETRACT S_MISSING) hZ (hw _ (List.mem_of_getElem? (i := 12) rfl)) (hw _ (List.mem_of_getElem? (i := 6) rfl)) (by decide) (by decide)) q88a q88c (g := (mkF m 14 #[.val (.int i0), .val (.int (7 : Int32)), .val (.ref w7), .unset] [(.ref w7)])) rfl (by rw [hml]; rfl) (Steps.refl _) (argsL := []) (rest := []) (lenOf pd__28_29Lcom_2fexample_2ftermflow_2ftermflow_2fpull_2fStatus_3b rfl) rfl (by show 2 * 0 + _ ≤ _; exact Nat.le_of_eq rfl) (hb hby at_14) (fun _ _ => ⟨rfl, P86, (by decide : 0 + 0 ≤ _), (by decide : 0 + 0 ≤ _)⟩)
    dsimp only [Pt.U, Pt.locs, Pt.cells, Pt.slots] at X88 l88 y88 z88 st88 hQ88
    subst l88 y88 z88
    obtain ⟨rfl, Nq88, P89⟩ := hQ88
    have N88 := Fr.app N85 Nq88
    refine own_G.step (T' := T88) (g' := (mkF m 17 #[.val (.int i0), .val (.int (7 : Int32)), .val (.ref w7), .unset] [(.ref (own_plan (7 : Int32) w7 w6 w7 w8))])) (fun tq_ kq_ => st88.trans kq_) ?_
    have hp90 : own_plan (7 : Int32) w7 w6 w7 w8 = w7 := by simp [own_plan]
    refine own_G.cast (g' := (mkF m 17 #[.val (.int i0), .val (.int (7 : Int32)), .val (.ref w7), .unset] [(.ref w7)])) (by rw [hp90]) ?_
    refine own_G.step (g' := (mkF m 18 #[.val (.int i0), .val (.int (7 : Int32)), .val (.ref w7), .val (.ref w7)] [])) (fun tq_ kq_ => XS.astoreN X88.here hx rfl (hb hby at_17) rfl rfl (l' := #[.val (.int i0), .val (.int (7 : Int32)), .val (.ref w7), .val (.ref w7)]) rfl kq_) ?_
    refine own_G.step (g' := (mkF m 19 #[.val (.int i0), .val (.int (7 : Int32)), .val (.ref w7), .val (.ref w7)] [(.ref w7)])) (fun tq_ kq_ => XS.aloadN X88.here hx rfl (hb hby at_18) rfl rfl kq_) ?_
    refine own_G.step (g' := (mkF m 20 #[.val (.int i0), .val (.int (7 : Int32)), .val (.ref w7), .val (.ref w7)] [(.int (7 : Int32)), (.ref w7)])) (fun tq_ kq_ => XS.iloadN X88.here hx rfl (hb hby at_19) rfl kq_) ?_
    obtain ⟨_, _, ⟨T91, L91, k91, n91⟩, -, X91, ⟨Lc91, hQ91, l91, y91, z91⟩, st91⟩ := Jvm.LawKit.callS X88 hx (y := (⟨"com/example/termflow/termflow/pull/StatusPlannedPinLaw", "expected", "(I)Lcom/example/termflow/termflow/pull/Status;"⟩ : MethodName)) hown (mvT hZ (hw _ (List.mem_of_getElem? (i := 24) rfl))) (mvT hZ (hw _ (List.mem_of_getElem? (i := 25) rfl))) (mvT hZ (hw _ (List.mem_of_getElem? (i := 3) rfl))) (mvT hZ (hw _ (List.mem_of_getElem? (i := 26) rfl))) (by decide) (backOf (W := 1) (rm_exp l Z a0 hw [] (7 : Int32) w0 w1 w2 w3 w4 w5 w6 w7 w8 w9 h0 n0 O0 S_PULLED S_PRESENT S_REPLACED S_RETRACTED S_NOOP S_REFUSED S_WOULD_PULL S_WOULD_REPLACE S_WOULD_RETRACT S_MISSING) hZ (hw _ (List.mem_of_getElem? (i := 26) rfl)) (hw _ (List.mem_of_getElem? (i := 3) rfl)) (by decide) (by decide)) (g := (mkF m 20 #[.val (.int i0), .val (.int (7 : Int32)), .val (.ref w7), .val (.ref w7)] [(.int (7 : Int32)), (.ref w7)])) rfl (by rw [hml]; rfl) (argsL := [(.int (7 : Int32))]) (rest := [(.ref w7)]) (lenOf pd__28I_29Lcom_2fexample_2ftermflow_2ftermflow_2fpull_2fStatus_3b rfl) rfl (by show 2 * 0 + _ ≤ _; exact Nat.le_of_eq rfl) (hb hby at_20) (fun _ _ => ⟨rfl, P89, (by decide : 0 + 0 ≤ _), (by decide : 0 + 0 ≤ _)⟩)
    dsimp only [Pt.U, Pt.locs, Pt.cells, Pt.slots] at X91 l91 y91 z91 st91 hQ91
    subst l91 y91 z91
    obtain ⟨rfl, Nq91, P92⟩ := hQ91
    have N91 := Fr.app N88 Nq91
    refine own_G.step (T' := T91) (g' := (mkF m 23 #[.val (.int i0), .val (.int (7 : Int32)), .val (.ref w7), .val (.ref w7)] [(.ref (own_exp (7 : Int32) w0 w1 w2 w3 w4 w5 w6 w7 w8 w9)), (.ref w7)])) (fun tq_ kq_ => st91 _ kq_) ?_
    have hp93 : own_exp (7 : Int32) w0 w1 w2 w3 w4 w5 w6 w7 w8 w9 = w7 := by simp [own_exp, own_pick]
    refine own_G.cast (g' := (mkF m 23 #[.val (.int i0), .val (.int (7 : Int32)), .val (.ref w7), .val (.ref w7)] [(.ref w7), (.ref w7)])) (by rw [hp93]) ?_
    refine own_G.step (g' := (mkF m 28 #[.val (.int i0), .val (.int (7 : Int32)), .val (.ref w7), .val (.ref w7)] [])) (fun tq_ kq_ => Jvm.RoadKit.acmp (g := (mkF m 23 #[.val (.int i0), .val (.int (7 : Int32)), .val (.ref w7), .val (.ref w7)] [(.ref w7), (.ref w7)])) X91 hx rfl rfl rfl (pc0 := 23) (pc' := 28) (same := true) rfl (hb hby at_23) rfl (decide_eq_true rfl) (by decide) (by decide) kq_) ?_
    refine own_G.step (g' := (mkF m 29 #[.val (.int i0), .val (.int (7 : Int32)), .val (.ref w7), .val (.ref w7)] [(.ref w7)])) (fun tq_ kq_ => XS.aloadN X91.here hx rfl (hb hby at_28) rfl rfl kq_) ?_
    obtain ⟨cq94, kq94, q94a, q94b, q94c⟩ := isOf hZ P92 (Exa.ext O0.2 E_WOULD_REPLACE)
    obtain ⟨_, _, ⟨T94, L94, k94, n94⟩, -, X94, ⟨Lc94, hQ94, l94, y94, z94⟩, st94⟩ := X91.virtualBack hx (y := (⟨"com/example/termflow/termflow/pull/Status", "planned", "()Lcom/example/termflow/termflow/pull/Status;"⟩ : MethodName)) (z := (⟨"com/example/termflow/termflow/pull/Status", "planned", "()Lcom/example/termflow/termflow/pull/Status;"⟩ : MethodName)) hown (mvT hZ (hw _ (List.mem_of_getElem? (i := 8) rfl))) (mvT hZ (hw _ (List.mem_of_getElem? (i := 9) rfl))) (notFace_of_selects (args := #[]) (mvT hZ (hw _ (List.mem_of_getElem? (i := 11) rfl)))) (mvT hZ (hw _ (List.mem_of_getElem? (i := 11) rfl))) (mvT hZ (hw _ (List.mem_of_getElem? (i := 10) rfl))) (by decide) (backOf (W := 0) (rm_plan l Z a0 hw [] w7 (7 : Int32) w0 w1 w2 w3 w4 w5 w6 w7 w8 w9 h0 n0 O0 E_WOULD_REPLACE F_WOULD_REPLACE_ordinal (by decide) S_PULLED S_PRESENT S_REPLACED S_RETRACTED S_NOOP S_REFUSED S_WOULD_PULL S_WOULD_REPLACE S_WOULD_RETRACT S_MISSING) hZ (hw _ (List.mem_of_getElem? (i := 12) rfl)) (hw _ (List.mem_of_getElem? (i := 6) rfl)) (by decide) (by decide)) q94a q94c (g := (mkF m 29 #[.val (.int i0), .val (.int (7 : Int32)), .val (.ref w7), .val (.ref w7)] [(.ref w7)])) rfl (by rw [hml]; rfl) (Steps.refl _) (argsL := []) (rest := []) (lenOf pd__28_29Lcom_2fexample_2ftermflow_2ftermflow_2fpull_2fStatus_3b rfl) rfl (by show 2 * 0 + _ ≤ _; exact Nat.le_of_eq rfl) (hb hby at_29) (fun _ _ => ⟨rfl, P92, (by decide : 0 + 0 ≤ _), (by decide : 0 + 0 ≤ _)⟩)
    dsimp only [Pt.U, Pt.locs, Pt.cells, Pt.slots] at X94 l94 y94 z94 st94 hQ94
    subst l94 y94 z94
    obtain ⟨rfl, Nq94, P95⟩ := hQ94
    have N94 := Fr.app N91 Nq94
    refine own_G.step (T' := T94) (g' := (mkF m 32 #[.val (.int i0), .val (.int (7 : Int32)), .val (.ref w7), .val (.ref w7)] [(.ref (own_plan (7 : Int32) w7 w6 w7 w8))])) (fun tq_ kq_ => st94.trans kq_) ?_
    have hp96 : own_plan (7 : Int32) w7 w6 w7 w8 = w7 := by simp [own_plan]
    refine own_G.cast (g' := (mkF m 32 #[.val (.int i0), .val (.int (7 : Int32)), .val (.ref w7), .val (.ref w7)] [(.ref w7)])) (by rw [hp96]) ?_
    refine own_G.step (g' := (mkF m 33 #[.val (.int i0), .val (.int (7 : Int32)), .val (.ref w7), .val (.ref w7)] [(.ref w7), (.ref w7)])) (fun tq_ kq_ => XS.aloadN X94.here hx rfl (hb hby at_32) rfl rfl kq_) ?_
    refine own_G.step (g' := (mkF m 36 #[.val (.int i0), .val (.int (7 : Int32)), .val (.ref w7), .val (.ref w7)] [])) (fun tq_ kq_ => Jvm.RoadKit.acmp (g := (mkF m 33 #[.val (.int i0), .val (.int (7 : Int32)), .val (.ref w7), .val (.ref w7)] [(.ref w7), (.ref w7)])) X94 hx rfl rfl rfl (pc0 := 33) (pc' := 36) (same := true) rfl (hb hby at_33) rfl (decide_eq_true rfl) (by decide) (by decide) kq_) ?_
    refine own_G.step (g' := (mkF m 37 #[.val (.int i0), .val (.int (7 : Int32)), .val (.ref w7), .val (.ref w7)] [(.int (1 : Int32))])) (fun tq_ kq_ => XS.iconst X94.here hx rfl (hb hby at_36) kq_) ?_
    refine own_G.step (g' := (mkF m 41 #[.val (.int i0), .val (.int (7 : Int32)), .val (.ref w7), .val (.ref w7)] [(.int (1 : Int32))])) (fun tq_ kq_ => XS.goto X94.here hx rfl (pc0 := 37) (pc' := 41) rfl (hb hby at_37) (by decide) (by decide) kq_) ?_
    exact own_ret X94 P95 (v := some (.int (1 : Int32))) (fun h => by rw [Bd.returns] at h; cases h) Bd.notSynchronized ⟨rfl, N94⟩ (by decide) (by decide) (fun fs hr => retN X94 hx (t := .boolean) Bd.returns (by simp) (hb hby at_41) hr)
  · refine own_G.step (g' := (mkF m 9 #[.val (.int i0), .val (.int (8 : Int32)), .unset, .unset] [(.int (8 : Int32))])) (fun tq_ kq_ => XS.iloadN X0.here hx rfl (hb hby at_8) rfl kq_) ?_
    obtain ⟨_, _, ⟨T97, L97, k97, n97⟩, -, X97, ⟨Lc97, hQ97, l97, y97, z97⟩, st97⟩ := Jvm.LawKit.callS X0 hx (y := (⟨"com/example/termflow/termflow/pull/StatusPlannedPinLaw", "pick", "(I)Lcom/example/termflow/termflow/pull/Status;"⟩ : MethodName)) hown (mvT hZ (hw _ (List.mem_of_getElem? (i := 1) rfl))) (mvT hZ (hw _ (List.mem_of_getElem? (i := 2) rfl))) (mvT hZ (hw _ (List.mem_of_getElem? (i := 3) rfl))) (mvT hZ (hw _ (List.mem_of_getElem? (i := 4) rfl))) (by decide) (backOf (W := 0) (rm_pick l Z a0 hw [] (8 : Int32) w0 w1 w2 w3 w4 w5 w6 w7 w8 w9 h0 n0 O0 S_PULLED S_PRESENT S_REPLACED S_RETRACTED S_NOOP S_REFUSED S_WOULD_PULL S_WOULD_REPLACE S_WOULD_RETRACT S_MISSING) hZ (hw _ (List.mem_of_getElem? (i := 4) rfl)) (hw _ (List.mem_of_getElem? (i := 3) rfl)) (by decide) (by decide)) (g := (mkF m 9 #[.val (.int i0), .val (.int (8 : Int32)), .unset, .unset] [(.int (8 : Int32))])) rfl (by rw [hml]; rfl) (argsL := [(.int (8 : Int32))]) (rest := []) (lenOf pd__28I_29Lcom_2fexample_2ftermflow_2ftermflow_2fpull_2fStatus_3b rfl) rfl (by show 2 * 0 + _ ≤ _; exact Nat.le_of_eq rfl) (hb hby at_9) (fun _ _ => ⟨rfl, e0, (by decide : 0 + 0 ≤ _), (by decide : 0 + 0 ≤ _)⟩)
    dsimp only [Pt.U, Pt.locs, Pt.cells, Pt.slots] at X97 l97 y97 z97 st97 hQ97
    subst l97 y97 z97
    obtain ⟨rfl, Nq97, P98⟩ := hQ97
    have N97 := Fr.app N0 Nq97
    refine own_G.step (T' := T97) (g' := (mkF m 12 #[.val (.int i0), .val (.int (8 : Int32)), .unset, .unset] [(.ref (own_pick (8 : Int32) w0 w1 w2 w3 w4 w5 w6 w7 w8 w9))])) (fun tq_ kq_ => st97 _ kq_) ?_
    have hp99 : own_pick (8 : Int32) w0 w1 w2 w3 w4 w5 w6 w7 w8 w9 = w8 := by simp [own_pick]
    refine own_G.cast (g' := (mkF m 12 #[.val (.int i0), .val (.int (8 : Int32)), .unset, .unset] [(.ref w8)])) (by rw [hp99]) ?_
    refine own_G.step (g' := (mkF m 13 #[.val (.int i0), .val (.int (8 : Int32)), .val (.ref w8), .unset] [])) (fun tq_ kq_ => XS.astoreN X97.here hx rfl (hb hby at_12) rfl rfl (l' := #[.val (.int i0), .val (.int (8 : Int32)), .val (.ref w8), .unset]) rfl kq_) ?_
    refine own_G.step (g' := (mkF m 14 #[.val (.int i0), .val (.int (8 : Int32)), .val (.ref w8), .unset] [(.ref w8)])) (fun tq_ kq_ => XS.aloadN X97.here hx rfl (hb hby at_13) rfl rfl kq_) ?_
    obtain ⟨cq100, kq100, q100a, q100b, q100c⟩ := isOf hZ P98 (Exa.ext O0.2 E_WOULD_RETRACT)
    obtain ⟨_, _, ⟨T100, L100, k100, n100⟩, -, X100, ⟨Lc100, hQ100, l100, y100, z100⟩, st100⟩ := X97.virtualBack hx (y := (⟨"com/example/termflow/termflow/pull/Status", "planned", "()Lcom/example/termflow/termflow/pull/Status;"⟩ : MethodName)) (z := (⟨"com/example/termflow/termflow/pull/Status", "planned", "()Lcom/example/termflow/termflow/pull/Status;"⟩ : MethodName)) hown (mvT hZ (hw _ (List.mem_of_getElem? (i := 8) rfl))) (mvT hZ (hw _ (List.mem_of_getElem? (i := 9) rfl))) (notFace_of_selects (args := #[]) (mvT hZ (hw _ (List.mem_of_getElem? (i := 11) rfl)))) (mvT hZ (hw _ (List.mem_of_getElem? (i := 11) rfl))) (mvT hZ (hw _ (List.mem_of_getElem? (i := 10) rfl))) (by decide) (backOf (W := 0) (rm_plan l Z a0 hw [] w8 (8 : Int32) w0 w1 w2 w3 w4 w5 w6 w7 w8 w9 h0 n0 O0 E_WOULD_RETRACT F_WOULD_RETRACT_ordinal (by decide) S_PULLED S_PRESENT S_REPLACED S_RETRACTED S_NOOP S_REFUSED S_WOULD_PULL S_WOULD_REPLACE S_WOULD_RETRACT S_MISSING) hZ (hw _ (List.mem_of_getElem? (i := 12) rfl)) (hw _ (List.mem_of_getElem? (i := 6) rfl)) (by decide) (by decide)) q100a q100c (g := (mkF m 14 #[.val (.int i0), .val (.int (8 : Int32)), .val (.ref w8), .unset] [(.ref w8)])) rfl (by rw [hml]; rfl) (Steps.refl _) (argsL := []) (rest := []) (lenOf pd__28_29Lcom_2fexample_2ftermflow_2ftermflow_2fpull_2fStatus_3b rfl) rfl (by show 2 * 0 + _ ≤ _; exact Nat.le_of_eq rfl) (hb hby at_14) (fun _ _ => ⟨rfl, P98, (by decide : 0 + 0 ≤ _), (by decide : 0 + 0 ≤ _)⟩)
    dsimp only [Pt.U, Pt.locs, Pt.cells, Pt.slots] at X100 l100 y100 z100 st100 hQ100
    subst l100 y100 z100
    obtain ⟨rfl, Nq100, P101⟩ := hQ100
    have N100 := Fr.app N97 Nq100
    refine own_G.step (T' := T100) (g' := (mkF m 17 #[.val (.int i0), .val (.int (8 : Int32)), .val (.ref w8), .unset] [(.ref (own_plan (8 : Int32) w8 w6 w7 w8))])) (fun tq_ kq_ => st100.trans kq_) ?_
    have hp102 : own_plan (8 : Int32) w8 w6 w7 w8 = w8 := by simp [own_plan]
    refine own_G.cast (g' := (mkF m 17 #[.val (.int i0), .val (.int (8 : Int32)), .val (.ref w8), .unset] [(.ref w8)])) (by rw [hp102]) ?_
    refine own_G.step (g' := (mkF m 18 #[.val (.int i0), .val (.int (8 : Int32)), .val (.ref w8), .val (.ref w8)] [])) (fun tq_ kq_ => XS.astoreN X100.here hx rfl (hb hby at_17) rfl rfl (l' := #[.val (.int i0), .val (.int (8 : Int32)), .val (.ref w8), .val (.ref w8)]) rfl kq_) ?_
    refine own_G.step (g' := (mkF m 19 #[.val (.int i0), .val (.int (8 : Int32)), .val (.ref w8), .val (.ref w8)] [(.ref w8)])) (fun tq_ kq_ => XS.aloadN X100.here hx rfl (hb hby at_18) rfl rfl kq_) ?_
    refine own_G.step (g' := (mkF m 20 #[.val (.int i0), .val (.int (8 : Int32)), .val (.ref w8), .val (.ref w8)] [(.int (8 : Int32)), (.ref w8)])) (fun tq_ kq_ => XS.iloadN X100.here hx rfl (hb hby at_19) rfl kq_) ?_
    obtain ⟨_, _, ⟨T103, L103, k103, n103⟩, -, X103, ⟨Lc103, hQ103, l103, y103, z103⟩, st103⟩ := Jvm.LawKit.callS X100 hx (y := (⟨"com/example/termflow/termflow/pull/StatusPlannedPinLaw", "expected", "(I)Lcom/example/termflow/termflow/pull/Status;"⟩ : MethodName)) hown (mvT hZ (hw _ (List.mem_of_getElem? (i := 24) rfl))) (mvT hZ (hw _ (List.mem_of_getElem? (i := 25) rfl))) (mvT hZ (hw _ (List.mem_of_getElem? (i := 3) rfl))) (mvT hZ (hw _ (List.mem_of_getElem? (i := 26) rfl))) (by decide) (backOf (W := 1) (rm_exp l Z a0 hw [] (8 : Int32) w0 w1 w2 w3 w4 w5 w6 w7 w8 w9 h0 n0 O0 S_PULLED S_PRESENT S_REPLACED S_RETRACTED S_NOOP S_REFUSED S_WOULD_PULL S_WOULD_REPLACE S_WOULD_RETRACT S_MISSING) hZ (hw _ (List.mem_of_getElem? (i := 26) rfl)) (hw _ (List.mem_of_getElem? (i := 3) rfl)) (by decide) (by decide)) (g := (mkF m 20 #[.val (.int i0), .val (.int (8 : Int32)), .val (.ref w8), .val (.ref w8)] [(.int (8 : Int32)), (.ref w8)])) rfl (by rw [hml]; rfl) (argsL := [(.int (8 : Int32))]) (rest := [(.ref w8)]) (lenOf pd__28I_29Lcom_2fexample_2ftermflow_2ftermflow_2fpull_2fStatus_3b rfl) rfl (by show 2 * 0 + _ ≤ _; exact Nat.le_of_eq rfl) (hb hby at_20) (fun _ _ => ⟨rfl, P101, (by decide : 0 + 0 ≤ _), (by decide : 0 + 0 ≤ _)⟩)
    dsimp only [Pt.U, Pt.locs, Pt.cells, Pt.slots] at X103 l103 y103 z103 st103 hQ103
    subst l103 y103 z103
    obtain ⟨rfl, Nq103, P104⟩ := hQ103
    have N103 := Fr.app N100 Nq103
    refine own_G.step (T' := T103) (g' := (mkF m 23 #[.val (.int i0), .val (.int (8 : Int32)), .val (.ref w8), .val (.ref w8)] [(.ref (own_exp (8 : Int32) w0 w1 w2 w3 w4 w5 w6 w7 w8 w9)), (.ref w8)])) (fun tq_ kq_ => st103 _ kq_) ?_
    have hp105 : own_exp (8 : Int32) w0 w1 w2 w3 w4 w5 w6 w7 w8 w9 = w8 := by simp [own_exp, own_pick]
    refine own_G.cast (g' := (mkF m 23 #[.val (.int i0), .val (.int (8 : Int32)), .val (.ref w8), .val (.ref w8)] [(.ref w8), (.ref w8)])) (by rw [hp105]) ?_
    refine own_G.step (g' := (mkF m 28 #[.val (.int i0), .val (.int (8 : Int32)), .val (.ref w8), .val (.ref w8)] [])) (fun tq_ kq_ => Jvm.RoadKit.acmp (g := (mkF m 23 #[.val (.int i0), .val (.int (8 : Int32)), .val (.ref w8), .val (.ref w8)] [(.ref w8), (.ref w8)])) X103 hx rfl rfl rfl (pc0 := 23) (pc' := 28) (same := true) rfl (hb hby at_23) rfl (decide_eq_true rfl) (by decide) (by decide) kq_) ?_
    refine own_G.step (g' := (mkF m 29 #[.val (.int i0), .val (.int (8 : Int32)), .val (.ref w8), .val (.ref w8)] [(.ref w8)])) (fun tq_ kq_ => XS.aloadN X103.here hx rfl (hb hby at_28) rfl rfl kq_) ?_
    obtain ⟨cq106, kq106, q106a, q106b, q106c⟩ := isOf hZ P104 (Exa.ext O0.2 E_WOULD_RETRACT)
    obtain ⟨_, _, ⟨T106, L106, k106, n106⟩, -, X106, ⟨Lc106, hQ106, l106, y106, z106⟩, st106⟩ := X103.virtualBack hx (y := (⟨"com/example/termflow/termflow/pull/Status", "planned", "()Lcom/example/termflow/termflow/pull/Status;"⟩ : MethodName)) (z := (⟨"com/example/termflow/termflow/pull/Status", "planned", "()Lcom/example/termflow/termflow/pull/Status;"⟩ : MethodName)) hown (mvT hZ (hw _ (List.mem_of_getElem? (i := 8) rfl))) (mvT hZ (hw _ (List.mem_of_getElem? (i := 9) rfl))) (notFace_of_selects (args := #[]) (mvT hZ (hw _ (List.mem_of_getElem? (i := 11) rfl)))) (mvT hZ (hw _ (List.mem_of_getElem? (i := 11) rfl))) (mvT hZ (hw _ (List.mem_of_getElem? (i := 10) rfl))) (by decide) (backOf (W := 0) (rm_plan l Z a0 hw [] w8 (8 : Int32) w0 w1 w2 w3 w4 w5 w6 w7 w8 w9 h0 n0 O0 E_WOULD_RETRACT F_WOULD_RETRACT_ordinal (by decide) S_PULLED S_PRESENT S_REPLACED S_RETRACTED S_NOOP S_REFUSED S_WOULD_PULL S_WOULD_REPLACE S_WOULD_RETRACT S_MISSING) hZ (hw _ (List.mem_of_getElem? (i := 12) rfl)) (hw _ (List.mem_of_getElem? (i := 6) rfl)) (by decide) (by decide)) q106a q106c (g := (mkF m 29 #[.val (.int i0), .val (.int (8 : Int32)), .val (.ref w8), .val (.ref w8)] [(.ref w8)])) rfl (by rw [hml]; rfl) (Steps.refl _) (argsL := []) (rest := []) (lenOf pd__28_29Lcom_2fexample_2ftermflow_2ftermflow_2fpull_2fStatus_3b rfl) rfl (by show 2 * 0 + _ ≤ _; exact Nat.le_of_eq rfl) (hb hby at_29) (fun _ _ => ⟨rfl, P104, (by decide : 0 + 0 ≤ _), (by decide : 0 + 0 ≤ _)⟩)
    dsimp only [Pt.U, Pt.locs, Pt.cells, Pt.slots] at X106 l106 y106 z106 st106 hQ106
    subst l106 y106 z106
    obtain ⟨rfl, Nq106, P107⟩ := hQ106
    have N106 := Fr.app N103 Nq106
    refine own_G.step (T' := T106) (g' := (mkF m 32 #[.val (.int i0), .val (.int (8 : Int32)), .val (.ref w8), .val (.ref w8)] [(.ref (own_plan (8 : Int32) w8 w6 w7 w8))])) (fun tq_ kq_ => st106.trans kq_) ?_
    have hp108 : own_plan (8 : Int32) w8 w6 w7 w8 = w8 := by simp [own_plan]
    refine own_G.cast (g' := (mkF m 32 #[.val (.int i0), .val (.int (8 : Int32)), .val (.ref w8), .val (.ref w8)] [(.ref w8)])) (by rw [hp108]) ?_
    refine own_G.step (g' := (mkF m 33 #[.val (.int i0), .val (.int (8 : Int32)), .val (.ref w8), .val (.ref w8)] [(.ref w8), (.ref w8)])) (fun tq_ kq_ => XS.aloadN X106.here hx rfl (hb hby at_32) rfl rfl kq_) ?_
    refine own_G.step (g' := (mkF m 36 #[.val (.int i0), .val (.int (8 : Int32)), .val (.ref w8), .val (.ref w8)] [])) (fun tq_ kq_ => Jvm.RoadKit.acmp (g := (mkF m 33 #[.val (.int i0), .val (.int (8 : Int32)), .val (.ref w8), .val (.ref w8)] [(.ref w8), (.ref w8)])) X106 hx rfl rfl rfl (pc0 := 33) (pc' := 36) (same := true) rfl (hb hby at_33) rfl (decide_eq_true rfl) (by decide) (by decide) kq_) ?_
    refine own_G.step (g' := (mkF m 37 #[.val (.int i0), .val (.int (8 : Int32)), .val (.ref w8), .val (.ref w8)] [(.int (1 : Int32))])) (fun tq_ kq_ => XS.iconst X106.here hx rfl (hb hby at_36) kq_) ?_
    refine own_G.step (g' := (mkF m 41 #[.val (.int i0), .val (.int (8 : Int32)), .val (.ref w8), .val (.ref w8)] [(.int (1 : Int32))])) (fun tq_ kq_ => XS.goto X106.here hx rfl (pc0 := 37) (pc' := 41) rfl (hb hby at_37) (by decide) (by decide) kq_) ?_
    exact own_ret X106 P107 (v := some (.int (1 : Int32))) (fun h => by rw [Bd.returns] at h; cases h) Bd.notSynchronized ⟨rfl, N106⟩ (by decide) (by decide) (fun fs hr => retN X106 hx (t := .boolean) Bd.returns (by simp) (hb hby at_41) hr)
  · refine own_G.step (g' := (mkF m 9 #[.val (.int i0), .val (.int (9 : Int32)), .unset, .unset] [(.int (9 : Int32))])) (fun tq_ kq_ => XS.iloadN X0.here hx rfl (hb hby at_8) rfl kq_) ?_
    obtain ⟨_, _, ⟨T109, L109, k109, n109⟩, -, X109, ⟨Lc109, hQ109, l109, y109, z109⟩, st109⟩ := Jvm.LawKit.callS X0 hx (y := (⟨"com/example/termflow/termflow/pull/StatusPlannedPinLaw", "pick", "(I)Lcom/example/termflow/termflow/pull/Status;"⟩ : MethodName)) hown (mvT hZ (hw _ (List.mem_of_getElem? (i := 1) rfl))) (mvT hZ (hw _ (List.mem_of_getElem? (i := 2) rfl))) (mvT hZ (hw _ (List.mem_of_getElem? (i := 3) rfl))) (mvT hZ (hw _ (List.mem_of_getElem? (i := 4) rfl))) (by decide) (backOf (W := 0) (rm_pick l Z a0 hw [] (9 : Int32) w0 w1 w2 w3 w4 w5 w6 w7 w8 w9 h0 n0 O0 S_PULLED S_PRESENT S_REPLACED S_RETRACTED S_NOOP S_REFUSED S_WOULD_PULL S_WOULD_REPLACE S_WOULD_RETRACT S_MISSING) hZ (hw _ (List.mem_of_getElem? (i := 4) rfl)) (hw _ (List.mem_of_getElem? (i := 3) rfl)) (by decide) (by decide)) (g := (mkF m 9 #[.val (.int i0), .val (.int (9 : Int32)), .unset, .unset] [(.int (9 : Int32))])) rfl (by rw [hml]; rfl) (argsL := [(.int (9 : Int32))]) (rest := []) (lenOf pd__28I_29Lcom_2fexample_2ftermflow_2ftermflow_2fpull_2fStatus_3b rfl) rfl (by show 2 * 0 + _ ≤ _; exact Nat.le_of_eq rfl) (hb hby at_9) (fun _ _ => ⟨rfl, e0, (by decide : 0 + 0 ≤ _), (by decide : 0 + 0 ≤ _)⟩)
    dsimp only [Pt.U, Pt.locs, Pt.cells, Pt.slots] at X109 l109 y109 z109 st109 hQ109
    subst l109 y109 z109
    obtain ⟨rfl, Nq109, P110⟩ := hQ109
    have N109 := Fr.app N0 Nq109
    refine own_G.step (T' := T109) (g' := (mkF m 12 #[.val (.int i0), .val (.int (9 : Int32)), .unset, .unset] [(.ref (own_pick (9 : Int32) w0 w1 w2 w3 w4 w5 w6 w7 w8 w9))])) (fun tq_ kq_ => st109 _ kq_) ?_
    have hp111 : own_pick (9 : Int32) w0 w1 w2 w3 w4 w5 w6 w7 w8 w9 = w9 := by simp [own_pick]
    refine own_G.cast (g' := (mkF m 12 #[.val (.int i0), .val (.int (9 : Int32)), .unset, .unset] [(.ref w9)])) (by rw [hp111]) ?_
    refine own_G.step (g' := (mkF m 13 #[.val (.int i0), .val (.int (9 : Int32)), .val (.ref w9), .unset] [])) (fun tq_ kq_ => XS.astoreN X109.here hx rfl (hb hby at_12) rfl rfl (l' := #[.val (.int i0), .val (.int (9 : Int32)), .val (.ref w9), .unset]) rfl kq_) ?_
    refine own_G.step (g' := (mkF m 14 #[.val (.int i0), .val (.int (9 : Int32)), .val (.ref w9), .unset] [(.ref w9)])) (fun tq_ kq_ => XS.aloadN X109.here hx rfl (hb hby at_13) rfl rfl kq_) ?_
    obtain ⟨cq112, kq112, q112a, q112b, q112c⟩ := isOf hZ P110 (Exa.ext O0.2 E_MISSING)
    obtain ⟨_, _, ⟨T112, L112, k112, n112⟩, -, X112, ⟨Lc112, hQ112, l112, y112, z112⟩, st112⟩ := X109.virtualBack hx (y := (⟨"com/example/termflow/termflow/pull/Status", "planned", "()Lcom/example/termflow/termflow/pull/Status;"⟩ : MethodName)) (z := (⟨"com/example/termflow/termflow/pull/Status", "planned", "()Lcom/example/termflow/termflow/pull/Status;"⟩ : MethodName)) hown (mvT hZ (hw _ (List.mem_of_getElem? (i := 8) rfl))) (mvT hZ (hw _ (List.mem_of_getElem? (i := 9) rfl))) (notFace_of_selects (args := #[]) (mvT hZ (hw _ (List.mem_of_getElem? (i := 11) rfl)))) (mvT hZ (hw _ (List.mem_of_getElem? (i := 11) rfl))) (mvT hZ (hw _ (List.mem_of_getElem? (i := 10) rfl))) (by decide) (backOf (W := 0) (rm_plan l Z a0 hw [] w9 (9 : Int32) w0 w1 w2 w3 w4 w5 w6 w7 w8 w9 h0 n0 O0 E_MISSING F_MISSING_ordinal (by decide) S_PULLED S_PRESENT S_REPLACED S_RETRACTED S_NOOP S_REFUSED S_WOULD_PULL S_WOULD_REPLACE S_WOULD_RETRACT S_MISSING) hZ (hw _ (List.mem_of_getElem? (i := 12) rfl)) (hw _ (List.mem_of_getElem? (i := 6) rfl)) (by decide) (by decide)) q112a q112c (g := (mkF m 14 #[.val (.int i0), .val (.int (9 : Int32)), .val (.ref w9), .unset] [(.ref w9)])) rfl (by rw [hml]; rfl) (Steps.refl _) (argsL := []) (rest := []) (lenOf pd__28_29Lcom_2fexample_2ftermflow_2ftermflow_2fpull_2fStatus_3b rfl) rfl (by show 2 * 0 + _ ≤ _; exact Nat.le_of_eq rfl) (hb hby at_14) (fun _ _ => ⟨rfl, P110, (by decide : 0 + 0 ≤ _), (by decide : 0 + 0 ≤ _)⟩)
    dsimp only [Pt.U, Pt.locs, Pt.cells, Pt.slots] at X112 l112 y112 z112 st112 hQ112
    subst l112 y112 z112
    obtain ⟨rfl, Nq112, P113⟩ := hQ112
    have N112 := Fr.app N109 Nq112
    refine own_G.step (T' := T112) (g' := (mkF m 17 #[.val (.int i0), .val (.int (9 : Int32)), .val (.ref w9), .unset] [(.ref (own_plan (9 : Int32) w9 w6 w7 w8))])) (fun tq_ kq_ => st112.trans kq_) ?_
    have hp114 : own_plan (9 : Int32) w9 w6 w7 w8 = w9 := by simp [own_plan]
    refine own_G.cast (g' := (mkF m 17 #[.val (.int i0), .val (.int (9 : Int32)), .val (.ref w9), .unset] [(.ref w9)])) (by rw [hp114]) ?_
    refine own_G.step (g' := (mkF m 18 #[.val (.int i0), .val (.int (9 : Int32)), .val (.ref w9), .val (.ref w9)] [])) (fun tq_ kq_ => XS.astoreN X112.here hx rfl (hb hby at_17) rfl rfl (l' := #[.val (.int i0), .val (.int (9 : Int32)), .val (.ref w9), .val (.ref w9)]) rfl kq_) ?_
    refine own_G.step (g' := (mkF m 19 #[.val (.int i0), .val (.int (9 : Int32)), .val (.ref w9), .val (.ref w9)] [(.ref w9)])) (fun tq_ kq_ => XS.aloadN X112.here hx rfl (hb hby at_18) rfl rfl kq_) ?_
    refine own_G.step (g' := (mkF m 20 #[.val (.int i0), .val (.int (9 : Int32)), .val (.ref w9), .val (.ref w9)] [(.int (9 : Int32)), (.ref w9)])) (fun tq_ kq_ => XS.iloadN X112.here hx rfl (hb hby at_19) rfl kq_) ?_
    obtain ⟨_, _, ⟨T115, L115, k115, n115⟩, -, X115, ⟨Lc115, hQ115, l115, y115, z115⟩, st115⟩ := Jvm.LawKit.callS X112 hx (y := (⟨"com/example/termflow/termflow/pull/StatusPlannedPinLaw", "expected", "(I)Lcom/example/termflow/termflow/pull/Status;"⟩ : MethodName)) hown (mvT hZ (hw _ (List.mem_of_getElem? (i := 24) rfl))) (mvT hZ (hw _ (List.mem_of_getElem? (i := 25) rfl))) (mvT hZ (hw _ (List.mem_of_getElem? (i := 3) rfl))) (mvT hZ (hw _ (List.mem_of_getElem? (i := 26) rfl))) (by decide) (backOf (W := 1) (rm_exp l Z a0 hw [] (9 : Int32) w0 w1 w2 w3 w4 w5 w6 w7 w8 w9 h0 n0 O0 S_PULLED S_PRESENT S_REPLACED S_RETRACTED S_NOOP S_REFUSED S_WOULD_PULL S_WOULD_REPLACE S_WOULD_RETRACT S_MISSING) hZ (hw _ (List.mem_of_getElem? (i := 26) rfl)) (hw _ (List.mem_of_getElem? (i := 3) rfl)) (by decide) (by decide)) (g := (mkF m 20 #[.val (.int i0), .val (.int (9 : Int32)), .val (.ref w9), .val (.ref w9)] [(.int (9 : Int32)), (.ref w9)])) rfl (by rw [hml]; rfl) (argsL := [(.int (9 : Int32))]) (rest := [(.ref w9)]) (lenOf pd__28I_29Lcom_2fexample_2ftermflow_2ftermflow_2fpull_2fStatus_3b rfl) rfl (by show 2 * 0 + _ ≤ _; exact Nat.le_of_eq rfl) (hb hby at_20) (fun _ _ => ⟨rfl, P113, (by decide : 0 + 0 ≤ _), (by decide : 0 + 0 ≤ _)⟩)
    dsimp only [Pt.U, Pt.locs, Pt.cells, Pt.slots] at X115 l115 y115 z115 st115 hQ115
    subst l115 y115 z115
    obtain ⟨rfl, Nq115, P116⟩ := hQ115
    have N115 := Fr.app N112 Nq115
    refine own_G.step (T' := T115) (g' := (mkF m 23 #[.val (.int i0), .val (.int (9 : Int32)), .val (.ref w9), .val (.ref w9)] [(.ref (own_exp (9 : Int32) w0 w1 w2 w3 w4 w5 w6 w7 w8 w9)), (.ref w9)])) (fun tq_ kq_ => st115 _ kq_) ?_
    have hp117 : own_exp (9 : Int32) w0 w1 w2 w3 w4 w5 w6 w7 w8 w9 = w9 := by simp [own_exp, own_pick]
    refine own_G.cast (g' := (mkF m 23 #[.val (.int i0), .val (.int (9 : Int32)), .val (.ref w9), .val (.ref w9)] [(.ref w9), (.ref w9)])) (by rw [hp117]) ?_
    refine own_G.step (g' := (mkF m 28 #[.val (.int i0), .val (.int (9 : Int32)), .val (.ref w9), .val (.ref w9)] [])) (fun tq_ kq_ => Jvm.RoadKit.acmp (g := (mkF m 23 #[.val (.int i0), .val (.int (9 : Int32)), .val (.ref w9), .val (.ref w9)] [(.ref w9), (.ref w9)])) X115 hx rfl rfl rfl (pc0 := 23) (pc' := 28) (same := true) rfl (hb hby at_23) rfl (decide_eq_true rfl) (by decide) (by decide) kq_) ?_
    refine own_G.step (g' := (mkF m 29 #[.val (.int i0), .val (.int (9 : Int32)), .val (.ref w9), .val (.ref w9)] [(.ref w9)])) (fun tq_ kq_ => XS.aloadN X115.here hx rfl (hb hby at_28) rfl rfl kq_) ?_
    obtain ⟨cq118, kq118, q118a, q118b, q118c⟩ := isOf hZ P116 (Exa.ext O0.2 E_MISSING)
    obtain ⟨_, _, ⟨T118, L118, k118, n118⟩, -, X118, ⟨Lc118, hQ118, l118, y118, z118⟩, st118⟩ := X115.virtualBack hx (y := (⟨"com/example/termflow/termflow/pull/Status", "planned", "()Lcom/example/termflow/termflow/pull/Status;"⟩ : MethodName)) (z := (⟨"com/example/termflow/termflow/pull/Status", "planned", "()Lcom/example/termflow/termflow/pull/Status;"⟩ : MethodName)) hown (mvT hZ (hw _ (List.mem_of_getElem? (i := 8) rfl))) (mvT hZ (hw _ (List.mem_of_getElem? (i := 9) rfl))) (notFace_of_selects (args := #[]) (mvT hZ (hw _ (List.mem_of_getElem? (i := 11) rfl)))) (mvT hZ (hw _ (List.mem_of_getElem? (i := 11) rfl))) (mvT hZ (hw _ (List.mem_of_getElem? (i := 10) rfl))) (by decide) (backOf (W := 0) (rm_plan l Z a0 hw [] w9 (9 : Int32) w0 w1 w2 w3 w4 w5 w6 w7 w8 w9 h0 n0 O0 E_MISSING F_MISSING_ordinal (by decide) S_PULLED S_PRESENT S_REPLACED S_RETRACTED S_NOOP S_REFUSED S_WOULD_PULL S_WOULD_REPLACE S_WOULD_RETRACT S_MISSING) hZ (hw _ (List.mem_of_getElem? (i := 12) rfl)) (hw _ (List.mem_of_getElem? (i := 6) rfl)) (by decide) (by decide)) q118a q118c (g := (mkF m 29 #[.val (.int i0), .val (.int (9 : Int32)), .val (.ref w9), .val (.ref w9)] [(.ref w9)])) rfl (by rw [hml]; rfl) (Steps.refl _) (argsL := []) (rest := []) (lenOf pd__28_29Lcom_2fexample_2ftermflow_2ftermflow_2fpull_2fStatus_3b rfl) rfl (by show 2 * 0 + _ ≤ _; exact Nat.le_of_eq rfl) (hb hby at_29) (fun _ _ => ⟨rfl, P116, (by decide : 0 + 0 ≤ _), (by decide : 0 + 0 ≤ _)⟩)
    dsimp only [Pt.U, Pt.locs, Pt.cells, Pt.slots] at X118 l118 y118 z118 st118 hQ118
    subst l118 y118 z118
    obtain ⟨rfl, Nq118, P119⟩ := hQ118
    have N118 := Fr.app N115 Nq118
    refine own_G.step (T' := T118) (g' := (mkF m 32 #[.val (.int i0), .val (.int (9 : Int32)), .val (.ref w9), .val (.ref w9)] [(.ref (own_plan (9 : Int32) w9 w6 w7 w8))])) (fun tq_ kq_ => st118.trans kq_) ?_
    have hp120 : own_plan (9 : Int32) w9 w6 w7 w8 = w9 := by simp [own_plan]
    refine own_G.cast (g' := (mkF m 32 #[.val (.int i0), .val (.int (9 : Int32)), .val (.ref w9), .val (.ref w9)] [(.ref w9)])) (by rw [hp120]) ?_
    refine own_G.step (g' := (mkF m 33 #[.val (.int i0), .val (.int (9 : Int32)), .val (.ref w9), .val (.ref w9)] [(.ref w9), (.ref w9)])) (fun tq_ kq_ => XS.aloadN X118.here hx rfl (hb hby at_32) rfl rfl kq_) ?_
    refine own_G.step (g' := (mkF m 36 #[.val (.int i0), .val (.int (9 : Int32)), .val (.ref w9), .val (.ref w9)] [])) (fun tq_ kq_ => Jvm.RoadKit.acmp (g := (mkF m 33 #[.val (.int i0), .val (.int (9 : Int32)), .val (.ref w9), .val (.ref w9)] [(.ref w9), (.ref w9)])) X118 hx rfl rfl rfl (pc0 := 33) (pc' := 36) (same := true) rfl (hb hby at_33) rfl (decide_eq_true rfl) (by decide) (by decide) kq_) ?_
    refine own_G.step (g' := (mkF m 37 #[.val (.int i0), .val (.int (9 : Int32)), .val (.ref w9), .val (.ref w9)] [(.int (1 : Int32))])) (fun tq_ kq_ => XS.iconst X118.here hx rfl (hb hby at_36) kq_) ?_
    refine own_G.step (g' := (mkF m 41 #[.val (.int i0), .val (.int (9 : Int32)), .val (.ref w9), .val (.ref w9)] [(.int (1 : Int32))])) (fun tq_ kq_ => XS.goto X118.here hx rfl (pc0 := 37) (pc' := 41) rfl (hb hby at_37) (by decide) (by decide) kq_) ?_
    exact own_ret X118 P119 (v := some (.int (1 : Int32))) (fun h => by rw [Bd.returns] at h; cases h) Bd.notSynchronized ⟨rfl, N118⟩ (by decide) (by decide) (fun fs hr => retN X118 hx (t := .boolean) Bd.returns (by simp) (hb hby at_41) hr)
set_option maxRecDepth 65536 in
set_option maxHeartbeats 40000000 in
theorem comes_1 {Post : Tables → Env → Array Value → State → Outcome → State → Prop} (hpost : ∀ tb e args s v u, (limb_1_1.after args s (.returned v) u = true ∧ limb_1_2.after args s (.returned v) u = true ∧ True) → FrameEnd s (.returned v) u (Jvm.fieldLocs frame_1_writes args s ++ Jvm.arrayLocs frame_1_arrays args s ++ Jvm.staticLocs frame_1_statics s) 0 0 → Post tb e args s (.returned v) u) :
    ArmFor flags0 classFile x code maxLocals ret World_1 tables_1 room_1 Calls_1 rest_1 Pre_1 Post := by
  intro l hfl _ _ p e ha hc hk s m args below hf hA hF happ hP
  obtain ⟨hcalls, hrest, hpre⟩ := hP
  obtain ⟨-, -, -, hnamed, -, -, -, hat⟩ := (Spec.applies_iff hf).mp happ
  obtain ⟨hg, hn⟩ := and_e (Cond.before_iff.mp (show (Jvm.Cond.and given_1 narrow_1).before args s = true from hpre))
  obtain ⟨gz1, gz2⟩ := and_e hg
  obtain ⟨gz3, gz4⟩ := and_e hn
  obtain ⟨gz5, gz6⟩ := and_e gz4
  obtain ⟨gz7, gz8⟩ := and_e gz6
  obtain ⟨gz9, gz10⟩ := and_e gz8
  obtain ⟨gz11, gz12⟩ := and_e gz10
  obtain ⟨gz13, gz14⟩ := and_e gz12
  obtain ⟨gz15, gz16⟩ := and_e gz14
  obtain ⟨gz17, gz18⟩ := and_e gz16
  obtain ⟨gz19, gz20⟩ := and_e gz18
  obtain ⟨gz21, gz22⟩ := and_e gz20
  obtain ⟨gz23, gz24⟩ := and_e gz22
  obtain ⟨gz25, gz26⟩ := and_e gz24
  obtain ⟨gz27, gz28⟩ := and_e gz26
  obtain ⟨gz29, gz30⟩ := and_e gz28
  obtain ⟨gz31, gz32⟩ := and_e gz30
  obtain ⟨gz33, gz34⟩ := and_e gz32
  obtain ⟨gz35, gz36⟩ := and_e gz34
  obtain ⟨gz37, gz38⟩ := and_e gz36
  obtain ⟨gz39, gz40⟩ := and_e gz38
  obtain ⟨u0, rfl⟩ : ∃ u0 : Value, args = #[u0] := by
    have hs : args.size = 1 := by simpa [Cond.value, given_1] using gz1
    obtain ⟨L⟩ := args
    match L, hs with
    | [u0], _ => exact ⟨u0, rfl⟩
  have hw := fun d (hd : d ∈ tables_1) => atoms_spec (ws := Jvm.Cond.code x code maxLocals ret :: tables_1) hat d (List.mem_cons_of_mem _ hd)
  have hfit : Fit s := fun {y c} hc i hi => by
    obtain ⟨ha, rfl⟩ := Array.getElem?_eq_some_iff.mp hc
    have q := List.all_eq_true.mp ((Array.all_eq_true_iff_forall_mem.mp hF) _ (Array.getElem_mem ha)) i (List.mem_range.mpr hi)
    simpa [Array.getElem?_eq_getElem hi] using q
  obtain ⟨i0, ei0⟩ := is_v gz2
  obtain rfl : u0 = (.int i0) := Option.some.inj ei0
  obtain ⟨w0, ev_PULLED⟩ := exa_v gz3
  have S_PULLED : Sta s s.heap "com/example/termflow/termflow/pull/Status" "PULLED" "Lcom/example/termflow/termflow/pull/Status;" (.ref w0) := Sta.start ev_PULLED (Or.inr ⟨(hw _ (List.mem_of_getElem? (i := 6) rfl)), (hw _ (List.mem_of_getElem? (i := 7) rfl))⟩)
  have E_PULLED : Exa s s.heap w0 "com/example/termflow/termflow/pull/Status" := Exa.start ev_PULLED gz3
  obtain ⟨w6, ev_WOULD_PULL⟩ := exa_v gz7
  have S_WOULD_PULL : Sta s s.heap "com/example/termflow/termflow/pull/Status" "WOULD_PULL" "Lcom/example/termflow/termflow/pull/Status;" (.ref w6) := Sta.start ev_WOULD_PULL (Or.inr ⟨(hw _ (List.mem_of_getElem? (i := 6) rfl)), (hw _ (List.mem_of_getElem? (i := 23) rfl))⟩)
  have E_WOULD_PULL : Exa s s.heap w6 "com/example/termflow/termflow/pull/Status" := Exa.start ev_WOULD_PULL gz7
  obtain ⟨w3, ev_RETRACTED⟩ := exa_v gz11
  have S_RETRACTED : Sta s s.heap "com/example/termflow/termflow/pull/Status" "RETRACTED" "Lcom/example/termflow/termflow/pull/Status;" (.ref w3) := Sta.start ev_RETRACTED (Or.inr ⟨(hw _ (List.mem_of_getElem? (i := 6) rfl)), (hw _ (List.mem_of_getElem? (i := 29) rfl))⟩)
  have E_RETRACTED : Exa s s.heap w3 "com/example/termflow/termflow/pull/Status" := Exa.start ev_RETRACTED gz11
  obtain ⟨w8, ev_WOULD_RETRACT⟩ := exa_v gz15
  have S_WOULD_RETRACT : Sta s s.heap "com/example/termflow/termflow/pull/Status" "WOULD_RETRACT" "Lcom/example/termflow/termflow/pull/Status;" (.ref w8) := Sta.start ev_WOULD_RETRACT (Or.inr ⟨(hw _ (List.mem_of_getElem? (i := 6) rfl)), (hw _ (List.mem_of_getElem? (i := 31) rfl))⟩)
  have E_WOULD_RETRACT : Exa s s.heap w8 "com/example/termflow/termflow/pull/Status" := Exa.start ev_WOULD_RETRACT gz15
  obtain ⟨w1, ev_PRESENT⟩ := exa_v gz19
  have S_PRESENT : Sta s s.heap "com/example/termflow/termflow/pull/Status" "PRESENT" "Lcom/example/termflow/termflow/pull/Status;" (.ref w1) := Sta.start ev_PRESENT (Or.inr ⟨(hw _ (List.mem_of_getElem? (i := 6) rfl)), (hw _ (List.mem_of_getElem? (i := 34) rfl))⟩)
  have E_PRESENT : Exa s s.heap w1 "com/example/termflow/termflow/pull/Status" := Exa.start ev_PRESENT gz19
  obtain ⟨w4, ev_NOOP⟩ := exa_v gz23
  have S_NOOP : Sta s s.heap "com/example/termflow/termflow/pull/Status" "NOOP" "Lcom/example/termflow/termflow/pull/Status;" (.ref w4) := Sta.start ev_NOOP (Or.inr ⟨(hw _ (List.mem_of_getElem? (i := 6) rfl)), (hw _ (List.mem_of_getElem? (i := 36) rfl))⟩)
  have E_NOOP : Exa s s.heap w4 "com/example/termflow/termflow/pull/Status" := Exa.start ev_NOOP gz23
  obtain ⟨w7, ev_WOULD_REPLACE⟩ := exa_v gz27
  have S_WOULD_REPLACE : Sta s s.heap "com/example/termflow/termflow/pull/Status" "WOULD_REPLACE" "Lcom/example/termflow/termflow/pull/Status;" (.ref w7) := Sta.start ev_WOULD_REPLACE (Or.inr ⟨(hw _ (List.mem_of_getElem? (i := 6) rfl)), (hw _ (List.mem_of_getElem? (i := 38) rfl))⟩)
  have E_WOULD_REPLACE : Exa s s.heap w7 "com/example/termflow/termflow/pull/Status" := Exa.start ev_WOULD_REPLACE gz27
  obtain ⟨w2, ev_REPLACED⟩ := exa_v gz31
  have S_REPLACED : Sta s s.heap "com/example/termflow/termflow/pull/Status" "REPLACED" "Lcom/example/termflow/termflow/pull/Status;" (.ref w2) := Sta.start ev_REPLACED (Or.inr ⟨(hw _ (List.mem_of_getElem? (i := 6) rfl)), (hw _ (List.mem_of_getElem? (i := 40) rfl))⟩)
  have E_REPLACED : Exa s s.heap w2 "com/example/termflow/termflow/pull/Status" := Exa.start ev_REPLACED gz31
  obtain ⟨w9, ev_MISSING⟩ := exa_v gz35
  have S_MISSING : Sta s s.heap "com/example/termflow/termflow/pull/Status" "MISSING" "Lcom/example/termflow/termflow/pull/Status;" (.ref w9) := Sta.start ev_MISSING (Or.inr ⟨(hw _ (List.mem_of_getElem? (i := 6) rfl)), (hw _ (List.mem_of_getElem? (i := 43) rfl))⟩)
  have E_MISSING : Exa s s.heap w9 "com/example/termflow/termflow/pull/Status" := Exa.start ev_MISSING gz35
  obtain ⟨w5, ev_REFUSED⟩ := exa_v gz39
  have S_REFUSED : Sta s s.heap "com/example/termflow/termflow/pull/Status" "REFUSED" "Lcom/example/termflow/termflow/pull/Status;" (.ref w5) := Sta.start ev_REFUSED (Or.inr ⟨(hw _ (List.mem_of_getElem? (i := 6) rfl)), (hw _ (List.mem_of_getElem? (i := 45) rfl))⟩)
  have E_REFUSED : Exa s s.heap w5 "com/example/termflow/termflow/pull/Status" := Exa.start ev_REFUSED gz39
  have F_PULLED_ordinal : Fld s s.heap w0 "java/lang/Enum" "ordinal" "I" (.int (0 : Int32)) := Fld.start ((fld_at ev_PULLED).symm.trans (eqv_i (Term.int_eval (0 : Int32)) gz5))
  have F_WOULD_PULL_ordinal : Fld s s.heap w6 "java/lang/Enum" "ordinal" "I" (.int (6 : Int32)) := Fld.start ((fld_at ev_WOULD_PULL).symm.trans (eqv_i (Term.int_eval (6 : Int32)) gz9))
  have F_RETRACTED_ordinal : Fld s s.heap w3 "java/lang/Enum" "ordinal" "I" (.int (3 : Int32)) := Fld.start ((fld_at ev_RETRACTED).symm.trans (eqv_i (Term.int_eval (3 : Int32)) gz13))
  have F_WOULD_RETRACT_ordinal : Fld s s.heap w8 "java/lang/Enum" "ordinal" "I" (.int (8 : Int32)) := Fld.start ((fld_at ev_WOULD_RETRACT).symm.trans (eqv_i (Term.int_eval (8 : Int32)) gz17))
  have F_PRESENT_ordinal : Fld s s.heap w1 "java/lang/Enum" "ordinal" "I" (.int (1 : Int32)) := Fld.start ((fld_at ev_PRESENT).symm.trans (eqv_i (Term.int_eval (1 : Int32)) gz21))
  have F_NOOP_ordinal : Fld s s.heap w4 "java/lang/Enum" "ordinal" "I" (.int (4 : Int32)) := Fld.start ((fld_at ev_NOOP).symm.trans (eqv_i (Term.int_eval (4 : Int32)) gz25))
  have F_WOULD_REPLACE_ordinal : Fld s s.heap w7 "java/lang/Enum" "ordinal" "I" (.int (7 : Int32)) := Fld.start ((fld_at ev_WOULD_REPLACE).symm.trans (eqv_i (Term.int_eval (7 : Int32)) gz29))
  have F_REPLACED_ordinal : Fld s s.heap w2 "java/lang/Enum" "ordinal" "I" (.int (2 : Int32)) := Fld.start ((fld_at ev_REPLACED).symm.trans (eqv_i (Term.int_eval (2 : Int32)) gz33))
  have F_MISSING_ordinal : Fld s s.heap w9 "java/lang/Enum" "ordinal" "I" (.int (9 : Int32)) := Fld.start ((fld_at ev_MISSING).symm.trans (eqv_i (Term.int_eval (9 : Int32)) gz37))
  have F_REFUSED_ordinal : Fld s s.heap w5 "java/lang/Enum" "ordinal" "I" (.int (5 : Int32)) := Fld.start ((fld_at ev_REFUSED).symm.trans (eqv_i (Term.int_eval (5 : Int32)) gz40))
  obtain ⟨n, o, h1, h2, h3, _, L, rfl, ⟨rfl, N⟩, hq⟩ := rm_law l s _ hw tables_1 i0 w0 w1 w2 w3 w4 w5 w6 w7 w8 w9 s.heap s.heap.size (Old.start s) S_PULLED S_PRESENT S_REPLACED S_RETRACTED S_NOOP S_REFUSED S_WOULD_PULL S_WOULD_REPLACE S_WOULD_RETRACT S_MISSING E_PULLED E_PRESENT E_REPLACED E_RETRACTED E_NOOP E_REFUSED E_WOULD_PULL E_WOULD_REPLACE E_WOULD_RETRACT E_MISSING F_PULLED_ordinal F_PRESENT_ordinal F_REPLACED_ordinal F_RETRACTED_ordinal F_NOOP_ordinal F_REFUSED_ordinal F_WOULD_PULL_ordinal F_WOULD_REPLACE_ordinal F_WOULD_RETRACT_ordinal F_MISSING_ordinal p e ha hc hk s m _ below hf ((Spec.applies_iff_loose hf).mp happ).1 ⟨rfl, State.Warmed39.refl s, rfl⟩ trivial
  refine ⟨n, _, h1, h2, h3, hpost _ _ _ _ _ _ ⟨Cond.after_iff.mpr rfl, Cond.after_iff.mpr (eq_i res_at (Term.int_eval (1)) rfl), trivial⟩ ⟨hq.1, hq.2.1, (hq.2.2.sift fun y hy => Or.inr (N y hy)).mono (by decide) (by decide)⟩⟩
theorem main_1_1 : Claimed_1_1 := comes_1 fun _ _ _ _ _ _ h hF => ⟨h.1, hF⟩
theorem main_1_2 : Claimed_1_2 := comes_1 fun _ _ _ _ _ _ h hF => ⟨h.2.1, hF⟩
end Jvm.Pilot.@@N@@
namespace Jvm.Pilot.@@N@@
open Jvm Jvm.ClassFile Sem Op Lib Jvm.Free Jvm.Stand Jvm.Pilot.@@N@@.Jvm.D
/-! MADE BY PROGRAM (witnessworld.py) out of the Statement's table words and the real class files: 12 classes; the members and pool entries that the words name. The judged class is class 1, her method 3. -/
namespace start1
open Jvm.ClassFile
def u (s : String) : CpInfo := .utf8 (stringToUtf16 s)
/-- a pool by its gaps: so many unusable entries, then the entry; so many at the end -/
def gap : Nat → List CpInfo → List CpInfo
  | 0, r => r
  | n + 1, r => .unusable :: gap n r
def poolList (es : List (Nat × CpInfo)) (last : Nat) : List CpInfo := es.foldr (fun e r => gap e.1 (e.2 :: r)) (gap last [])
def pool (es : List (Nat × CpInfo)) (last : Nat) : Array CpInfo := ⟨poolList es last⟩
def fileOf (pool : Array CpInfo) (this : Nat) (attrs : Array Attribute := #[]) (ms : Array MethodInfo := #[]) (fl : Nat := 33) (sup : Nat := 0) (ifs : Array Nat := #[]) (fds : Array FieldInfo := #[]) : ClassFile where
  minorVersion := 0
  majorVersion := 65
  constantPool := pool
  accessFlags := fl
  thisClass := this
  superClass := sup
  interfaces := ifs
  fields := fds
  methods := ms
  attributes := attrs
def plain (name : String) (sup : Option ClassId) : Class where
  name := name
  kind := .ordinary
  loader := none
  accessFlags := 33
  super := sup
  interfaces := #[]
  cf := none
  fields := #[]
  methods := #[]
  instanceTypes := #[]
  staticTypes := #[]
  resolved := #[]
  callSites := []
  init := .initialized
  statics := none
  mirror := none

def pool0 : Array CpInfo := pool [(5, u "<init>"), (0, u "()V"), (1, .class_ 10), (1, u "java/lang/Object")] 113

def k0m0 : Method := { name := "<init>", desc := "()V", sig := { parameters := [], returnType := none }, accessFlags := 1, code := none }
/-- java/lang/Object -/
def k0 : Class := { plain "java/lang/Object" none with
  accessFlags := 33
  interfaces := #[]
  cf := some (fileOf pool0 8 #[] #[{ accessFlags := 1, nameIndex := 5, descriptorIndex := 6, attributes := #[] }] 33 0 #[] #[])
  fields := #[]
  methods := #[k0m0]
  instanceTypes := #[]
  staticTypes := #[]
  resolved := Array.replicate 124 none
  statics := none }

def pool1 : Array CpInfo := pool [(2, .class_ 4), (1, u "java/lang/Object"), (0, u "<init>"), (0, u "()V"), (0, .fieldref 8 9), (0, .class_ 10), (0, .nameAndType 11 12), (0, u "com/example/termflow/termflow/pull/Status"), (0, u "PULLED"), (0, u "Lcom/example/termflow/termflow/pull/Status;"), (0, .fieldref 8 14), (0, .nameAndType 15 12), (0, u "PRESENT"), (0, .fieldref 8 17), (0, .nameAndType 18 12), (0, u "REPLACED"), (0, .fieldref 8 20), (0, .nameAndType 21 12), (0, u "RETRACTED"), (0, .fieldref 8 23), (0, .nameAndType 24 12), (0, u "NOOP"), (0, .fieldref 8 26), (0, .nameAndType 27 12), (0, u "REFUSED"), (0, .fieldref 8 29), (0, .nameAndType 30 12), (0, u "WOULD_PULL"), (0, .fieldref 8 32), (0, .nameAndType 33 12), (0, u "WOULD_REPLACE"), (0, .fieldref 8 35), (0, .nameAndType 36 12), (0, u "WOULD_RETRACT"), (0, .fieldref 8 38), (0, .nameAndType 39 12), (0, u "MISSING"), (0, .methodref 41 42), (0, .class_ 43), (0, .nameAndType 44 45), (0, u "com/example/termflow/termflow/pull/StatusPlannedPinLaw"), (0, u "pick"), (0, u "(I)Lcom/example/termflow/termflow/pull/Status;"), (0, .integer 2147483647), (0, .methodref 8 48), (0, .nameAndType 49 50), (0, u "planned"), (0, u "()Lcom/example/termflow/termflow/pull/Status;"), (0, .methodref 41 52), (0, .nameAndType 53 45), (0, u "expected"), (3, u "law"), (0, u "(I)Z")] 2

def k1m0 : Method := { name := "<init>", desc := "()V", sig := { parameters := [], returnType := none }, accessFlags := 2, code := none }
def k1c1 : Code := { maxStack := 2, maxLocals := 1, code := method_2_code, exceptionTable := #[], attributes := #[] }
def k1m1 : Method := { name := "pick", desc := "(I)Lcom/example/termflow/termflow/pull/Status;", sig := { parameters := [.int], returnType := some (.object "com/example/termflow/termflow/pull/Status") }, accessFlags := 10, code := some k1c1 }
def k1c2 : Code := { maxStack := 2, maxLocals := 1, code := method_3_code, exceptionTable := #[], attributes := #[] }
def k1m2 : Method := { name := "expected", desc := "(I)Lcom/example/termflow/termflow/pull/Status;", sig := { parameters := [.int], returnType := some (.object "com/example/termflow/termflow/pull/Status") }, accessFlags := 10, code := some k1c2 }
def k1c3 : Code := { maxStack := 2, maxLocals := 4, code := code, exceptionTable := #[], attributes := #[] }
def k1m3 : Method := { name := "law", desc := "(I)Z", sig := { parameters := [.int], returnType := some .boolean }, accessFlags := 9, code := some k1c3 }
/-- com/example/termflow/termflow/pull/StatusPlannedPinLaw -/
def k1 : Class := { plain "com/example/termflow/termflow/pull/StatusPlannedPinLaw" (some 0) with
  accessFlags := 49
  interfaces := #[]
  cf := some (fileOf pool1 41 #[] #[{ accessFlags := 2, nameIndex := 5, descriptorIndex := 6, attributes := #[] }, { accessFlags := 10, nameIndex := 44, descriptorIndex := 45, attributes := #[] }, { accessFlags := 10, nameIndex := 53, descriptorIndex := 45, attributes := #[] }, { accessFlags := 9, nameIndex := 57, descriptorIndex := 58, attributes := #[] }] 49 2 #[] #[])
  fields := #[]
  methods := #[k1m0, k1m1, k1m2, k1m3]
  instanceTypes := #[]
  staticTypes := #[]
  resolved := Array.replicate 61 none
  statics := none }

def pool2 : Array CpInfo := pool [(1, .class_ 2), (0, u "java/lang/constant/Constable"), (0, .class_ 4), (0, u "java/lang/Object")] 6

/-- java/lang/constant/Constable -/
def k2 : Class := { plain "java/lang/constant/Constable" (some 0) with
  accessFlags := 1537
  interfaces := #[]
  cf := some (fileOf pool2 1 #[] #[] 1537 3 #[] #[])
  fields := #[]
  methods := #[]
  instanceTypes := #[]
  staticTypes := #[]
  resolved := Array.replicate 11 none
  statics := none }

def pool3 : Array CpInfo := pool [(1, .class_ 2), (0, u "java/lang/Comparable"), (0, .class_ 4), (0, u "java/lang/Object")] 7

/-- java/lang/Comparable -/
def k3 : Class := { plain "java/lang/Comparable" (some 0) with
  accessFlags := 1537
  interfaces := #[]
  cf := some (fileOf pool3 1 #[] #[] 1537 3 #[] #[])
  fields := #[]
  methods := #[]
  instanceTypes := #[]
  staticTypes := #[]
  resolved := Array.replicate 12 none
  statics := none }

def pool4 : Array CpInfo := pool [(1, .class_ 2), (0, u "java/io/Serializable"), (0, .class_ 4), (0, u "java/lang/Object")] 2

/-- java/io/Serializable -/
def k4 : Class := { plain "java/io/Serializable" (some 0) with
  accessFlags := 1537
  interfaces := #[]
  cf := some (fileOf pool4 1 #[] #[] 1537 3 #[] #[])
  fields := #[]
  methods := #[]
  instanceTypes := #[]
  staticTypes := #[]
  resolved := Array.replicate 7 none
  statics := none }

def pool5 : Array CpInfo := pool [(2, .class_ 4), (1, u "java/lang/Enum"), (0, u "name"), (0, u "Ljava/lang/String;"), (0, .fieldref 2 8), (0, .nameAndType 9 10), (0, u "ordinal"), (0, u "I"), (1, .class_ 14), (1, u "java/lang/Object"), (4, u "hash"), (86, .class_ 108), (1, u "java/lang/Enum$EnumDesc"), (2, .class_ 112), (0, u "java/lang/constant/Constable"), (0, .class_ 114), (0, u "java/lang/Comparable"), (0, .class_ 116), (0, u "java/io/Serializable"), (9, u "()I")] 77

def k5c0 : Code := { maxStack := 1, maxLocals := 1, code := jdk_37_method_2_code, exceptionTable := #[], attributes := #[] }
def k5m0 : Method := { name := "ordinal", desc := "()I", sig := { parameters := [], returnType := some .int }, accessFlags := 17, code := some k5c0 }
/-- java/lang/Enum -/
def k5 : Class := { plain "java/lang/Enum" (some 0) with
  accessFlags := 1057
  interfaces := #[2, 3, 4]
  cf := some (fileOf pool5 2 #[.nestMembers #[106]] #[{ accessFlags := 17, nameIndex := 9, descriptorIndex := 126, attributes := #[] }] 1057 12 #[111, 113, 115] #[{ accessFlags := 18, nameIndex := 5, descriptorIndex := 6, attributes := #[] }, { accessFlags := 18, nameIndex := 9, descriptorIndex := 10, attributes := #[] }, { accessFlags := 2, nameIndex := 19, descriptorIndex := 10, attributes := #[] }])
  fields := #[{ name := "name", type := (.object "java/lang/String"), accessFlags := 18, slot := 0, constantValue := 0 }, { name := "ordinal", type := .int, accessFlags := 18, slot := 1, constantValue := 0 }, { name := "hash", type := .int, accessFlags := 2, slot := 2, constantValue := 0 }]
  methods := #[k5m0]
  instanceTypes := #[(.object "java/lang/String"), .int, .int]
  staticTypes := #[]
  resolved := Array.replicate 204 none
  statics := none }

def pool6 : Array CpInfo := pool [(1, .class_ 2), (0, u "com/example/termflow/termflow/pull/Status"), (2, u "PULLED"), (0, u "Lcom/example/termflow/termflow/pull/Status;"), (2, u "PRESENT"), (2, u "REPLACED"), (2, u "RETRACTED"), (2, u "NOOP"), (2, u "REFUSED"), (0, .fieldref 1 23), (0, .nameAndType 24 6), (0, u "WOULD_PULL"), (0, .fieldref 1 26), (0, .nameAndType 27 6), (0, u "WOULD_REPLACE"), (0, .fieldref 1 29), (0, .nameAndType 30 6), (0, u "WOULD_RETRACT"), (2, u "MISSING"), (2, u "$VALUES"), (0, u "[Lcom/example/termflow/termflow/pull/Status;"), (6, .class_ 46), (1, u "java/lang/Enum"), (29, .methodref 1 77), (0, .nameAndType 78 79), (0, u "ordinal"), (0, u "()I"), (23, u "OF_PULL"), (0, u "Ljava/util/List;"), (5, u "OF_PLAN"), (12, u "planned"), (0, u "()Lcom/example/termflow/termflow/pull/Status;")] 4

def k6c0 : Code := { maxStack := 1, maxLocals := 1, code := prog_85_method_7_code, exceptionTable := #[], attributes := #[] }
def k6m0 : Method := { name := "planned", desc := "()Lcom/example/termflow/termflow/pull/Status;", sig := { parameters := [], returnType := some (.object "com/example/termflow/termflow/pull/Status") }, accessFlags := 0, code := some k6c0 }
/-- com/example/termflow/termflow/pull/Status -/
def k6 : Class := { plain "com/example/termflow/termflow/pull/Status" (some 5) with
  accessFlags := 16433
  interfaces := #[]
  cf := some (fileOf pool6 1 #[] #[{ accessFlags := 0, nameIndex := 123, descriptorIndex := 124, attributes := #[] }] 16433 44 #[] #[{ accessFlags := 16409, nameIndex := 5, descriptorIndex := 6, attributes := #[] }, { accessFlags := 16409, nameIndex := 9, descriptorIndex := 6, attributes := #[] }, { accessFlags := 16409, nameIndex := 12, descriptorIndex := 6, attributes := #[] }, { accessFlags := 16409, nameIndex := 15, descriptorIndex := 6, attributes := #[] }, { accessFlags := 16409, nameIndex := 18, descriptorIndex := 6, attributes := #[] }, { accessFlags := 16409, nameIndex := 21, descriptorIndex := 6, attributes := #[] }, { accessFlags := 16409, nameIndex := 24, descriptorIndex := 6, attributes := #[] }, { accessFlags := 16409, nameIndex := 27, descriptorIndex := 6, attributes := #[] }, { accessFlags := 16409, nameIndex := 30, descriptorIndex := 6, attributes := #[] }, { accessFlags := 16409, nameIndex := 33, descriptorIndex := 6, attributes := #[] }, { accessFlags := 25, nameIndex := 103, descriptorIndex := 104, attributes := #[] }, { accessFlags := 25, nameIndex := 110, descriptorIndex := 104, attributes := #[] }, { accessFlags := 4122, nameIndex := 36, descriptorIndex := 37, attributes := #[] }])
  fields := #[{ name := "PULLED", type := (.object "com/example/termflow/termflow/pull/Status"), accessFlags := 16409, slot := 0, constantValue := 0 }, { name := "PRESENT", type := (.object "com/example/termflow/termflow/pull/Status"), accessFlags := 16409, slot := 1, constantValue := 0 }, { name := "REPLACED", type := (.object "com/example/termflow/termflow/pull/Status"), accessFlags := 16409, slot := 2, constantValue := 0 }, { name := "RETRACTED", type := (.object "com/example/termflow/termflow/pull/Status"), accessFlags := 16409, slot := 3, constantValue := 0 }, { name := "NOOP", type := (.object "com/example/termflow/termflow/pull/Status"), accessFlags := 16409, slot := 4, constantValue := 0 }, { name := "REFUSED", type := (.object "com/example/termflow/termflow/pull/Status"), accessFlags := 16409, slot := 5, constantValue := 0 }, { name := "WOULD_PULL", type := (.object "com/example/termflow/termflow/pull/Status"), accessFlags := 16409, slot := 6, constantValue := 0 }, { name := "WOULD_REPLACE", type := (.object "com/example/termflow/termflow/pull/Status"), accessFlags := 16409, slot := 7, constantValue := 0 }, { name := "WOULD_RETRACT", type := (.object "com/example/termflow/termflow/pull/Status"), accessFlags := 16409, slot := 8, constantValue := 0 }, { name := "MISSING", type := (.object "com/example/termflow/termflow/pull/Status"), accessFlags := 16409, slot := 9, constantValue := 0 }, { name := "OF_PULL", type := (.object "java/util/List"), accessFlags := 25, slot := 10, constantValue := 0 }, { name := "OF_PLAN", type := (.object "java/util/List"), accessFlags := 25, slot := 11, constantValue := 0 }, { name := "$VALUES", type := (.array (.object "com/example/termflow/termflow/pull/Status")), accessFlags := 4122, slot := 12, constantValue := 0 }]
  methods := #[k6m0]
  instanceTypes := #[(.object "java/lang/String"), .int, .int]
  staticTypes := #[(.object "com/example/termflow/termflow/pull/Status"), (.object "com/example/termflow/termflow/pull/Status"), (.object "com/example/termflow/termflow/pull/Status"), (.object "com/example/termflow/termflow/pull/Status"), (.object "com/example/termflow/termflow/pull/Status"), (.object "com/example/termflow/termflow/pull/Status"), (.object "com/example/termflow/termflow/pull/Status"), (.object "com/example/termflow/termflow/pull/Status"), (.object "com/example/termflow/termflow/pull/Status"), (.object "com/example/termflow/termflow/pull/Status"), (.object "java/util/List"), (.object "java/util/List"), (.array (.object "com/example/termflow/termflow/pull/Status"))]
  resolved := Array.replicate 129 none
  statics := some 0 }

def pool7 : Array CpInfo := pool [(1, u "java/lang/Cloneable"), (0, .class_ 1), (0, u "java/lang/Object"), (0, .class_ 3)] 3

/-- java/lang/Cloneable -/
def k7 : Class := { plain "java/lang/Cloneable" (some 0) with
  accessFlags := 1537
  interfaces := #[]
  cf := some (fileOf pool7 2 #[] #[] 1537 4 #[] #[])
  fields := #[]
  methods := #[]
  instanceTypes := #[]
  staticTypes := #[]
  resolved := Array.replicate 8 none
  statics := none }

/-- the primitive byte -/
def k8 : Class := { plain "byte" none with kind := .primitive 'B', accessFlags := 0x411 }
/-- [B -/
def k9 : Class := { plain "[B" (some 0) with kind := .array 8 .byte, interfaces := #[7, 4], accessFlags := 1041 }

/-- the primitive int -/
def k10 : Class := { plain "int" none with kind := .primitive 'I', accessFlags := 0x411 }
/-- [I -/
def k11 : Class := { plain "[I" (some 0) with kind := .array 10 .int, interfaces := #[7, 4], accessFlags := 1041 }

def heap : Heap := #[{ cls := 6, slots := #[.ref 1, .ref 2, .ref 3, .ref 4, .ref 5, .ref 6, .ref 7, .ref 8, .ref 9, .ref 10, .null, .null, .null], vm := .statics 6 },
  { cls := 6, slots := #[.null, .int 0, .int 0], vm := .none },
  { cls := 6, slots := #[.null, .int 1, .int 0], vm := .none },
  { cls := 6, slots := #[.null, .int 2, .int 0], vm := .none },
  { cls := 6, slots := #[.null, .int 3, .int 0], vm := .none },
  { cls := 6, slots := #[.null, .int 4, .int 0], vm := .none },
  { cls := 6, slots := #[.null, .int 5, .int 0], vm := .none },
  { cls := 6, slots := #[.null, .int 6, .int 0], vm := .none },
  { cls := 6, slots := #[.null, .int 7, .int 0], vm := .none },
  { cls := 6, slots := #[.null, .int 8, .int 0], vm := .none },
  { cls := 6, slots := #[.null, .int 9, .int 0], vm := .none }]
def classes : Array Class := #[k0, k1, k2, k3, k4, k5, k6, k7, k8, k9, k10, k11]
def interned : List (Array UInt16 × Addr) := []
def slotsUsed : Nat := 43
def theMethod : MethodId := ⟨1, 3⟩
def args0 : Array Value := #[.int 5]
def aboutOver (below : List Frame) : State where
  vm := { classes := classes, interned := interned.toArray }
  heap := heap
  slotsUsed := slotsUsed
  threads := #[{ frames := .invoking theMethod args0 :: below }]
def below0 : List Frame := [.native { method := ⟨0, 0⟩, args := #[] }]
def about1 : State := aboutOver below0
def p0 : Program := .bare "" "" ""
def e0 : Env := launch0.env 0 0 0
theorem w_frames : about1.frames = Frame.invoking theMethod args0 :: below0 := rfl
set_option maxRecDepth 65536 in
theorem w_args : argsFit about1.vm theMethod args0 = true := by decide +kernel
set_option maxRecDepth 65536 in
theorem w_heap : heapFits about1 = true := by decide +kernel
set_option maxRecDepth 65536 in
theorem w_runnable : about1.curStatus? = some .runnable := by decide +kernel
set_option maxRecDepth 65536 in
theorem w_alone : about1.alone = true := by decide +kernel
set_option maxRecDepth 65536 in
theorem w_named : about1.methodNamed? x = some theMethod := by decide +kernel
set_option maxRecDepth 65536 in
theorem w_hears : about1.hears theMethod below0 = true := by decide +kernel
set_option maxRecDepth 65536 in
theorem w_ripe : about1.ripe theMethod args0 below0 = true := by decide +kernel
theorem w_running : about1.status = .running := rfl
set_option maxRecDepth 65536 in
theorem w_room : about1.hasRoom e0.platform room_1 = true :=
  launch0.hasRoom_least _ room_1 (by decide +kernel) (by decide +kernel) (by decide +kernel) (by decide +kernel) (by decide +kernel) (by decide +kernel)
theorem allAtoms_all (ts : List Jvm.Cond) (a : Array Jvm.Value) (st : Jvm.State) : (allAtoms ts).before a st = ts.all (fun c => c.before a st) := by
  induction ts with
  | nil => rfl
  | cons c t ih =>
    show (Jvm.Cond.and c (allAtoms t)).before a st = _
    rw [Jvm.Cond.before_and, ih, List.all_cons]
def words1 : List Jvm.Cond := Jvm.Cond.code x code maxLocals ret :: tables_1
/-- a 'code' word, met by the world's own term for the bytes: nothing is compared byte by byte -/
theorem code_word {y : MethodName} {bytes : ByteArray} {mx : Nat} {rt : Option FieldType} {a : Array Value} {s : State} {m : MethodId} {meth : Method} {c : Code} (h1 : s.methodNamed? y = some m) (h2 : s.vm.method? m = some meth) (h3 : meth.code = some c) (h4 : c.code = bytes)
    (h5 : (c.maxLocals == mx && c.exceptionTable.isEmpty && decide (c.maxStack ≤ mostOperands) && decide (meth.sig.returnType = rt) && !meth.locks && decide (parseMethodDescriptor y.desc = some meth.sig)) = true) : (Jvm.Cond.code y bytes mx rt).before a s = true := by
  simp only [Bool.and_eq_true, beq_iff_eq, Bool.not_eq_true', decide_eq_true_eq] at h5
  obtain ⟨⟨⟨⟨⟨g1, g2⟩, g3⟩, g4⟩, g5⟩, g6⟩ := h5
  simp [Cond.before, Cond.holds, Cond.value, h1, h2, h3, h4, g1, g2, g3, g4, g5, g6]
def isCode : Jvm.Cond → Bool
  | .code _ _ _ _ => true
  | _ => false
theorem all_split {L : List Jvm.Cond} {P : Jvm.Cond → Bool} (h1 : L.all (fun c => isCode c || P c) = true) (h2 : ∀ c ∈ L.filter isCode, P c = true) : L.all P = true := by
  refine List.all_eq_true.mpr fun c hc => ?_
  have h := List.all_eq_true.mp h1 c hc
  rcases Bool.eq_false_or_eq_true (isCode c) with hi | hi
  · exact h2 c (List.mem_filter.mpr ⟨hc, hi⟩)
  · simpa [hi] using h
set_option maxRecDepth 65536 in
theorem w_c0 : (Jvm.Cond.code x code maxLocals ret).before args0 about1 = true := code_word (m := ⟨1, 3⟩) (meth := k1m3) (c := k1c3) (by decide +kernel) rfl rfl rfl (by decide +kernel)
set_option maxRecDepth 65536 in
theorem w_c1 : (Jvm.Cond.code ({ cls := "com/example/termflow/termflow/pull/StatusPlannedPinLaw", name := "pick", desc := "(I)Lcom/example/termflow/termflow/pull/Status;" } : Jvm.MethodName) method_2_code (1 : Nat) (Option.some (Jvm.ClassFile.FieldType.object "com/example/termflow/termflow/pull/Status"))).before args0 about1 = true := code_word (m := ⟨1, 1⟩) (meth := k1m1) (c := k1c1) (by decide +kernel) rfl rfl rfl (by decide +kernel)
set_option maxRecDepth 65536 in
theorem w_c2 : (Jvm.Cond.code ({ cls := "com/example/termflow/termflow/pull/Status", name := "planned", desc := "()Lcom/example/termflow/termflow/pull/Status;" } : Jvm.MethodName) prog_85_method_7_code (1 : Nat) (Option.some (Jvm.ClassFile.FieldType.object "com/example/termflow/termflow/pull/Status"))).before args0 about1 = true := code_word (m := ⟨6, 0⟩) (meth := k6m0) (c := k6c0) (by decide +kernel) rfl rfl rfl (by decide +kernel)
set_option maxRecDepth 65536 in
theorem w_c3 : (Jvm.Cond.code ({ cls := "java/lang/Enum", name := "ordinal", desc := "()I" } : Jvm.MethodName) jdk_37_method_2_code (1 : Nat) (Option.some Jvm.ClassFile.FieldType.int)).before args0 about1 = true := code_word (m := ⟨5, 0⟩) (meth := k5m0) (c := k5c0) (by decide +kernel) rfl rfl rfl (by decide +kernel)
set_option maxRecDepth 65536 in
theorem w_c4 : (Jvm.Cond.code ({ cls := "com/example/termflow/termflow/pull/StatusPlannedPinLaw", name := "expected", desc := "(I)Lcom/example/termflow/termflow/pull/Status;" } : Jvm.MethodName) method_3_code (1 : Nat) (Option.some (Jvm.ClassFile.FieldType.object "com/example/termflow/termflow/pull/Status"))).before args0 about1 = true := code_word (m := ⟨1, 2⟩) (meth := k1m2) (c := k1c2) (by decide +kernel) rfl rfl rfl (by decide +kernel)
def codes1 : List Jvm.Cond := [Jvm.Cond.code x code maxLocals ret, Jvm.Cond.code ({ cls := "com/example/termflow/termflow/pull/StatusPlannedPinLaw", name := "pick", desc := "(I)Lcom/example/termflow/termflow/pull/Status;" } : Jvm.MethodName) method_2_code (1 : Nat) (Option.some (Jvm.ClassFile.FieldType.object "com/example/termflow/termflow/pull/Status")), Jvm.Cond.code ({ cls := "com/example/termflow/termflow/pull/Status", name := "planned", desc := "()Lcom/example/termflow/termflow/pull/Status;" } : Jvm.MethodName) prog_85_method_7_code (1 : Nat) (Option.some (Jvm.ClassFile.FieldType.object "com/example/termflow/termflow/pull/Status")), Jvm.Cond.code ({ cls := "java/lang/Enum", name := "ordinal", desc := "()I" } : Jvm.MethodName) jdk_37_method_2_code (1 : Nat) (Option.some Jvm.ClassFile.FieldType.int), Jvm.Cond.code ({ cls := "com/example/termflow/termflow/pull/StatusPlannedPinLaw", name := "expected", desc := "(I)Lcom/example/termflow/termflow/pull/Status;" } : Jvm.MethodName) method_3_code (1 : Nat) (Option.some (Jvm.ClassFile.FieldType.object "com/example/termflow/termflow/pull/Status"))]
set_option maxRecDepth 65536 in
theorem codes_eq : words1.filter isCode = codes1 := rfl
theorem w_codes : ∀ c ∈ words1.filter isCode, c.before args0 about1 = true := by
  rw [codes_eq]
  intro c hc
  simp only [codes1, List.mem_cons, List.not_mem_nil, or_false] at hc
  rcases hc with rfl | rfl | rfl | rfl | rfl
  · exact w_c0
  · exact w_c1
  · exact w_c2
  · exact w_c3
  · exact w_c4
set_option maxRecDepth 65536 in
theorem w_t1 : (words1.take 24).all (fun c => isCode c || c.before args0 about1) = true := by decide +kernel
set_option maxRecDepth 65536 in
theorem w_t2 : (words1.drop 24).all (fun c => isCode c || c.before args0 about1) = true := by decide +kernel
theorem w_tables : (allAtoms (Jvm.Cond.code x code maxLocals ret :: tables_1)).before args0 about1 = true := by
  rw [allAtoms_all]
  show words1.all (fun c => c.before args0 about1) = true
  refine all_split ?_ w_codes
  rw [← List.take_append_drop 24 words1, List.all_append, w_t1, w_t2]
  rfl
set_option maxRecDepth 65536 in
theorem w_case : (Jvm.Cond.and given_1 narrow_1).before args0 about1 = true := by decide +kernel
theorem w_applies : (headSpec (Jvm.Cond.code x code maxLocals ret :: tables_1) room_1).applies x e0.platform about1 = true :=
  (Spec.applies_iff w_frames).mpr ⟨w_running, w_runnable, w_alone, w_named, w_hears, w_ripe, w_room, w_tables⟩
theorem atStart : AtStart classFile x code maxLocals ret World_1 tables_1 room_1 Calls_1 rest_1 Pre_1 launch0 p0 e0 about1 theMethod args0 below0 :=
  ⟨lists_1, trivial, launch0.admits_env _ _ _, launch0.least_env, fairChoices_fair.cas, fairChoices_fair.clock, w_frames, w_args, w_heap, w_applies, trivial, trivial, w_case⟩
end start1
theorem witness_1 : WitnessClaimed_1 := ⟨start1.p0, start1.e0, start1.about1, start1.theMethod, start1.args0, start1.below0, start1.atStart⟩
end Jvm.Pilot.@@N@@
