import JvmDerived
import JvmDerived.Pilot.@@N@@Statement
import JvmDerived.Pilot.@@N@@Code
set_option linter.unusedVariables false
set_option linter.unusedSimpArgs false
namespace Jvm.RoadKit
open Sem ClassFile Op Lib Jvm.Stand Jvm.Free Jvm.LawKit
section New
variable {p : Program} {l : Launch} {e : Env} {R : Room} {s : State} {m : MethodId} {args : Array Value} {below : List Frame} {meth : Method} {c : Code} {T : State} {locs : List Loc} {cells slots : Nat}
theorem retI (X : Stand p l e R s m args below meth c T locs cells slots) (hx : p.tables.exec = Jvm.exec) {pc : Nat} {Ls : Array Slot} {z : Int32} {rest : List Value} (hret : meth.sig.returnType = some .int) (hd : decode c.code pc = .ok (.ireturn, 1)) {fs : List Frame}
    (hl : ∀ (f : JFrame) (acts : List Action), f.method = m → f.locked = none → f.entered = [] → (doReturn e (T.setTop f) acts (some (.int z))).1 = T.setFrames fs) : Steps p.tables e below (T.setTop (mkF m pc Ls (.int z :: rest))) (T.setFrames fs) := by
  have hm' : T.vm.method? m = some meth := X.method'
  have hn : narrow .int (.int z) = .int z := rfl
  show Steps p.tables e below (T.setTop { method := m, pc := pc, locals := Ls, stack := _ :: rest, locked := none }) _
  jvm_step X.here [X.here.top, hx, hd, hm', hret, hn]
  first | (intro acts; rw [hl _ acts rfl rfl rfl]) | rw [hl _ _ rfl rfl rfl]
  exact Steps.refl _
/-- the return of a reference, null or not -/
theorem own_retR (X : Stand p l e R s m args below meth c T locs cells slots) (hx : p.tables.exec = Jvm.exec) {pc : Nat} {Ls : Array Slot} {w : Value} {ty : FieldType} {rest : List Value} (hret : meth.sig.returnType = some ty) (ht : ty.isReference = true) (hw : w.isRef = true) (hd : decode c.code pc = .ok (.areturn, 1)) {fs : List Frame}
    (hl : ∀ (f : JFrame) (acts : List Action), f.method = m → f.locked = none → f.entered = [] → (doReturn e (T.setTop f) acts (some w)).1 = T.setFrames fs) : Steps p.tables e below (T.setTop (mkF m pc Ls (w :: rest))) (T.setFrames fs) := by
  have hm' : T.vm.method? m = some meth := X.method'
  show Steps p.tables e below (T.setTop { method := m, pc := pc, locals := Ls, stack := _ :: rest, locked := none }) _
  rcases ref_cases hw with rfl | ⟨z, rfl⟩
  all_goals
    jvm_step X.here [X.here.top, hx, hd, hm', hret, ht, Value.isRef]
    first | (intro acts; rw [hl _ acts rfl rfl rfl]) | rw [hl _ _ rfl rfl rfl]
    exact Steps.refl _
/-- what a walk owes from a state and a frame on -/
def own_G (p : Program) (e : Env) (below : List Frame) (s : State) (C N : Nat) (Q : Option Value → Heap → List Loc → Prop) (T : State) (g : JFrame) : Prop :=
  ∃ s₂ o, Steps p.tables e below (T.setTop g) s₂ ∧ s₂.status = .running ∧ Ended s₂ below o ∧ ∃ v L, o = .returned v ∧ Q v s₂.heap L ∧ FrameEnd s o s₂ L C N
variable {C N : Nat} {Q : Option Value → Heap → List Loc → Prop} {T' : State} {g g' : JFrame} {h : Heap}
theorem own_G.step (k : ∀ t, Steps p.tables e below (T'.setTop g') t → Steps p.tables e below (T.setTop g) t) (H : own_G p e below s C N Q T' g') : own_G p e below s C N Q T g := by
  obtain ⟨s₂, o, h1, r⟩ := H
  exact ⟨s₂, o, k _ h1, r⟩
theorem own_G.cast (q : g = g') (H : own_G p e below s C N Q T g') : own_G p e below s C N Q T g := by
  subst q
  exact H
theorem own_G.start (q : g = g') (H : own_G p e below s C N Q T g') : ∃ s₂ o, Steps p.tables e below (T.setTop g) s₂ ∧ s₂.status = .running ∧ Ended s₂ below o ∧ ∃ v L, o = .returned v ∧ Q v s₂.heap L ∧ FrameEnd s o s₂ L C N := by
  subst q
  exact H
theorem own_ret (X : Stand p l e R s m args below meth c T locs cells slots) (eT : T.heap = h) {v : Option Value} (hv : meth.sig.returnType = none → v = none) (hlk : meth.locks = false) (hq : Q v h locs) (hc : cells ≤ C) (hn : slots ≤ N)
    (st : ∀ fs, (∀ (f : JFrame) (acts : List Action), f.method = m → f.locked = none → f.entered = [] → (doReturn e (T.setTop f) acts v).1 = T.setFrames fs) → Steps p.tables e below (T.setTop g) (T.setFrames fs)) : own_G p e below s C N Q T g := by
  obtain ⟨fs, hr, hrun, hended, hW, hsame⟩ := X.leave (v := v) hv hlk
  subst eT
  exact ⟨_, _, st fs hr, hrun, hended, _, _, rfl, hq, ⟨_, rfl⟩, hW, hsame.mono hc hn⟩
/-- the same where String constants may be made on the way -/
def own_GW (p : Program) (e : Env) (below : List Frame) (s : State) (C N : Nat) (Q : Option Value → Heap → List Loc → Prop) (T : State) (g : JFrame) : Prop :=
  ∃ s₂ o, Steps p.tables e below (T.setTop g) s₂ ∧ s₂.status = .running ∧ Ended s₂ below o ∧ ∃ v L, o = .returned v ∧ Q v s₂.heap L ∧ ReturnedEndW s o s₂ L C N
theorem own_GW.step (k : ∀ t, Steps p.tables e below (T'.setTop g') t → Steps p.tables e below (T.setTop g) t) (H : own_GW p e below s C N Q T' g') : own_GW p e below s C N Q T g := by
  obtain ⟨s₂, o, h1, r⟩ := H
  exact ⟨s₂, o, k _ h1, r⟩
theorem own_GW.cast (q : g = g') (H : own_GW p e below s C N Q T g') : own_GW p e below s C N Q T g := by
  subst q
  exact H
theorem own_GW.start (q : g = g') (H : own_GW p e below s C N Q T g') : ∃ s₂ o, Steps p.tables e below (T.setTop g) s₂ ∧ s₂.status = .running ∧ Ended s₂ below o ∧ ∃ v L, o = .returned v ∧ Q v s₂.heap L ∧ ReturnedEndW s o s₂ L C N := by
  subst q
  exact H
theorem own_retW {vm₁ : Vm} {k : Nat} (X : Stand p l e R (s.setVm vm₁) m args below meth c T locs cells slots) (hS : s.Since vm₁ k) (eT : T.heap = h) (hk : k ≤ h.size) {v : Option Value} (hv : meth.sig.returnType = none → v = none) (hlk : meth.locks = false) (hq : Q v h locs) (hc : cells ≤ C) (hn : slots ≤ N)
    (st : ∀ fs, (∀ (f : JFrame) (acts : List Action), f.method = m → f.locked = none → f.entered = [] → (doReturn e (T.setTop f) acts v).1 = T.setFrames fs) → Steps p.tables e below (T.setTop g) (T.setFrames fs)) : own_GW p e below s C N Q T g := by
  obtain ⟨fs, hr, hrun, hended, hW, hsame⟩ := X.leave (v := v) hv hlk
  subst eT
  obtain ⟨a, b, d⟩ := hS.ended (U := T.setFrames fs) hW hk hsame
  exact ⟨_, _, st fs hr, hrun, hended, _, _, rfl, hq, ⟨_, rfl⟩, a, b, d.mono hc hn⟩
/-- the same where the held String constants are kept too -/
def own_GH (Z : State) (EL : List (String × Nat)) (p : Program) (e : Env) (below : List Frame) (s : State) (C N : Nat) (Q : Option Value → Heap → List Loc → Prop) (T : State) (g : JFrame) : Prop :=
  ∃ s₂ o, Steps p.tables e below (T.setTop g) s₂ ∧ s₂.status = .running ∧ Ended s₂ below o ∧ ∃ v L, o = .returned v ∧ Q v s₂.heap L ∧ CHr Z EL s.vm s.heap s₂.vm s₂.heap ∧ ReturnedEndW s o s₂ L C N
section HeldEnd
variable {Z : State} {EL : List (String × Nat)}
theorem own_GH.step (k : ∀ t, Steps p.tables e below (T'.setTop g') t → Steps p.tables e below (T.setTop g) t) (H : own_GH Z EL p e below s C N Q T' g') : own_GH Z EL p e below s C N Q T g := by
  obtain ⟨s₂, o, h1, r⟩ := H
  exact ⟨s₂, o, k _ h1, r⟩
theorem own_GH.cast (q : g = g') (H : own_GH Z EL p e below s C N Q T g') : own_GH Z EL p e below s C N Q T g := by
  subst q
  exact H
theorem own_GH.start (q : g = g') (H : own_GH Z EL p e below s C N Q T g') : ∃ s₂ o, Steps p.tables e below (T.setTop g) s₂ ∧ s₂.status = .running ∧ Ended s₂ below o ∧ ∃ v L, o = .returned v ∧ Q v s₂.heap L ∧ CHr Z EL s.vm s.heap s₂.vm s₂.heap ∧ ReturnedEndW s o s₂ L C N := by
  subst q
  exact H
theorem own_retH {vm₁ : Vm} {k : Nat} {h0 : Heap} {a0 : Array Value} (X : Stand p l e R (s.setVm vm₁) m args below meth c T locs cells slots) (hS : s.Since vm₁ k) (eT : T.heap = h) (hk : k ≤ h.size) (hZ : Z.Warmed39 vm₁) (ew : EW Z a0 EL) (hH : CHv Z EL vm₁ h) (hh : s.heap = h0) (hR : CHr Z EL s.vm h0 vm₁ h) {v : Option Value} (hv : meth.sig.returnType = none → v = none) (hlk : meth.locks = false) (hq : Q v h locs) (hc : cells ≤ C) (hn : slots ≤ N)
    (st : ∀ fs, (∀ (f : JFrame) (acts : List Action), f.method = m → f.locked = none → f.entered = [] → (doReturn e (T.setTop f) acts v).1 = T.setFrames fs) → Steps p.tables e below (T.setTop g) (T.setFrames fs)) : own_GH Z EL p e below s C N Q T g := by
  obtain ⟨fs, hr, hrun, hended, hW, hsame⟩ := X.leave (v := v) hv hlk
  subst eT
  subst hh
  have q := CHv.at X hZ ew hH
  obtain ⟨a, b, d⟩ := hS.ended (U := T.setFrames fs) hW hk hsame
  exact ⟨_, _, st fs hr, hrun, hended, _, _, rfl, hq, (show CHr Z EL s.vm s.heap (T.setFrames fs).vm (T.setFrames fs).heap from hR.trans q), ⟨_, rfl⟩, a, b, d.mono hc hn⟩
end HeldEnd
/-- an array of that length -/
def own_Len (Z : State) (h : Heap) (a : Addr) (n : Int32) : Prop := ∃ (c : Cell) (ty : FieldType), Arr Z h a c ty ∧ c.slots.size = n.toNatClampNeg ∧ ¬ n < 0
theorem own_Len.lt {Z : State} {a : Addr} {n : Int32} (F : own_Len Z h a n) : a < h.size := by
  obtain ⟨c, ty, A, -⟩ := F
  exact A.lt
theorem own_Len.ext {Z : State} {h' : Heap} {a : Addr} {n : Int32} (F : own_Len Z h a n) (E : Ext h h') : own_Len Z h' a n := by
  obtain ⟨c, ty, A, r⟩ := F
  exact ⟨c, ty, A.ext E, r⟩
theorem own_Len.other {Z : State} {h' : Heap} {a b : Addr} {n : Int32} {sl : Nat} {v : Value} (F : own_Len Z h b n) (W : Wr h h' a sl v) (q : b ≠ a) : own_Len Z h' b n := by
  obtain ⟨c, ty, A, r⟩ := F
  exact ⟨c, ty, A.other W q, r⟩
theorem own_Len.keep {Z : State} {h' : Heap} {a : Addr} {n : Int32} {ws : List Addr} (F : own_Len Z h a n) (K : Keep h h' ws) (q : a ∉ ws) : own_Len Z h' a n := by
  obtain ⟨c, ty, A, r⟩ := F
  exact ⟨c, ty, ⟨K.2.1 _ _ A.1 q, A.2⟩, r⟩
theorem own_Len.arv {Z : State} {a : Addr} {k : ClassId} {ty : FieldType} {n : Int32} {vs : List Value} {d : Value} (F : Arv Z h a k ty n vs d) : own_Len Z h a n := by
  obtain ⟨c, A, -, S, N, -⟩ := F
  exact ⟨c, ty, A, S, N⟩
theorem own_Len.start {Z : State} {a : Addr} {c : Cell} {ty : FieldType} {z : Int32} (A : Arr Z h a c ty) (q : c.slots.size < 2 ^ 31) (e : c.slots.size.toInt32 = z) (hz : ¬ z < 0) : own_Len Z h a z :=
  ⟨c, ty, A, by rw [← e]; simp only [Int32.toNatClampNeg, len_toInt q]; rfl, hz⟩
theorem own_join {α : Sort _} {P : α → Prop} {G : JFrame → Prop} {g : JFrame} (F : α → JFrame) (h1 : ∀ t, P t → G (F t)) (h2 : (∀ t, P t → G (F t)) → G g) : G g := h2 h1
/-- a byte of a byte[] -/
def own_At (Z : State) (h : Heap) (a : Addr) (i b : Int32) : Prop := ∃ c : Cell, Arr Z h a c .byte ∧ ¬ (i < 0 ∨ c.slots.size ≤ i.toNatClampNeg) ∧ c.slots[i.toNatClampNeg]? = some (.int b)
theorem own_At.arv {Z : State} {a : Addr} {k : ClassId} {n i b : Int32} {vs : List Value} {d : Value} (F : Arv Z h a k .byte n vs d) (h1 : ¬ i < 0 ∧ i < n) (h2 : vs.getD i.toNatClampNeg d = .int b) : own_At Z h a i b := by
  obtain ⟨c, A, -, S, N, H, -⟩ := F
  exact ⟨c, A, inb_of S h1, H.at (inb_of S h1) h2⟩
theorem own_cat {v : Value} (hv : v.isRef = true) : v.category = 1 := by rcases ref_cases hv with rfl | ⟨z, rfl⟩ <;> rfl
theorem own_fits {v : Value} {ty : FieldType} (hv : v.isRef = true) (ht : ty.isReference = true) : fits ty v = true := by
  rcases ref_cases hv with rfl | ⟨z, rfl⟩ <;> cases ty <;> first | rfl | (cases ht; done) | simp [fits]
theorem own_narrow {v : Value} {ty : FieldType} (hv : v.isRef = true) (ht : ty.isReference = true) : narrow ty v = v := by
  rcases ref_cases hv with rfl | ⟨z, rfl⟩ <;> cases ty <;> first | rfl | (cases ht; done)
theorem Old.le {Z : State} {n0 : Nat} (X : Old Z n0 h) : n0 ≤ h.size := X.1 ▸ X.2.1
end New
end Jvm.RoadKit
namespace Jvm.Pilot.@@N@@
open Jvm Jvm.ClassFile Sem Op Lib Jvm.Free Jvm.Stand Jvm.LawKit Jvm.RoadKit Bundle Jvm.Pilot.@@N@@.Jvm.D
theorem own_toInt {a b : Int32} (h : a.toInt = b.toInt) : a = b := Int32.toInt_inj.mp h
theorem own_ten (x : Int32) : (x &&& (2147483647 : Int32)) % (10 : Int32) = (0 : Int32) ∨ (x &&& (2147483647 : Int32)) % (10 : Int32) = (1 : Int32) ∨ (x &&& (2147483647 : Int32)) % (10 : Int32) = (2 : Int32) ∨ (x &&& (2147483647 : Int32)) % (10 : Int32) = (3 : Int32) ∨ (x &&& (2147483647 : Int32)) % (10 : Int32) = (4 : Int32) ∨ (x &&& (2147483647 : Int32)) % (10 : Int32) = (5 : Int32) ∨ (x &&& (2147483647 : Int32)) % (10 : Int32) = (6 : Int32) ∨ (x &&& (2147483647 : Int32)) % (10 : Int32) = (7 : Int32) ∨ (x &&& (2147483647 : Int32)) % (10 : Int32) = (8 : Int32) ∨ (x &&& (2147483647 : Int32)) % (10 : Int32) = (9 : Int32) := by
  have h1 := c_mask x (2147483647 : Int32) 31 (by decide) (by decide)
  have h2 := (c_irem (x &&& (2147483647 : Int32)) (10 : Int32) 10 (by decide)).1 (by rw [h1]; omega)
  have h3 : ((x &&& (2147483647 : Int32)) % (10 : Int32)).toInt = 0 ∨ ((x &&& (2147483647 : Int32)) % (10 : Int32)).toInt = 1 ∨ ((x &&& (2147483647 : Int32)) % (10 : Int32)).toInt = 2 ∨ ((x &&& (2147483647 : Int32)) % (10 : Int32)).toInt = 3 ∨ ((x &&& (2147483647 : Int32)) % (10 : Int32)).toInt = 4 ∨ ((x &&& (2147483647 : Int32)) % (10 : Int32)).toInt = 5 ∨ ((x &&& (2147483647 : Int32)) % (10 : Int32)).toInt = 6 ∨ ((x &&& (2147483647 : Int32)) % (10 : Int32)).toInt = 7 ∨ ((x &&& (2147483647 : Int32)) % (10 : Int32)).toInt = 8 ∨ ((x &&& (2147483647 : Int32)) % (10 : Int32)).toInt = 9 := by omega
  rcases h3 with h | h | h | h | h | h | h | h | h | h
  · exact Or.inl (own_toInt h)
  · exact Or.inr (Or.inl (own_toInt h))
  · exact Or.inr (Or.inr (Or.inl (own_toInt h)))
  · exact Or.inr (Or.inr (Or.inr (Or.inl (own_toInt h))))
  · exact Or.inr (Or.inr (Or.inr (Or.inr (Or.inl (own_toInt h)))))
  · exact Or.inr (Or.inr (Or.inr (Or.inr (Or.inr (Or.inl (own_toInt h))))))
  · exact Or.inr (Or.inr (Or.inr (Or.inr (Or.inr (Or.inr (Or.inl (own_toInt h)))))))
  · exact Or.inr (Or.inr (Or.inr (Or.inr (Or.inr (Or.inr (Or.inr (Or.inl (own_toInt h))))))))
  · exact Or.inr (Or.inr (Or.inr (Or.inr (Or.inr (Or.inr (Or.inr (Or.inr (Or.inl (own_toInt h)))))))))
  · exact Or.inr (Or.inr (Or.inr (Or.inr (Or.inr (Or.inr (Or.inr (Or.inr (Or.inr (own_toInt h)))))))))
def own_pick (i : Int32) (w0 w1 w2 w3 w4 w5 w6 w7 w8 w9 : Addr) : Addr := if i = (0 : Int32) then w0 else if i = (1 : Int32) then w1 else if i = (2 : Int32) then w2 else if i = (3 : Int32) then w3 else if i = (4 : Int32) then w4 else if i = (5 : Int32) then w5 else if i = (6 : Int32) then w6 else if i = (7 : Int32) then w7 else if i = (8 : Int32) then w8 else w9
def own_chg (a w0 w2 w3 w4 : Addr) : Int32 := if a = w0 then 1 else if a = w2 then 1 else if a = w3 then 1 else if a = w4 then 1 else 0
theorem d1_0 : decode method_3_code 0 = .ok (.iload_n 0, 1) := by decide +kernel
theorem d1_1 : decode method_3_code 1 = .ok (.ifCond .ne 7, 3) := by decide +kernel
theorem d1_4 : decode method_3_code 4 = .ok (.getstatic 20, 3) := by decide +kernel
theorem d1_7 : decode method_3_code 7 = .ok (.areturn, 1) := by decide +kernel
theorem d1_8 : decode method_3_code 8 = .ok (.iload_n 0, 1) := by decide +kernel
theorem d1_9 : decode method_3_code 9 = .ok (.iconst 1, 1) := by decide +kernel
theorem d1_10 : decode method_3_code 10 = .ok (.if_icmp .ne 7, 3) := by decide +kernel
theorem d1_13 : decode method_3_code 13 = .ok (.getstatic 24, 3) := by decide +kernel
theorem d1_16 : decode method_3_code 16 = .ok (.areturn, 1) := by decide +kernel
theorem d1_17 : decode method_3_code 17 = .ok (.iload_n 0, 1) := by decide +kernel
theorem d1_18 : decode method_3_code 18 = .ok (.iconst 2, 1) := by decide +kernel
theorem d1_19 : decode method_3_code 19 = .ok (.if_icmp .ne 7, 3) := by decide +kernel
theorem d1_22 : decode method_3_code 22 = .ok (.getstatic 27, 3) := by decide +kernel
theorem d1_25 : decode method_3_code 25 = .ok (.areturn, 1) := by decide +kernel
theorem d1_26 : decode method_3_code 26 = .ok (.iload_n 0, 1) := by decide +kernel
theorem d1_27 : decode method_3_code 27 = .ok (.iconst 3, 1) := by decide +kernel
theorem d1_28 : decode method_3_code 28 = .ok (.if_icmp .ne 7, 3) := by decide +kernel
theorem d1_31 : decode method_3_code 31 = .ok (.getstatic 30, 3) := by decide +kernel
theorem d1_34 : decode method_3_code 34 = .ok (.areturn, 1) := by decide +kernel
theorem d1_35 : decode method_3_code 35 = .ok (.iload_n 0, 1) := by decide +kernel
theorem d1_36 : decode method_3_code 36 = .ok (.iconst 4, 1) := by decide +kernel
theorem d1_37 : decode method_3_code 37 = .ok (.if_icmp .ne 7, 3) := by decide +kernel
theorem d1_40 : decode method_3_code 40 = .ok (.getstatic 33, 3) := by decide +kernel
theorem d1_43 : decode method_3_code 43 = .ok (.areturn, 1) := by decide +kernel
theorem d1_44 : decode method_3_code 44 = .ok (.iload_n 0, 1) := by decide +kernel
theorem d1_45 : decode method_3_code 45 = .ok (.iconst 5, 1) := by decide +kernel
theorem d1_46 : decode method_3_code 46 = .ok (.if_icmp .ne 7, 3) := by decide +kernel
theorem d1_49 : decode method_3_code 49 = .ok (.getstatic 36, 3) := by decide +kernel
theorem d1_52 : decode method_3_code 52 = .ok (.areturn, 1) := by decide +kernel
theorem d1_53 : decode method_3_code 53 = .ok (.iload_n 0, 1) := by decide +kernel
theorem d1_54 : decode method_3_code 54 = .ok (.bipush 6, 2) := by decide +kernel
theorem d1_56 : decode method_3_code 56 = .ok (.if_icmp .ne 7, 3) := by decide +kernel
theorem d1_59 : decode method_3_code 59 = .ok (.getstatic 39, 3) := by decide +kernel
theorem d1_62 : decode method_3_code 62 = .ok (.areturn, 1) := by decide +kernel
theorem d1_63 : decode method_3_code 63 = .ok (.iload_n 0, 1) := by decide +kernel
theorem d1_64 : decode method_3_code 64 = .ok (.bipush 7, 2) := by decide +kernel
theorem d1_66 : decode method_3_code 66 = .ok (.if_icmp .ne 7, 3) := by decide +kernel
theorem d1_69 : decode method_3_code 69 = .ok (.getstatic 42, 3) := by decide +kernel
theorem d1_72 : decode method_3_code 72 = .ok (.areturn, 1) := by decide +kernel
theorem d1_73 : decode method_3_code 73 = .ok (.iload_n 0, 1) := by decide +kernel
theorem d1_74 : decode method_3_code 74 = .ok (.bipush 8, 2) := by decide +kernel
theorem d1_76 : decode method_3_code 76 = .ok (.if_icmp .ne 7, 3) := by decide +kernel
theorem d1_79 : decode method_3_code 79 = .ok (.getstatic 45, 3) := by decide +kernel
theorem d1_82 : decode method_3_code 82 = .ok (.areturn, 1) := by decide +kernel
theorem d1_83 : decode method_3_code 83 = .ok (.getstatic 48, 3) := by decide +kernel
theorem d1_86 : decode method_3_code 86 = .ok (.areturn, 1) := by decide +kernel
theorem pn_com_2fexample_2ftermflow_2ftermflow_2fpull_2fStatusChangesStorePinLaw : plainName "com/example/termflow/termflow/pull/StatusChangesStorePinLaw" = true := by first | (simp [plainName, overriddenIn]; done) | decide +kernel
theorem ef_pick (m : MethodId) (i : Int32) : entryFrame m #[(.int i)] 1 = mkF m 0 #[.val (.int i)] [] := by
  first | (simp [entryFrame, mkF, argsToLocals, Value.category]; done) | rfl
def Q_pick (Z : State) (i : Int32) (w0 : Addr) (w1 : Addr) (w2 : Addr) (w3 : Addr) (w4 : Addr) (w5 : Addr) (w6 : Addr) (w7 : Addr) (w8 : Addr) (w9 : Addr) (h0 : Heap) (n0 : Nat) (v : Option Value) (h : Heap) (L : List Loc) : Prop := v = some (.ref (own_pick i w0 w1 w2 w3 w4 w5 w6 w7 w8 w9)) ∧ Fr n0 L ∧ h = h0
set_option maxRecDepth 65536 in
set_option maxHeartbeats 40000000 in
theorem rm_pick (l : Launch) (Z : State) (a0 : Array Value) (hw : ∀ d ∈ tables_1, d.before a0 Z = true) (ws : List Jvm.Cond) (i : Int32) (w0 : Addr) (w1 : Addr) (w2 : Addr) (w3 : Addr) (w4 : Addr) (w5 : Addr) (w6 : Addr) (w7 : Addr) (w8 : Addr) (w9 : Addr) (h0 : Heap) (n0 : Nat) (O0 : Old Z n0 h0) (S_PULLED : Sta Z Z.heap "com/example/termflow/termflow/pull/Status" "PULLED" "Lcom/example/termflow/termflow/pull/Status;" (.ref w0)) (S_PRESENT : Sta Z Z.heap "com/example/termflow/termflow/pull/Status" "PRESENT" "Lcom/example/termflow/termflow/pull/Status;" (.ref w1)) (S_REPLACED : Sta Z Z.heap "com/example/termflow/termflow/pull/Status" "REPLACED" "Lcom/example/termflow/termflow/pull/Status;" (.ref w2)) (S_RETRACTED : Sta Z Z.heap "com/example/termflow/termflow/pull/Status" "RETRACTED" "Lcom/example/termflow/termflow/pull/Status;" (.ref w3)) (S_NOOP : Sta Z Z.heap "com/example/termflow/termflow/pull/Status" "NOOP" "Lcom/example/termflow/termflow/pull/Status;" (.ref w4)) (S_REFUSED : Sta Z Z.heap "com/example/termflow/termflow/pull/Status" "REFUSED" "Lcom/example/termflow/termflow/pull/Status;" (.ref w5)) (S_WOULD_PULL : Sta Z Z.heap "com/example/termflow/termflow/pull/Status" "WOULD_PULL" "Lcom/example/termflow/termflow/pull/Status;" (.ref w6)) (S_WOULD_REPLACE : Sta Z Z.heap "com/example/termflow/termflow/pull/Status" "WOULD_REPLACE" "Lcom/example/termflow/termflow/pull/Status;" (.ref w7)) (S_WOULD_RETRACT : Sta Z Z.heap "com/example/termflow/termflow/pull/Status" "WOULD_RETRACT" "Lcom/example/termflow/termflow/pull/Status;" (.ref w8)) (S_MISSING : Sta Z Z.heap "com/example/termflow/termflow/pull/Status" "MISSING" "Lcom/example/termflow/termflow/pull/Status;" (.ref w9)) :
    MetFree l (⟨"com/example/termflow/termflow/pull/StatusChangesStorePinLaw", "pick", "(I)Lcom/example/termflow/termflow/pull/Status;"⟩ : MethodName) (head1 (Jvm.Cond.code (⟨"com/example/termflow/termflow/pull/StatusChangesStorePinLaw", "pick", "(I)Lcom/example/termflow/termflow/pull/Status;"⟩ : MethodName) method_3_code 1 (some (.object "com/example/termflow/termflow/pull/Status")) :: ws) ({ frames := 0, cells := 0, slots := 0, locals := 0 } : Room)) (fun aq_ Uq_ => aq_ = #[(.int i)] ∧ Z.Warmed39 Uq_.vm ∧ Uq_.heap = h0) (fun _ _ _ _ _ => True) (fun _ Uq_ oq_ Ur_ => ∃ vq_ Lq_, oq_ = .returned vq_ ∧ Q_pick Z i w0 w1 w2 w3 w4 w5 w6 w7 w8 w9 h0 n0 vq_ Ur_.heap Lq_ ∧ FrameEnd Uq_ oq_ Ur_ Lq_ ({ frames := 0, cells := 0, slots := 0, locals := 0 } : Room).cells ({ frames := 0, cells := 0, slots := 0, locals := 0 } : Room).slots) := by
  refine MetFree.of_bodySF (plainFor_of_name pn_com_2fexample_2ftermflow_2ftermflow_2fpull_2fStatusChangesStorePinLaw) hisR ?_
  intro p e s m args below meth c s₁ Bd hml0 hP hK
  obtain ⟨rfl, hZ, hh⟩ := hP
  have hx := Bd.exec
  have hby := Bd.bytes
  have hml : c.maxLocals = 1 := hml0
  have hown : s.vm.findClass "com/example/termflow/termflow/pull/StatusChangesStorePinLaw" = some m.cls := findClass_of_methodNamed Bd.named
  have hnm := (name_of_methodNamed Bd.named Bd.method).1
  have X0 : Stand p l e ({ frames := 0, cells := 0, slots := 0, locals := 0 } : Room) s m #[(.int i)] below meth c s₁ [] 0 0 := Stand.of_body Bd
  have e0 : s₁.heap = h0 := by rw [← hh, Bd.state]; rfl
  have N0 := Fr.nil n0
  have K0 := Keep.refl h0 []
  refine own_G.start (Q := Q_pick Z i w0 w1 w2 w3 w4 w5 w6 w7 w8 w9 h0 n0) (ef_pick m i) ?_
  refine own_G.step (g' := (mkF m 1 #[.val (.int i)] [(.int i)])) (fun tq_ kq_ => XS.iloadN X0.here hx rfl (hb hby d1_0) rfl kq_) ?_
  rcases Classical.em (i = (0 : Int32)) with hc1 | hc1
  · refine own_G.step (g' := (mkF m 4 #[.val (.int i)] [])) (fun tq_ kq_ => XS.ifNo X0.here hx rfl (hb hby d1_1) rfl ((if0 _ _).trans (teq hc1).2) kq_) ?_
    obtain ⟨T1, X1, e1, st1⟩ := getS2 X0 hx hZ hown (host := "") (Or.inl (hw _ (List.mem_of_getElem? (i := 5) rfl))) Via.refl e0 (Sta.ext O0.2 S_PULLED) (g := (mkF m 4 #[.val (.int i)] [])) rfl (hb hby d1_4)
    refine own_G.step (T' := T1) (g' := (mkF m 7 #[.val (.int i)] [(.ref w0)])) st1 ?_
    exact own_ret X1 e1 (v := some (.ref w0)) (fun h => by rw [Bd.returns] at h; cases h) Bd.notSynchronized ⟨(by simp [own_pick, hc1]), N0, rfl⟩ (by decide) (by decide) (fun fs hr => own_retR X1 hx Bd.returns rfl rfl (hb hby d1_7) hr)
  · refine own_G.step (g' := (mkF m 8 #[.val (.int i)] [])) (fun tq_ kq_ => XS.ifYes X0.here hx rfl (pc0 := 1) (pc' := 8) rfl (hb hby d1_1) rfl ((if0 _ _).trans (feq hc1).2) (by decide) (by decide) kq_) ?_
    refine own_G.step (g' := (mkF m 9 #[.val (.int i)] [(.int i)])) (fun tq_ kq_ => XS.iloadN X0.here hx rfl (hb hby d1_8) rfl kq_) ?_
    refine own_G.step (g' := (mkF m 10 #[.val (.int i)] [(.int (1 : Int32)), (.int i)])) (fun tq_ kq_ => XS.iconst X0.here hx rfl (hb hby d1_9) kq_) ?_
    rcases Classical.em (i = (1 : Int32)) with hc10 | hc10
    · refine own_G.step (g' := (mkF m 13 #[.val (.int i)] [])) (fun tq_ kq_ => XS.icmpNo X0.here hx rfl (hb hby d1_10) rfl (teq hc10).2 kq_) ?_
      obtain ⟨T2, X2, e2, st2⟩ := getS2 X0 hx hZ hown (host := "") (Or.inl (hw _ (List.mem_of_getElem? (i := 19) rfl))) Via.refl e0 (Sta.ext O0.2 S_PRESENT) (g := (mkF m 13 #[.val (.int i)] [])) rfl (hb hby d1_13)
      refine own_G.step (T' := T2) (g' := (mkF m 16 #[.val (.int i)] [(.ref w1)])) st2 ?_
      exact own_ret X2 e2 (v := some (.ref w1)) (fun h => by rw [Bd.returns] at h; cases h) Bd.notSynchronized ⟨(by simp [own_pick, hc1, hc10]), N0, rfl⟩ (by decide) (by decide) (fun fs hr => own_retR X2 hx Bd.returns rfl rfl (hb hby d1_16) hr)
    · refine own_G.step (g' := (mkF m 17 #[.val (.int i)] [])) (fun tq_ kq_ => XS.icmpYes X0.here hx rfl (pc0 := 10) (pc' := 17) rfl (hb hby d1_10) rfl (feq hc10).2 (by decide) (by decide) kq_) ?_
      refine own_G.step (g' := (mkF m 18 #[.val (.int i)] [(.int i)])) (fun tq_ kq_ => XS.iloadN X0.here hx rfl (hb hby d1_17) rfl kq_) ?_
      refine own_G.step (g' := (mkF m 19 #[.val (.int i)] [(.int (2 : Int32)), (.int i)])) (fun tq_ kq_ => XS.iconst X0.here hx rfl (hb hby d1_18) kq_) ?_
      rcases Classical.em (i = (2 : Int32)) with hc19 | hc19
      · refine own_G.step (g' := (mkF m 22 #[.val (.int i)] [])) (fun tq_ kq_ => XS.icmpNo X0.here hx rfl (hb hby d1_19) rfl (teq hc19).2 kq_) ?_
        obtain ⟨T3, X3, e3, st3⟩ := getS2 X0 hx hZ hown (host := "") (Or.inl (hw _ (List.mem_of_getElem? (i := 26) rfl))) Via.refl e0 (Sta.ext O0.2 S_REPLACED) (g := (mkF m 22 #[.val (.int i)] [])) rfl (hb hby d1_22)
        refine own_G.step (T' := T3) (g' := (mkF m 25 #[.val (.int i)] [(.ref w2)])) st3 ?_
        exact own_ret X3 e3 (v := some (.ref w2)) (fun h => by rw [Bd.returns] at h; cases h) Bd.notSynchronized ⟨(by simp [own_pick, hc1, hc10, hc19]), N0, rfl⟩ (by decide) (by decide) (fun fs hr => own_retR X3 hx Bd.returns rfl rfl (hb hby d1_25) hr)
      · refine own_G.step (g' := (mkF m 26 #[.val (.int i)] [])) (fun tq_ kq_ => XS.icmpYes X0.here hx rfl (pc0 := 19) (pc' := 26) rfl (hb hby d1_19) rfl (feq hc19).2 (by decide) (by decide) kq_) ?_
        refine own_G.step (g' := (mkF m 27 #[.val (.int i)] [(.int i)])) (fun tq_ kq_ => XS.iloadN X0.here hx rfl (hb hby d1_26) rfl kq_) ?_
        refine own_G.step (g' := (mkF m 28 #[.val (.int i)] [(.int (3 : Int32)), (.int i)])) (fun tq_ kq_ => XS.iconst X0.here hx rfl (hb hby d1_27) kq_) ?_
        rcases Classical.em (i = (3 : Int32)) with hc28 | hc28
        · refine own_G.step (g' := (mkF m 31 #[.val (.int i)] [])) (fun tq_ kq_ => XS.icmpNo X0.here hx rfl (hb hby d1_28) rfl (teq hc28).2 kq_) ?_
          obtain ⟨T4, X4, e4, st4⟩ := getS2 X0 hx hZ hown (host := "") (Or.inl (hw _ (List.mem_of_getElem? (i := 14) rfl))) Via.refl e0 (Sta.ext O0.2 S_RETRACTED) (g := (mkF m 31 #[.val (.int i)] [])) rfl (hb hby d1_31)
          refine own_G.step (T' := T4) (g' := (mkF m 34 #[.val (.int i)] [(.ref w3)])) st4 ?_
          exact own_ret X4 e4 (v := some (.ref w3)) (fun h => by rw [Bd.returns] at h; cases h) Bd.notSynchronized ⟨(by simp [own_pick, hc1, hc10, hc19, hc28]), N0, rfl⟩ (by decide) (by decide) (fun fs hr => own_retR X4 hx Bd.returns rfl rfl (hb hby d1_34) hr)
        · refine own_G.step (g' := (mkF m 35 #[.val (.int i)] [])) (fun tq_ kq_ => XS.icmpYes X0.here hx rfl (pc0 := 28) (pc' := 35) rfl (hb hby d1_28) rfl (feq hc28).2 (by decide) (by decide) kq_) ?_
          refine own_G.step (g' := (mkF m 36 #[.val (.int i)] [(.int i)])) (fun tq_ kq_ => XS.iloadN X0.here hx rfl (hb hby d1_35) rfl kq_) ?_
          refine own_G.step (g' := (mkF m 37 #[.val (.int i)] [(.int (4 : Int32)), (.int i)])) (fun tq_ kq_ => XS.iconst X0.here hx rfl (hb hby d1_36) kq_) ?_
          rcases Classical.em (i = (4 : Int32)) with hc37 | hc37
          · refine own_G.step (g' := (mkF m 40 #[.val (.int i)] [])) (fun tq_ kq_ => XS.icmpNo X0.here hx rfl (hb hby d1_37) rfl (teq hc37).2 kq_) ?_
            obtain ⟨T5, X5, e5, st5⟩ := getS2 X0 hx hZ hown (host := "") (Or.inl (hw _ (List.mem_of_getElem? (i := 23) rfl))) Via.refl e0 (Sta.ext O0.2 S_NOOP) (g := (mkF m 40 #[.val (.int i)] [])) rfl (hb hby d1_40)
            refine own_G.step (T' := T5) (g' := (mkF m 43 #[.val (.int i)] [(.ref w4)])) st5 ?_
            exact own_ret X5 e5 (v := some (.ref w4)) (fun h => by rw [Bd.returns] at h; cases h) Bd.notSynchronized ⟨(by simp [own_pick, hc1, hc10, hc19, hc28, hc37]), N0, rfl⟩ (by decide) (by decide) (fun fs hr => own_retR X5 hx Bd.returns rfl rfl (hb hby d1_43) hr)
          · refine own_G.step (g' := (mkF m 44 #[.val (.int i)] [])) (fun tq_ kq_ => XS.icmpYes X0.here hx rfl (pc0 := 37) (pc' := 44) rfl (hb hby d1_37) rfl (feq hc37).2 (by decide) (by decide) kq_) ?_
            refine own_G.step (g' := (mkF m 45 #[.val (.int i)] [(.int i)])) (fun tq_ kq_ => XS.iloadN X0.here hx rfl (hb hby d1_44) rfl kq_) ?_
            refine own_G.step (g' := (mkF m 46 #[.val (.int i)] [(.int (5 : Int32)), (.int i)])) (fun tq_ kq_ => XS.iconst X0.here hx rfl (hb hby d1_45) kq_) ?_
            rcases Classical.em (i = (5 : Int32)) with hc46 | hc46
            · refine own_G.step (g' := (mkF m 49 #[.val (.int i)] [])) (fun tq_ kq_ => XS.icmpNo X0.here hx rfl (hb hby d1_46) rfl (teq hc46).2 kq_) ?_
              obtain ⟨T6, X6, e6, st6⟩ := getS2 X0 hx hZ hown (host := "") (Or.inl (hw _ (List.mem_of_getElem? (i := 31) rfl))) Via.refl e0 (Sta.ext O0.2 S_REFUSED) (g := (mkF m 49 #[.val (.int i)] [])) rfl (hb hby d1_49)
              refine own_G.step (T' := T6) (g' := (mkF m 52 #[.val (.int i)] [(.ref w5)])) st6 ?_
              exact own_ret X6 e6 (v := some (.ref w5)) (fun h => by rw [Bd.returns] at h; cases h) Bd.notSynchronized ⟨(by simp [own_pick, hc1, hc10, hc19, hc28, hc37, hc46]), N0, rfl⟩ (by decide) (by decide) (fun fs hr => own_retR X6 hx Bd.returns rfl rfl (hb hby d1_52) hr)
            · refine own_G.step (g' := (mkF m 53 #[.val (.int i)] [])) (fun tq_ kq_ => XS.icmpYes X0.here hx rfl (pc0 := 46) (pc' := 53) rfl (hb hby d1_46) rfl (feq hc46).2 (by decide) (by decide) kq_) ?_
              refine own_G.step (g' := (mkF m 54 #[.val (.int i)] [(.int i)])) (fun tq_ kq_ => XS.iloadN X0.here hx rfl (hb hby d1_53) rfl kq_) ?_
              refine own_G.step (g' := (mkF m 56 #[.val (.int i)] [(.int (6 : Int32)), (.int i)])) (fun tq_ kq_ => XS.bipush X0.here hx rfl (hb hby d1_54) kq_) ?_
              rcases Classical.em (i = (6 : Int32)) with hc56 | hc56
              · refine own_G.step (g' := (mkF m 59 #[.val (.int i)] [])) (fun tq_ kq_ => XS.icmpNo X0.here hx rfl (hb hby d1_56) rfl (teq hc56).2 kq_) ?_
                obtain ⟨T7, X7, e7, st7⟩ := getS2 X0 hx hZ hown (host := "") (Or.inl (hw _ (List.mem_of_getElem? (i := 33) rfl))) Via.refl e0 (Sta.ext O0.2 S_WOULD_PULL) (g := (mkF m 59 #[.val (.int i)] [])) rfl (hb hby d1_59)
                refine own_G.step (T' := T7) (g' := (mkF m 62 #[.val (.int i)] [(.ref w6)])) st7 ?_
                exact own_ret X7 e7 (v := some (.ref w6)) (fun h => by rw [Bd.returns] at h; cases h) Bd.notSynchronized ⟨(by simp [own_pick, hc1, hc10, hc19, hc28, hc37, hc46, hc56]), N0, rfl⟩ (by decide) (by decide) (fun fs hr => own_retR X7 hx Bd.returns rfl rfl (hb hby d1_62) hr)
              · refine own_G.step (g' := (mkF m 63 #[.val (.int i)] [])) (fun tq_ kq_ => XS.icmpYes X0.here hx rfl (pc0 := 56) (pc' := 63) rfl (hb hby d1_56) rfl (feq hc56).2 (by decide) (by decide) kq_) ?_
                refine own_G.step (g' := (mkF m 64 #[.val (.int i)] [(.int i)])) (fun tq_ kq_ => XS.iloadN X0.here hx rfl (hb hby d1_63) rfl kq_) ?_
                refine own_G.step (g' := (mkF m 66 #[.val (.int i)] [(.int (7 : Int32)), (.int i)])) (fun tq_ kq_ => XS.bipush X0.here hx rfl (hb hby d1_64) kq_) ?_
                rcases Classical.em (i = (7 : Int32)) with hc66 | hc66
                · refine own_G.step (g' := (mkF m 69 #[.val (.int i)] [])) (fun tq_ kq_ => XS.icmpNo X0.here hx rfl (hb hby d1_66) rfl (teq hc66).2 kq_) ?_
                  obtain ⟨T8, X8, e8, st8⟩ := getS2 X0 hx hZ hown (host := "") (Or.inl (hw _ (List.mem_of_getElem? (i := 24) rfl))) Via.refl e0 (Sta.ext O0.2 S_WOULD_REPLACE) (g := (mkF m 69 #[.val (.int i)] [])) rfl (hb hby d1_69)
                  refine own_G.step (T' := T8) (g' := (mkF m 72 #[.val (.int i)] [(.ref w7)])) st8 ?_
                  exact own_ret X8 e8 (v := some (.ref w7)) (fun h => by rw [Bd.returns] at h; cases h) Bd.notSynchronized ⟨(by simp [own_pick, hc1, hc10, hc19, hc28, hc37, hc46, hc56, hc66]), N0, rfl⟩ (by decide) (by decide) (fun fs hr => own_retR X8 hx Bd.returns rfl rfl (hb hby d1_72) hr)
                · refine own_G.step (g' := (mkF m 73 #[.val (.int i)] [])) (fun tq_ kq_ => XS.icmpYes X0.here hx rfl (pc0 := 66) (pc' := 73) rfl (hb hby d1_66) rfl (feq hc66).2 (by decide) (by decide) kq_) ?_
                  refine own_G.step (g' := (mkF m 74 #[.val (.int i)] [(.int i)])) (fun tq_ kq_ => XS.iloadN X0.here hx rfl (hb hby d1_73) rfl kq_) ?_
                  refine own_G.step (g' := (mkF m 76 #[.val (.int i)] [(.int (8 : Int32)), (.int i)])) (fun tq_ kq_ => XS.bipush X0.here hx rfl (hb hby d1_74) kq_) ?_
                  rcases Classical.em (i = (8 : Int32)) with hc76 | hc76
                  · refine own_G.step (g' := (mkF m 79 #[.val (.int i)] [])) (fun tq_ kq_ => XS.icmpNo X0.here hx rfl (hb hby d1_76) rfl (teq hc76).2 kq_) ?_
                    obtain ⟨T9, X9, e9, st9⟩ := getS2 X0 hx hZ hown (host := "") (Or.inl (hw _ (List.mem_of_getElem? (i := 27) rfl))) Via.refl e0 (Sta.ext O0.2 S_WOULD_RETRACT) (g := (mkF m 79 #[.val (.int i)] [])) rfl (hb hby d1_79)
                    refine own_G.step (T' := T9) (g' := (mkF m 82 #[.val (.int i)] [(.ref w8)])) st9 ?_
                    exact own_ret X9 e9 (v := some (.ref w8)) (fun h => by rw [Bd.returns] at h; cases h) Bd.notSynchronized ⟨(by simp [own_pick, hc1, hc10, hc19, hc28, hc37, hc46, hc56, hc66, hc76]), N0, rfl⟩ (by decide) (by decide) (fun fs hr => own_retR X9 hx Bd.returns rfl rfl (hb hby d1_82) hr)
                  · refine own_G.step (g' := (mkF m 83 #[.val (.int i)] [])) (fun tq_ kq_ => XS.icmpYes X0.here hx rfl (pc0 := 76) (pc' := 83) rfl (hb hby d1_76) rfl (feq hc76).2 (by decide) (by decide) kq_) ?_
                    obtain ⟨T10, X10, e10, st10⟩ := getS2 X0 hx hZ hown (host := "") (Or.inl (hw _ (List.mem_of_getElem? (i := 29) rfl))) Via.refl e0 (Sta.ext O0.2 S_MISSING) (g := (mkF m 83 #[.val (.int i)] [])) rfl (hb hby d1_83)
                    refine own_G.step (T' := T10) (g' := (mkF m 86 #[.val (.int i)] [(.ref w9)])) st10 ?_
                    exact own_ret X10 e10 (v := some (.ref w9)) (fun h => by rw [Bd.returns] at h; cases h) Bd.notSynchronized ⟨(by simp [own_pick, hc1, hc10, hc19, hc28, hc37, hc46, hc56, hc66, hc76]), N0, rfl⟩ (by decide) (by decide) (fun fs hr => own_retR X10 hx Bd.returns rfl rfl (hb hby d1_86) hr)
theorem d2_0 : decode prog_85_method_6_code 0 = .ok (.aload_n 0, 1) := by decide +kernel
theorem d2_1 : decode prog_85_method_6_code 1 = .ok (.getstatic 3, 3) := by decide +kernel
theorem d2_4 : decode prog_85_method_6_code 4 = .ok (.if_acmp .eq 24, 3) := by decide +kernel
theorem d2_7 : decode prog_85_method_6_code 7 = .ok (.aload_n 0, 1) := by decide +kernel
theorem d2_8 : decode prog_85_method_6_code 8 = .ok (.getstatic 10, 3) := by decide +kernel
theorem d2_11 : decode prog_85_method_6_code 11 = .ok (.if_acmp .eq 17, 3) := by decide +kernel
theorem d2_14 : decode prog_85_method_6_code 14 = .ok (.aload_n 0, 1) := by decide +kernel
theorem d2_15 : decode prog_85_method_6_code 15 = .ok (.getstatic 13, 3) := by decide +kernel
theorem d2_18 : decode prog_85_method_6_code 18 = .ok (.if_acmp .eq 10, 3) := by decide +kernel
theorem d2_21 : decode prog_85_method_6_code 21 = .ok (.aload_n 0, 1) := by decide +kernel
theorem d2_22 : decode prog_85_method_6_code 22 = .ok (.getstatic 16, 3) := by decide +kernel
theorem d2_25 : decode prog_85_method_6_code 25 = .ok (.if_acmp .ne 7, 3) := by decide +kernel
theorem d2_28 : decode prog_85_method_6_code 28 = .ok (.iconst 1, 1) := by decide +kernel
theorem d2_29 : decode prog_85_method_6_code 29 = .ok (.goto 4, 3) := by decide +kernel
theorem d2_32 : decode prog_85_method_6_code 32 = .ok (.iconst 0, 1) := by decide +kernel
theorem d2_33 : decode prog_85_method_6_code 33 = .ok (.ireturn, 1) := by decide +kernel
theorem pn_com_2fexample_2ftermflow_2ftermflow_2fpull_2fStatus : plainName "com/example/termflow/termflow/pull/Status" = true := by first | (simp [plainName, overriddenIn]; done) | decide +kernel
theorem ef_chg (m : MethodId) (a : Addr) : entryFrame m #[(.ref a)] 1 = mkF m 0 #[.val (.ref a)] [] := by
  first | (simp [entryFrame, mkF, argsToLocals, Value.category]; done) | rfl
def Q_chg (Z : State) (a : Addr) (w0 : Addr) (w1 : Addr) (w2 : Addr) (w3 : Addr) (w4 : Addr) (w5 : Addr) (w6 : Addr) (w7 : Addr) (w8 : Addr) (w9 : Addr) (h0 : Heap) (n0 : Nat) (v : Option Value) (h : Heap) (L : List Loc) : Prop := v = some (.int (own_chg a w0 w2 w3 w4)) ∧ Fr n0 L ∧ h = h0
set_option maxRecDepth 65536 in
set_option maxHeartbeats 40000000 in
theorem rm_chg (l : Launch) (Z : State) (a0 : Array Value) (hw : ∀ d ∈ tables_1, d.before a0 Z = true) (ws : List Jvm.Cond) (a : Addr) (w0 : Addr) (w1 : Addr) (w2 : Addr) (w3 : Addr) (w4 : Addr) (w5 : Addr) (w6 : Addr) (w7 : Addr) (w8 : Addr) (w9 : Addr) (h0 : Heap) (n0 : Nat) (O0 : Old Z n0 h0) (S_PULLED : Sta Z Z.heap "com/example/termflow/termflow/pull/Status" "PULLED" "Lcom/example/termflow/termflow/pull/Status;" (.ref w0)) (S_PRESENT : Sta Z Z.heap "com/example/termflow/termflow/pull/Status" "PRESENT" "Lcom/example/termflow/termflow/pull/Status;" (.ref w1)) (S_REPLACED : Sta Z Z.heap "com/example/termflow/termflow/pull/Status" "REPLACED" "Lcom/example/termflow/termflow/pull/Status;" (.ref w2)) (S_RETRACTED : Sta Z Z.heap "com/example/termflow/termflow/pull/Status" "RETRACTED" "Lcom/example/termflow/termflow/pull/Status;" (.ref w3)) (S_NOOP : Sta Z Z.heap "com/example/termflow/termflow/pull/Status" "NOOP" "Lcom/example/termflow/termflow/pull/Status;" (.ref w4)) (S_REFUSED : Sta Z Z.heap "com/example/termflow/termflow/pull/Status" "REFUSED" "Lcom/example/termflow/termflow/pull/Status;" (.ref w5)) (S_WOULD_PULL : Sta Z Z.heap "com/example/termflow/termflow/pull/Status" "WOULD_PULL" "Lcom/example/termflow/termflow/pull/Status;" (.ref w6)) (S_WOULD_REPLACE : Sta Z Z.heap "com/example/termflow/termflow/pull/Status" "WOULD_REPLACE" "Lcom/example/termflow/termflow/pull/Status;" (.ref w7)) (S_WOULD_RETRACT : Sta Z Z.heap "com/example/termflow/termflow/pull/Status" "WOULD_RETRACT" "Lcom/example/termflow/termflow/pull/Status;" (.ref w8)) (S_MISSING : Sta Z Z.heap "com/example/termflow/termflow/pull/Status" "MISSING" "Lcom/example/termflow/termflow/pull/Status;" (.ref w9)) :
    MetFree l (⟨"com/example/termflow/termflow/pull/Status", "changesStore", "()Z"⟩ : MethodName) (head1 (Jvm.Cond.code (⟨"com/example/termflow/termflow/pull/Status", "changesStore", "()Z"⟩ : MethodName) prog_85_method_6_code 1 (some .boolean) :: ws) ({ frames := 0, cells := 0, slots := 0, locals := 0 } : Room)) (fun aq_ Uq_ => aq_ = #[(.ref a)] ∧ Z.Warmed39 Uq_.vm ∧ Uq_.heap = h0) (fun _ _ _ _ _ => True) (fun _ Uq_ oq_ Ur_ => ∃ vq_ Lq_, oq_ = .returned vq_ ∧ Q_chg Z a w0 w1 w2 w3 w4 w5 w6 w7 w8 w9 h0 n0 vq_ Ur_.heap Lq_ ∧ FrameEnd Uq_ oq_ Ur_ Lq_ ({ frames := 0, cells := 0, slots := 0, locals := 0 } : Room).cells ({ frames := 0, cells := 0, slots := 0, locals := 0 } : Room).slots) := by
  refine MetFree.of_bodySF (plainFor_of_name pn_com_2fexample_2ftermflow_2ftermflow_2fpull_2fStatus) hisR ?_
  intro p e s m args below meth c s₁ Bd hml0 hP hK
  obtain ⟨rfl, hZ, hh⟩ := hP
  have hx := Bd.exec
  have hby := Bd.bytes
  have hml : c.maxLocals = 1 := hml0
  have hown : s.vm.findClass "com/example/termflow/termflow/pull/Status" = some m.cls := findClass_of_methodNamed Bd.named
  have hnm := (name_of_methodNamed Bd.named Bd.method).1
  have X0 : Stand p l e ({ frames := 0, cells := 0, slots := 0, locals := 0 } : Room) s m #[(.ref a)] below meth c s₁ [] 0 0 := Stand.of_body Bd
  have e0 : s₁.heap = h0 := by rw [← hh, Bd.state]; rfl
  have N0 := Fr.nil n0
  have K0 := Keep.refl h0 []
  refine own_G.start (Q := Q_chg Z a w0 w1 w2 w3 w4 w5 w6 w7 w8 w9 h0 n0) (ef_chg m a) ?_
  refine own_G.step (g' := (mkF m 1 #[.val (.ref a)] [(.ref a)])) (fun tq_ kq_ => XS.aloadN X0.here hx rfl (hb hby d2_0) rfl rfl kq_) ?_
  obtain ⟨T1, X1, e1, st1⟩ := getS2 X0 hx hZ hown (host := "") (Or.inl (hw _ (List.mem_of_getElem? (i := 13) rfl))) Via.refl e0 (Sta.ext O0.2 S_PULLED) (g := (mkF m 1 #[.val (.ref a)] [(.ref a)])) rfl (hb hby d2_1)
  refine own_G.step (T' := T1) (g' := (mkF m 4 #[.val (.ref a)] [(.ref w0), (.ref a)])) st1 ?_
  rcases Classical.em (a = w0) with hc4 | hc4
  · refine own_G.step (g' := (mkF m 28 #[.val (.ref a)] [])) (fun tq_ kq_ => Jvm.RoadKit.acmp (g := (mkF m 4 #[.val (.ref a)] [(.ref w0), (.ref a)])) X1 hx rfl rfl rfl (pc0 := 4) (pc' := 28) (same := true) rfl (hb hby d2_4) rfl (decide_eq_true (congrArg Value.ref hc4)) (by decide) (by decide) kq_) ?_
    refine own_G.step (g' := (mkF m 29 #[.val (.ref a)] [(.int (1 : Int32))])) (fun tq_ kq_ => XS.iconst X1.here hx rfl (hb hby d2_28) kq_) ?_
    refine own_G.step (g' := (mkF m 33 #[.val (.ref a)] [(.int (1 : Int32))])) (fun tq_ kq_ => XS.goto X1.here hx rfl (pc0 := 29) (pc' := 33) rfl (hb hby d2_29) (by decide) (by decide) kq_) ?_
    exact own_ret X1 e1 (v := some (.int (1 : Int32))) (fun h => by rw [Bd.returns] at h; cases h) Bd.notSynchronized ⟨(by simp [own_chg, hc4]), N0, rfl⟩ (by decide) (by decide) (fun fs hr => retN X1 hx (t := .boolean) Bd.returns (by simp) (hb hby d2_33) hr)
  · refine own_G.step (g' := (mkF m 7 #[.val (.ref a)] [])) (fun tq_ kq_ => Jvm.RoadKit.acmp (g := (mkF m 4 #[.val (.ref a)] [(.ref w0), (.ref a)])) X1 hx rfl rfl rfl (pc0 := 4) (pc' := 7) (same := false) rfl (hb hby d2_4) rfl (decide_eq_false fun q => hc4 (Value.ref.inj q)) (by decide) (by decide) kq_) ?_
    refine own_G.step (g' := (mkF m 8 #[.val (.ref a)] [(.ref a)])) (fun tq_ kq_ => XS.aloadN X1.here hx rfl (hb hby d2_7) rfl rfl kq_) ?_
    obtain ⟨T2, X2, e2, st2⟩ := getS2 X1 hx hZ hown (host := "") (Or.inl (hw _ (List.mem_of_getElem? (i := 16) rfl))) Via.refl e1 (Sta.ext O0.2 S_REPLACED) (g := (mkF m 8 #[.val (.ref a)] [(.ref a)])) rfl (hb hby d2_8)
    refine own_G.step (T' := T2) (g' := (mkF m 11 #[.val (.ref a)] [(.ref w2), (.ref a)])) st2 ?_
    rcases Classical.em (a = w2) with hc11 | hc11
    · refine own_G.step (g' := (mkF m 28 #[.val (.ref a)] [])) (fun tq_ kq_ => Jvm.RoadKit.acmp (g := (mkF m 11 #[.val (.ref a)] [(.ref w2), (.ref a)])) X2 hx rfl rfl rfl (pc0 := 11) (pc' := 28) (same := true) rfl (hb hby d2_11) rfl (decide_eq_true (congrArg Value.ref hc11)) (by decide) (by decide) kq_) ?_
      refine own_G.step (g' := (mkF m 29 #[.val (.ref a)] [(.int (1 : Int32))])) (fun tq_ kq_ => XS.iconst X2.here hx rfl (hb hby d2_28) kq_) ?_
      refine own_G.step (g' := (mkF m 33 #[.val (.ref a)] [(.int (1 : Int32))])) (fun tq_ kq_ => XS.goto X2.here hx rfl (pc0 := 29) (pc' := 33) rfl (hb hby d2_29) (by decide) (by decide) kq_) ?_
      exact own_ret X2 e2 (v := some (.int (1 : Int32))) (fun h => by rw [Bd.returns] at h; cases h) Bd.notSynchronized ⟨(by simp [own_chg, hc4, hc11]), N0, rfl⟩ (by decide) (by decide) (fun fs hr => retN X2 hx (t := .boolean) Bd.returns (by simp) (hb hby d2_33) hr)
    · refine own_G.step (g' := (mkF m 14 #[.val (.ref a)] [])) (fun tq_ kq_ => Jvm.RoadKit.acmp (g := (mkF m 11 #[.val (.ref a)] [(.ref w2), (.ref a)])) X2 hx rfl rfl rfl (pc0 := 11) (pc' := 14) (same := false) rfl (hb hby d2_11) rfl (decide_eq_false fun q => hc11 (Value.ref.inj q)) (by decide) (by decide) kq_) ?_
      refine own_G.step (g' := (mkF m 15 #[.val (.ref a)] [(.ref a)])) (fun tq_ kq_ => XS.aloadN X2.here hx rfl (hb hby d2_14) rfl rfl kq_) ?_
      obtain ⟨T3, X3, e3, st3⟩ := getS2 X2 hx hZ hown (host := "") (Or.inl (hw _ (List.mem_of_getElem? (i := 18) rfl))) Via.refl e2 (Sta.ext O0.2 S_RETRACTED) (g := (mkF m 15 #[.val (.ref a)] [(.ref a)])) rfl (hb hby d2_15)
      refine own_G.step (T' := T3) (g' := (mkF m 18 #[.val (.ref a)] [(.ref w3), (.ref a)])) st3 ?_
      rcases Classical.em (a = w3) with hc18 | hc18
      · refine own_G.step (g' := (mkF m 28 #[.val (.ref a)] [])) (fun tq_ kq_ => Jvm.RoadKit.acmp (g := (mkF m 18 #[.val (.ref a)] [(.ref w3), (.ref a)])) X3 hx rfl rfl rfl (pc0 := 18) (pc' := 28) (same := true) rfl (hb hby d2_18) rfl (decide_eq_true (congrArg Value.ref hc18)) (by decide) (by decide) kq_) ?_
        refine own_G.step (g' := (mkF m 29 #[.val (.ref a)] [(.int (1 : Int32))])) (fun tq_ kq_ => XS.iconst X3.here hx rfl (hb hby d2_28) kq_) ?_
        refine own_G.step (g' := (mkF m 33 #[.val (.ref a)] [(.int (1 : Int32))])) (fun tq_ kq_ => XS.goto X3.here hx rfl (pc0 := 29) (pc' := 33) rfl (hb hby d2_29) (by decide) (by decide) kq_) ?_
        exact own_ret X3 e3 (v := some (.int (1 : Int32))) (fun h => by rw [Bd.returns] at h; cases h) Bd.notSynchronized ⟨(by simp [own_chg, hc4, hc11, hc18]), N0, rfl⟩ (by decide) (by decide) (fun fs hr => retN X3 hx (t := .boolean) Bd.returns (by simp) (hb hby d2_33) hr)
      · refine own_G.step (g' := (mkF m 21 #[.val (.ref a)] [])) (fun tq_ kq_ => Jvm.RoadKit.acmp (g := (mkF m 18 #[.val (.ref a)] [(.ref w3), (.ref a)])) X3 hx rfl rfl rfl (pc0 := 18) (pc' := 21) (same := false) rfl (hb hby d2_18) rfl (decide_eq_false fun q => hc18 (Value.ref.inj q)) (by decide) (by decide) kq_) ?_
        refine own_G.step (g' := (mkF m 22 #[.val (.ref a)] [(.ref a)])) (fun tq_ kq_ => XS.aloadN X3.here hx rfl (hb hby d2_21) rfl rfl kq_) ?_
        obtain ⟨T4, X4, e4, st4⟩ := getS2 X3 hx hZ hown (host := "") (Or.inl (hw _ (List.mem_of_getElem? (i := 21) rfl))) Via.refl e3 (Sta.ext O0.2 S_NOOP) (g := (mkF m 22 #[.val (.ref a)] [(.ref a)])) rfl (hb hby d2_22)
        refine own_G.step (T' := T4) (g' := (mkF m 25 #[.val (.ref a)] [(.ref w4), (.ref a)])) st4 ?_
        rcases Classical.em (a = w4) with hc25 | hc25
        · refine own_G.step (g' := (mkF m 28 #[.val (.ref a)] [])) (fun tq_ kq_ => Jvm.RoadKit.acmp (g := (mkF m 25 #[.val (.ref a)] [(.ref w4), (.ref a)])) X4 hx rfl rfl rfl (pc0 := 25) (pc' := 28) (same := true) rfl (hb hby d2_25) rfl (decide_eq_true (congrArg Value.ref hc25)) (by decide) (by decide) kq_) ?_
          refine own_G.step (g' := (mkF m 29 #[.val (.ref a)] [(.int (1 : Int32))])) (fun tq_ kq_ => XS.iconst X4.here hx rfl (hb hby d2_28) kq_) ?_
          refine own_G.step (g' := (mkF m 33 #[.val (.ref a)] [(.int (1 : Int32))])) (fun tq_ kq_ => XS.goto X4.here hx rfl (pc0 := 29) (pc' := 33) rfl (hb hby d2_29) (by decide) (by decide) kq_) ?_
          exact own_ret X4 e4 (v := some (.int (1 : Int32))) (fun h => by rw [Bd.returns] at h; cases h) Bd.notSynchronized ⟨(by simp [own_chg, hc4, hc11, hc18, hc25]), N0, rfl⟩ (by decide) (by decide) (fun fs hr => retN X4 hx (t := .boolean) Bd.returns (by simp) (hb hby d2_33) hr)
        · refine own_G.step (g' := (mkF m 32 #[.val (.ref a)] [])) (fun tq_ kq_ => Jvm.RoadKit.acmp (g := (mkF m 25 #[.val (.ref a)] [(.ref w4), (.ref a)])) X4 hx rfl rfl rfl (pc0 := 25) (pc' := 32) (same := false) rfl (hb hby d2_25) rfl (decide_eq_false fun q => hc25 (Value.ref.inj q)) (by decide) (by decide) kq_) ?_
          refine own_G.step (g' := (mkF m 33 #[.val (.ref a)] [(.int (0 : Int32))])) (fun tq_ kq_ => XS.iconst X4.here hx rfl (hb hby d2_32) kq_) ?_
          exact own_ret X4 e4 (v := some (.int (0 : Int32))) (fun h => by rw [Bd.returns] at h; cases h) Bd.notSynchronized ⟨(by simp [own_chg, hc4, hc11, hc18, hc25]), N0, rfl⟩ (by decide) (by decide) (fun fs hr => retN X4 hx (t := .boolean) Bd.returns (by simp) (hb hby d2_33) hr)
theorem pd__28I_29Lcom_2fexample_2ftermflow_2ftermflow_2fpull_2fStatus_3b : parseMethodDescriptor "(I)Lcom/example/termflow/termflow/pull/Status;" = some ⟨[.int], some (.object "com/example/termflow/termflow/pull/Status")⟩ := by decide +kernel
theorem pd__28_29Z : parseMethodDescriptor "()Z" = some ⟨[], some .boolean⟩ := by decide +kernel
theorem ef_law (m : MethodId) (i0 : Int32) : entryFrame m #[(.int i0)] maxLocals = mkF m 0 #[.val (.int i0), .unset, .unset, .unset] [] := by
  first | (simp [entryFrame, mkF, argsToLocals, Value.category, maxLocals]; done) | rfl
def Q_law (Z : State) (i0 : Int32) (w0 : Addr) (w1 : Addr) (w2 : Addr) (w3 : Addr) (w4 : Addr) (w5 : Addr) (w6 : Addr) (w7 : Addr) (w8 : Addr) (w9 : Addr) (h0 : Heap) (n0 : Nat) (v : Option Value) (h : Heap) (L : List Loc) : Prop := v = some (.int 1) ∧ Fr n0 L
set_option maxRecDepth 65536 in
set_option maxHeartbeats 40000000 in
theorem rm_law (l : Launch) (Z : State) (a0 : Array Value) (hw : ∀ d ∈ tables_1, d.before a0 Z = true) (ws : List Jvm.Cond) (i0 : Int32) (w0 : Addr) (w1 : Addr) (w2 : Addr) (w3 : Addr) (w4 : Addr) (w5 : Addr) (w6 : Addr) (w7 : Addr) (w8 : Addr) (w9 : Addr) (h0 : Heap) (n0 : Nat) (O0 : Old Z n0 h0) (S_PULLED : Sta Z Z.heap "com/example/termflow/termflow/pull/Status" "PULLED" "Lcom/example/termflow/termflow/pull/Status;" (.ref w0)) (S_PRESENT : Sta Z Z.heap "com/example/termflow/termflow/pull/Status" "PRESENT" "Lcom/example/termflow/termflow/pull/Status;" (.ref w1)) (S_REPLACED : Sta Z Z.heap "com/example/termflow/termflow/pull/Status" "REPLACED" "Lcom/example/termflow/termflow/pull/Status;" (.ref w2)) (S_RETRACTED : Sta Z Z.heap "com/example/termflow/termflow/pull/Status" "RETRACTED" "Lcom/example/termflow/termflow/pull/Status;" (.ref w3)) (S_NOOP : Sta Z Z.heap "com/example/termflow/termflow/pull/Status" "NOOP" "Lcom/example/termflow/termflow/pull/Status;" (.ref w4)) (S_REFUSED : Sta Z Z.heap "com/example/termflow/termflow/pull/Status" "REFUSED" "Lcom/example/termflow/termflow/pull/Status;" (.ref w5)) (S_WOULD_PULL : Sta Z Z.heap "com/example/termflow/termflow/pull/Status" "WOULD_PULL" "Lcom/example/termflow/termflow/pull/Status;" (.ref w6)) (S_WOULD_REPLACE : Sta Z Z.heap "com/example/termflow/termflow/pull/Status" "WOULD_REPLACE" "Lcom/example/termflow/termflow/pull/Status;" (.ref w7)) (S_WOULD_RETRACT : Sta Z Z.heap "com/example/termflow/termflow/pull/Status" "WOULD_RETRACT" "Lcom/example/termflow/termflow/pull/Status;" (.ref w8)) (S_MISSING : Sta Z Z.heap "com/example/termflow/termflow/pull/Status" "MISSING" "Lcom/example/termflow/termflow/pull/Status;" (.ref w9)) (E_PULLED : Exa Z Z.heap w0 "com/example/termflow/termflow/pull/Status") (E_PRESENT : Exa Z Z.heap w1 "com/example/termflow/termflow/pull/Status") (E_REPLACED : Exa Z Z.heap w2 "com/example/termflow/termflow/pull/Status") (E_RETRACTED : Exa Z Z.heap w3 "com/example/termflow/termflow/pull/Status") (E_NOOP : Exa Z Z.heap w4 "com/example/termflow/termflow/pull/Status") (E_REFUSED : Exa Z Z.heap w5 "com/example/termflow/termflow/pull/Status") (E_WOULD_PULL : Exa Z Z.heap w6 "com/example/termflow/termflow/pull/Status") (E_WOULD_REPLACE : Exa Z Z.heap w7 "com/example/termflow/termflow/pull/Status") (E_WOULD_RETRACT : Exa Z Z.heap w8 "com/example/termflow/termflow/pull/Status") (E_MISSING : Exa Z Z.heap w9 "com/example/termflow/termflow/pull/Status") (F_PULLED_ordinal : Fld Z Z.heap w0 "java/lang/Enum" "ordinal" "I" (.int (0 : Int32))) (F_PRESENT_ordinal : Fld Z Z.heap w1 "java/lang/Enum" "ordinal" "I" (.int (1 : Int32))) (F_REPLACED_ordinal : Fld Z Z.heap w2 "java/lang/Enum" "ordinal" "I" (.int (2 : Int32))) (F_RETRACTED_ordinal : Fld Z Z.heap w3 "java/lang/Enum" "ordinal" "I" (.int (3 : Int32))) (F_NOOP_ordinal : Fld Z Z.heap w4 "java/lang/Enum" "ordinal" "I" (.int (4 : Int32))) (F_REFUSED_ordinal : Fld Z Z.heap w5 "java/lang/Enum" "ordinal" "I" (.int (5 : Int32))) (F_WOULD_PULL_ordinal : Fld Z Z.heap w6 "java/lang/Enum" "ordinal" "I" (.int (6 : Int32))) (F_WOULD_REPLACE_ordinal : Fld Z Z.heap w7 "java/lang/Enum" "ordinal" "I" (.int (7 : Int32))) (F_WOULD_RETRACT_ordinal : Fld Z Z.heap w8 "java/lang/Enum" "ordinal" "I" (.int (8 : Int32))) (F_MISSING_ordinal : Fld Z Z.heap w9 "java/lang/Enum" "ordinal" "I" (.int (9 : Int32))) :
    MetFree l x (head1 (Jvm.Cond.code x code maxLocals ret :: ws) room_1) (fun aq_ Uq_ => aq_ = #[(.int i0)] ∧ Z.Warmed39 Uq_.vm ∧ Uq_.heap = h0) (fun _ _ _ _ _ => True) (fun _ Uq_ oq_ Ur_ => ∃ vq_ Lq_, oq_ = .returned vq_ ∧ Q_law Z i0 w0 w1 w2 w3 w4 w5 w6 w7 w8 w9 h0 n0 vq_ Ur_.heap Lq_ ∧ FrameEnd Uq_ oq_ Ur_ Lq_ 0 0) := by
  refine MetFree.of_bodySF (plainFor_of_name pn_com_2fexample_2ftermflow_2ftermflow_2fpull_2fStatusChangesStorePinLaw) hisR ?_
  intro p e s m args below meth c s₁ Bd hml0 hP hK
  obtain ⟨rfl, hZ, hh⟩ := hP
  have hx := Bd.exec
  have hby := Bd.bytes
  have hml : c.maxLocals = 4 := hml0
  have hown : s.vm.findClass "com/example/termflow/termflow/pull/StatusChangesStorePinLaw" = some m.cls := findClass_of_methodNamed Bd.named
  have hnm := (name_of_methodNamed Bd.named Bd.method).1
  have X0 : Stand p l e room_1 s m #[(.int i0)] below meth c s₁ [] 0 0 := Stand.of_body Bd
  have e0 : s₁.heap = h0 := by rw [← hh, Bd.state]; rfl
  have N0 := Fr.nil n0
  have K0 := Keep.refl h0 []
  refine own_G.start (Q := Q_law Z i0 w0 w1 w2 w3 w4 w5 w6 w7 w8 w9 h0 n0) (ef_law m i0) ?_
  refine own_G.step (g' := (mkF m 1 #[.val (.int i0), .unset, .unset, .unset] [(.int i0)])) (fun tq_ kq_ => XS.iloadN X0.here hx rfl (hb hby at_0) rfl kq_) ?_
  refine own_G.step (g' := (mkF m 3 #[.val (.int i0), .unset, .unset, .unset] [(.int (2147483647 : Int32)), (.int i0)])) (fun tq_ kq_ => X0.ldcInt hx hown (mvT hZ (hw _ (List.mem_of_getElem? (i := 0) rfl))) (g := (mkF m 1 #[.val (.int i0), .unset, .unset, .unset] [(.int i0)])) rfl (hb hby at_1) _ kq_) ?_
  refine own_G.step (g' := (mkF m 4 #[.val (.int i0), .unset, .unset, .unset] [(.int (i0 &&& (2147483647 : Int32)))])) (fun tq_ kq_ => XS.iand X0.here hx rfl (hb hby at_3) rfl kq_) ?_
  refine own_G.step (g' := (mkF m 6 #[.val (.int i0), .unset, .unset, .unset] [(.int (10 : Int32)), (.int (i0 &&& (2147483647 : Int32)))])) (fun tq_ kq_ => XS.bipush X0.here hx rfl (hb hby at_4) kq_) ?_
  refine own_G.step (g' := (mkF m 7 #[.val (.int i0), .unset, .unset, .unset] [(.int ((i0 &&& (2147483647 : Int32)) % (10 : Int32)))])) (fun tq_ kq_ => iremM (g := (mkF m 6 #[.val (.int i0), .unset, .unset, .unset] [(.int (10 : Int32)), (.int (i0 &&& (2147483647 : Int32)))])) X0 hx rfl (hb hby at_6) rfl (by decide) kq_) ?_
  refine own_G.step (g' := (mkF m 8 #[.val (.int i0), .val (.int ((i0 &&& (2147483647 : Int32)) % (10 : Int32))), .unset, .unset] [])) (fun tq_ kq_ => XS.istoreN X0.here hx rfl (hb hby at_7) rfl (l' := #[.val (.int i0), .val (.int ((i0 &&& (2147483647 : Int32)) % (10 : Int32))), .unset, .unset]) rfl kq_) ?_
  obtain ⟨i, hi⟩ : ∃ z, z = ((i0 &&& (2147483647 : Int32)) % (10 : Int32)) := ⟨_, rfl⟩
  refine own_G.cast (g' := (mkF m 8 #[.val (.int i0), .val (.int i), .unset, .unset] [])) (by rw [hi]) ?_
  have hten := own_ten i0
  rw [← hi] at hten
  rcases hten with rfl | rfl | rfl | rfl | rfl | rfl | rfl | rfl | rfl | rfl
  · refine own_G.step (g' := (mkF m 9 #[.val (.int i0), .val (.int (0 : Int32)), .unset, .unset] [(.int (0 : Int32))])) (fun tq_ kq_ => XS.iloadN X0.here hx rfl (hb hby at_8) rfl kq_) ?_
    obtain ⟨_, _, ⟨T1, L1, k1, n1⟩, -, X1, ⟨Lc1, hQ1, l1, y1, z1⟩, st1⟩ := Jvm.LawKit.callS X0 hx (y := (⟨"com/example/termflow/termflow/pull/StatusChangesStorePinLaw", "pick", "(I)Lcom/example/termflow/termflow/pull/Status;"⟩ : MethodName)) hown (mvT hZ (hw _ (List.mem_of_getElem? (i := 1) rfl))) (mvT hZ (hw _ (List.mem_of_getElem? (i := 2) rfl))) (mvT hZ (hw _ (List.mem_of_getElem? (i := 3) rfl))) (mvT hZ (hw _ (List.mem_of_getElem? (i := 4) rfl))) (by decide) (backOf (W := 0) (rm_pick l Z a0 hw [] (0 : Int32) w0 w1 w2 w3 w4 w5 w6 w7 w8 w9 h0 n0 O0 S_PULLED S_PRESENT S_REPLACED S_RETRACTED S_NOOP S_REFUSED S_WOULD_PULL S_WOULD_REPLACE S_WOULD_RETRACT S_MISSING) hZ (hw _ (List.mem_of_getElem? (i := 4) rfl)) (hw _ (List.mem_of_getElem? (i := 3) rfl)) (by decide) (by decide)) (g := (mkF m 9 #[.val (.int i0), .val (.int (0 : Int32)), .unset, .unset] [(.int (0 : Int32))])) rfl (by rw [hml]; rfl) (argsL := [(.int (0 : Int32))]) (rest := []) (lenOf pd__28I_29Lcom_2fexample_2ftermflow_2ftermflow_2fpull_2fStatus_3b rfl) rfl (by show 2 * 0 + _ ≤ _; exact Nat.le_of_eq rfl) (hb hby at_9) (fun _ _ => ⟨rfl, e0, (by decide : 0 + 0 ≤ _), (by decide : 0 + 0 ≤ _)⟩)
    dsimp only [Pt.U, Pt.locs, Pt.cells, Pt.slots] at X1 l1 y1 z1 st1 hQ1
    subst l1 y1 z1
    obtain ⟨rfl, Nq1, P2⟩ := hQ1
    have N1 := Fr.app N0 Nq1
    refine own_G.step (T' := T1) (g' := (mkF m 12 #[.val (.int i0), .val (.int (0 : Int32)), .unset, .unset] [(.ref (own_pick (0 : Int32) w0 w1 w2 w3 w4 w5 w6 w7 w8 w9))])) (fun tq_ kq_ => st1 _ kq_) ?_
    have hp : own_pick (0 : Int32) w0 w1 w2 w3 w4 w5 w6 w7 w8 w9 = w0 := by simp [own_pick]
    refine own_G.cast (g' := (mkF m 12 #[.val (.int i0), .val (.int (0 : Int32)), .unset, .unset] [(.ref w0)])) (by rw [hp]) ?_
    refine own_G.step (g' := (mkF m 13 #[.val (.int i0), .val (.int (0 : Int32)), .val (.ref w0), .unset] [])) (fun tq_ kq_ => XS.astoreN X1.here hx rfl (hb hby at_12) rfl rfl (l' := #[.val (.int i0), .val (.int (0 : Int32)), .val (.ref w0), .unset]) rfl kq_) ?_
    refine own_G.step (g' := (mkF m 14 #[.val (.int i0), .val (.int (0 : Int32)), .val (.ref w0), .unset] [(.int (0 : Int32))])) (fun tq_ kq_ => XS.iloadN X1.here hx rfl (hb hby at_13) rfl kq_) ?_
    have hc14 : (0 : Int32) = (0 : Int32) := (by decide)
    refine own_G.step (g' := (mkF m 32 #[.val (.int i0), .val (.int (0 : Int32)), .val (.ref w0), .unset] [])) (fun tq_ kq_ => XS.ifYes X1.here hx rfl (pc0 := 14) (pc' := 32) rfl (hb hby at_14) rfl ((if0 _ _).trans (teq hc14).1) (by decide) (by decide) kq_) ?_
    refine own_G.step (g' := (mkF m 33 #[.val (.int i0), .val (.int (0 : Int32)), .val (.ref w0), .unset] [(.int (1 : Int32))])) (fun tq_ kq_ => XS.iconst X1.here hx rfl (hb hby at_32) kq_) ?_
    refine own_G.step (g' := (mkF m 37 #[.val (.int i0), .val (.int (0 : Int32)), .val (.ref w0), .unset] [(.int (1 : Int32))])) (fun tq_ kq_ => XS.goto X1.here hx rfl (pc0 := 33) (pc' := 37) rfl (hb hby at_33) (by decide) (by decide) kq_) ?_
    refine own_G.step (g' := (mkF m 38 #[.val (.int i0), .val (.int (0 : Int32)), .val (.ref w0), .val (.int (1 : Int32))] [])) (fun tq_ kq_ => XS.istoreN X1.here hx rfl (hb hby at_37) rfl (l' := #[.val (.int i0), .val (.int (0 : Int32)), .val (.ref w0), .val (.int (1 : Int32))]) rfl kq_) ?_
    refine own_G.step (g' := (mkF m 39 #[.val (.int i0), .val (.int (0 : Int32)), .val (.ref w0), .val (.int (1 : Int32))] [(.ref w0)])) (fun tq_ kq_ => XS.aloadN X1.here hx rfl (hb hby at_38) rfl rfl kq_) ?_
    obtain ⟨cq3, kq3, q3a, q3b, q3c⟩ := isOf hZ P2 (Exa.ext O0.2 E_PULLED)
    obtain ⟨_, _, ⟨T3, L3, k3, n3⟩, -, X3, ⟨Lc3, hQ3, l3, y3, z3⟩, st3⟩ := X1.virtualBack hx (y := (⟨"com/example/termflow/termflow/pull/Status", "changesStore", "()Z"⟩ : MethodName)) (z := (⟨"com/example/termflow/termflow/pull/Status", "changesStore", "()Z"⟩ : MethodName)) hown (mvT hZ (hw _ (List.mem_of_getElem? (i := 8) rfl))) (mvT hZ (hw _ (List.mem_of_getElem? (i := 9) rfl))) (notFace_of_selects (args := #[]) (mvT hZ (hw _ (List.mem_of_getElem? (i := 11) rfl)))) (mvT hZ (hw _ (List.mem_of_getElem? (i := 11) rfl))) (mvT hZ (hw _ (List.mem_of_getElem? (i := 10) rfl))) (by decide) (backOf (W := 0) (rm_chg l Z a0 hw [] w0 w0 w1 w2 w3 w4 w5 w6 w7 w8 w9 h0 n0 O0 S_PULLED S_PRESENT S_REPLACED S_RETRACTED S_NOOP S_REFUSED S_WOULD_PULL S_WOULD_REPLACE S_WOULD_RETRACT S_MISSING) hZ (hw _ (List.mem_of_getElem? (i := 12) rfl)) (hw _ (List.mem_of_getElem? (i := 6) rfl)) (by decide) (by decide)) q3a q3c (g := (mkF m 39 #[.val (.int i0), .val (.int (0 : Int32)), .val (.ref w0), .val (.int (1 : Int32))] [(.ref w0)])) rfl (by rw [hml]; rfl) (Steps.refl _) (argsL := []) (rest := []) (lenOf pd__28_29Z rfl) rfl (by show 2 * 0 + _ ≤ _; exact Nat.le_of_eq rfl) (hb hby at_39) (fun _ _ => ⟨rfl, P2, (by decide : 0 + 0 ≤ _), (by decide : 0 + 0 ≤ _)⟩)
    dsimp only [Pt.U, Pt.locs, Pt.cells, Pt.slots] at X3 l3 y3 z3 st3 hQ3
    subst l3 y3 z3
    obtain ⟨rfl, Nq3, P4⟩ := hQ3
    have N3 := Fr.app N1 Nq3
    refine own_G.step (T' := T3) (g' := (mkF m 42 #[.val (.int i0), .val (.int (0 : Int32)), .val (.ref w0), .val (.int (1 : Int32))] [(.int (own_chg w0 w0 w2 w3 w4))])) (fun tq_ kq_ => st3.trans kq_) ?_
    have hg : own_chg w0 w0 w2 w3 w4 = (1 : Int32) := by simp [own_chg]
    refine own_G.cast (g' := (mkF m 42 #[.val (.int i0), .val (.int (0 : Int32)), .val (.ref w0), .val (.int (1 : Int32))] [(.int (1 : Int32))])) (by rw [hg]) ?_
    refine own_G.step (g' := (mkF m 43 #[.val (.int i0), .val (.int (0 : Int32)), .val (.ref w0), .val (.int (1 : Int32))] [(.int (1 : Int32)), (.int (1 : Int32))])) (fun tq_ kq_ => XS.iloadN X3.here hx rfl (hb hby at_42) rfl kq_) ?_
    have hc43 : (1 : Int32) = (1 : Int32) := (by decide)
    refine own_G.step (g' := (mkF m 46 #[.val (.int i0), .val (.int (0 : Int32)), .val (.ref w0), .val (.int (1 : Int32))] [])) (fun tq_ kq_ => XS.icmpNo X3.here hx rfl (hb hby at_43) rfl (teq hc43).2 kq_) ?_
    refine own_G.step (g' := (mkF m 47 #[.val (.int i0), .val (.int (0 : Int32)), .val (.ref w0), .val (.int (1 : Int32))] [(.int (1 : Int32))])) (fun tq_ kq_ => XS.iconst X3.here hx rfl (hb hby at_46) kq_) ?_
    refine own_G.step (g' := (mkF m 51 #[.val (.int i0), .val (.int (0 : Int32)), .val (.ref w0), .val (.int (1 : Int32))] [(.int (1 : Int32))])) (fun tq_ kq_ => XS.goto X3.here hx rfl (pc0 := 47) (pc' := 51) rfl (hb hby at_47) (by decide) (by decide) kq_) ?_
    exact own_ret X3 P4 (v := some (.int (1 : Int32))) (fun h => by rw [Bd.returns] at h; cases h) Bd.notSynchronized ⟨rfl, N3⟩ (by decide) (by decide) (fun fs hr => retN X3 hx (t := .boolean) Bd.returns (by simp) (hb hby at_51) hr)
  · refine own_G.step (g' := (mkF m 9 #[.val (.int i0), .val (.int (1 : Int32)), .unset, .unset] [(.int (1 : Int32))])) (fun tq_ kq_ => XS.iloadN X0.here hx rfl (hb hby at_8) rfl kq_) ?_
    obtain ⟨_, _, ⟨T5, L5, k5, n5⟩, -, X5, ⟨Lc5, hQ5, l5, y5, z5⟩, st5⟩ := Jvm.LawKit.callS X0 hx (y := (⟨"com/example/termflow/termflow/pull/StatusChangesStorePinLaw", "pick", "(I)Lcom/example/termflow/termflow/pull/Status;"⟩ : MethodName)) hown (mvT hZ (hw _ (List.mem_of_getElem? (i := 1) rfl))) (mvT hZ (hw _ (List.mem_of_getElem? (i := 2) rfl))) (mvT hZ (hw _ (List.mem_of_getElem? (i := 3) rfl))) (mvT hZ (hw _ (List.mem_of_getElem? (i := 4) rfl))) (by decide) (backOf (W := 0) (rm_pick l Z a0 hw [] (1 : Int32) w0 w1 w2 w3 w4 w5 w6 w7 w8 w9 h0 n0 O0 S_PULLED S_PRESENT S_REPLACED S_RETRACTED S_NOOP S_REFUSED S_WOULD_PULL S_WOULD_REPLACE S_WOULD_RETRACT S_MISSING) hZ (hw _ (List.mem_of_getElem? (i := 4) rfl)) (hw _ (List.mem_of_getElem? (i := 3) rfl)) (by decide) (by decide)) (g := (mkF m 9 #[.val (.int i0), .val (.int (1 : Int32)), .unset, .unset] [(.int (1 : Int32))])) rfl (by rw [hml]; rfl) (argsL := [(.int (1 : Int32))]) (rest := []) (lenOf pd__28I_29Lcom_2fexample_2ftermflow_2ftermflow_2fpull_2fStatus_3b rfl) rfl (by show 2 * 0 + _ ≤ _; exact Nat.le_of_eq rfl) (hb hby at_9) (fun _ _ => ⟨rfl, e0, (by decide : 0 + 0 ≤ _), (by decide : 0 + 0 ≤ _)⟩)
    dsimp only [Pt.U, Pt.locs, Pt.cells, Pt.slots] at X5 l5 y5 z5 st5 hQ5
    subst l5 y5 z5
    obtain ⟨rfl, Nq5, P6⟩ := hQ5
    have N5 := Fr.app N0 Nq5
    refine own_G.step (T' := T5) (g' := (mkF m 12 #[.val (.int i0), .val (.int (1 : Int32)), .unset, .unset] [(.ref (own_pick (1 : Int32) w0 w1 w2 w3 w4 w5 w6 w7 w8 w9))])) (fun tq_ kq_ => st5 _ kq_) ?_
    have hp : own_pick (1 : Int32) w0 w1 w2 w3 w4 w5 w6 w7 w8 w9 = w1 := by simp [own_pick]
    refine own_G.cast (g' := (mkF m 12 #[.val (.int i0), .val (.int (1 : Int32)), .unset, .unset] [(.ref w1)])) (by rw [hp]) ?_
    refine own_G.step (g' := (mkF m 13 #[.val (.int i0), .val (.int (1 : Int32)), .val (.ref w1), .unset] [])) (fun tq_ kq_ => XS.astoreN X5.here hx rfl (hb hby at_12) rfl rfl (l' := #[.val (.int i0), .val (.int (1 : Int32)), .val (.ref w1), .unset]) rfl kq_) ?_
    refine own_G.step (g' := (mkF m 14 #[.val (.int i0), .val (.int (1 : Int32)), .val (.ref w1), .unset] [(.int (1 : Int32))])) (fun tq_ kq_ => XS.iloadN X5.here hx rfl (hb hby at_13) rfl kq_) ?_
    have hc14 : ¬ ((1 : Int32) = (0 : Int32)) := (by decide)
    refine own_G.step (g' := (mkF m 17 #[.val (.int i0), .val (.int (1 : Int32)), .val (.ref w1), .unset] [])) (fun tq_ kq_ => XS.ifNo X5.here hx rfl (hb hby at_14) rfl ((if0 _ _).trans (feq hc14).1) kq_) ?_
    refine own_G.step (g' := (mkF m 18 #[.val (.int i0), .val (.int (1 : Int32)), .val (.ref w1), .unset] [(.int (1 : Int32))])) (fun tq_ kq_ => XS.iloadN X5.here hx rfl (hb hby at_17) rfl kq_) ?_
    refine own_G.step (g' := (mkF m 19 #[.val (.int i0), .val (.int (1 : Int32)), .val (.ref w1), .unset] [(.int (2 : Int32)), (.int (1 : Int32))])) (fun tq_ kq_ => XS.iconst X5.here hx rfl (hb hby at_18) kq_) ?_
    have hc19 : ¬ ((1 : Int32) = (2 : Int32)) := (by decide)
    refine own_G.step (g' := (mkF m 22 #[.val (.int i0), .val (.int (1 : Int32)), .val (.ref w1), .unset] [])) (fun tq_ kq_ => XS.icmpNo X5.here hx rfl (hb hby at_19) rfl (feq hc19).1 kq_) ?_
    refine own_G.step (g' := (mkF m 23 #[.val (.int i0), .val (.int (1 : Int32)), .val (.ref w1), .unset] [(.int (1 : Int32))])) (fun tq_ kq_ => XS.iloadN X5.here hx rfl (hb hby at_22) rfl kq_) ?_
    refine own_G.step (g' := (mkF m 24 #[.val (.int i0), .val (.int (1 : Int32)), .val (.ref w1), .unset] [(.int (3 : Int32)), (.int (1 : Int32))])) (fun tq_ kq_ => XS.iconst X5.here hx rfl (hb hby at_23) kq_) ?_
    have hc24 : ¬ ((1 : Int32) = (3 : Int32)) := (by decide)
    refine own_G.step (g' := (mkF m 27 #[.val (.int i0), .val (.int (1 : Int32)), .val (.ref w1), .unset] [])) (fun tq_ kq_ => XS.icmpNo X5.here hx rfl (hb hby at_24) rfl (feq hc24).1 kq_) ?_
    refine own_G.step (g' := (mkF m 28 #[.val (.int i0), .val (.int (1 : Int32)), .val (.ref w1), .unset] [(.int (1 : Int32))])) (fun tq_ kq_ => XS.iloadN X5.here hx rfl (hb hby at_27) rfl kq_) ?_
    refine own_G.step (g' := (mkF m 29 #[.val (.int i0), .val (.int (1 : Int32)), .val (.ref w1), .unset] [(.int (4 : Int32)), (.int (1 : Int32))])) (fun tq_ kq_ => XS.iconst X5.here hx rfl (hb hby at_28) kq_) ?_
    have hc29 : ¬ ((1 : Int32) = (4 : Int32)) := (by decide)
    refine own_G.step (g' := (mkF m 36 #[.val (.int i0), .val (.int (1 : Int32)), .val (.ref w1), .unset] [])) (fun tq_ kq_ => XS.icmpYes X5.here hx rfl (pc0 := 29) (pc' := 36) rfl (hb hby at_29) rfl (feq hc29).2 (by decide) (by decide) kq_) ?_
    refine own_G.step (g' := (mkF m 37 #[.val (.int i0), .val (.int (1 : Int32)), .val (.ref w1), .unset] [(.int (0 : Int32))])) (fun tq_ kq_ => XS.iconst X5.here hx rfl (hb hby at_36) kq_) ?_
    refine own_G.step (g' := (mkF m 38 #[.val (.int i0), .val (.int (1 : Int32)), .val (.ref w1), .val (.int (0 : Int32))] [])) (fun tq_ kq_ => XS.istoreN X5.here hx rfl (hb hby at_37) rfl (l' := #[.val (.int i0), .val (.int (1 : Int32)), .val (.ref w1), .val (.int (0 : Int32))]) rfl kq_) ?_
    refine own_G.step (g' := (mkF m 39 #[.val (.int i0), .val (.int (1 : Int32)), .val (.ref w1), .val (.int (0 : Int32))] [(.ref w1)])) (fun tq_ kq_ => XS.aloadN X5.here hx rfl (hb hby at_38) rfl rfl kq_) ?_
    obtain ⟨cq7, kq7, q7a, q7b, q7c⟩ := isOf hZ P6 (Exa.ext O0.2 E_PRESENT)
    obtain ⟨_, _, ⟨T7, L7, k7, n7⟩, -, X7, ⟨Lc7, hQ7, l7, y7, z7⟩, st7⟩ := X5.virtualBack hx (y := (⟨"com/example/termflow/termflow/pull/Status", "changesStore", "()Z"⟩ : MethodName)) (z := (⟨"com/example/termflow/termflow/pull/Status", "changesStore", "()Z"⟩ : MethodName)) hown (mvT hZ (hw _ (List.mem_of_getElem? (i := 8) rfl))) (mvT hZ (hw _ (List.mem_of_getElem? (i := 9) rfl))) (notFace_of_selects (args := #[]) (mvT hZ (hw _ (List.mem_of_getElem? (i := 11) rfl)))) (mvT hZ (hw _ (List.mem_of_getElem? (i := 11) rfl))) (mvT hZ (hw _ (List.mem_of_getElem? (i := 10) rfl))) (by decide) (backOf (W := 0) (rm_chg l Z a0 hw [] w1 w0 w1 w2 w3 w4 w5 w6 w7 w8 w9 h0 n0 O0 S_PULLED S_PRESENT S_REPLACED S_RETRACTED S_NOOP S_REFUSED S_WOULD_PULL S_WOULD_REPLACE S_WOULD_RETRACT S_MISSING) hZ (hw _ (List.mem_of_getElem? (i := 12) rfl)) (hw _ (List.mem_of_getElem? (i := 6) rfl)) (by decide) (by decide)) q7a q7c (g := (mkF m 39 #[.val (.int i0), .val (.int (1 : Int32)), .val (.ref w1), .val (.int (0 : Int32))] [(.ref w1)])) rfl (by rw [hml]; rfl) (Steps.refl _) (argsL := []) (rest := []) (lenOf pd__28_29Z rfl) rfl (by show 2 * 0 + _ ≤ _; exact Nat.le_of_eq rfl) (hb hby at_39) (fun _ _ => ⟨rfl, P6, (by decide : 0 + 0 ≤ _), (by decide : 0 + 0 ≤ _)⟩)
    dsimp only [Pt.U, Pt.locs, Pt.cells, Pt.slots] at X7 l7 y7 z7 st7 hQ7
    subst l7 y7 z7
    obtain ⟨rfl, Nq7, P8⟩ := hQ7
    have N7 := Fr.app N5 Nq7
    refine own_G.step (T' := T7) (g' := (mkF m 42 #[.val (.int i0), .val (.int (1 : Int32)), .val (.ref w1), .val (.int (0 : Int32))] [(.int (own_chg w1 w0 w2 w3 w4))])) (fun tq_ kq_ => st7.trans kq_) ?_
    have ne0 : w1 ≠ w0 := F_PRESENT_ordinal.ne F_PULLED_ordinal (by decide)
    have ne2 : w1 ≠ w2 := F_PRESENT_ordinal.ne F_REPLACED_ordinal (by decide)
    have ne3 : w1 ≠ w3 := F_PRESENT_ordinal.ne F_RETRACTED_ordinal (by decide)
    have ne4 : w1 ≠ w4 := F_PRESENT_ordinal.ne F_NOOP_ordinal (by decide)
    have hg : own_chg w1 w0 w2 w3 w4 = (0 : Int32) := by simp [own_chg, ne0, ne2, ne3, ne4]
    refine own_G.cast (g' := (mkF m 42 #[.val (.int i0), .val (.int (1 : Int32)), .val (.ref w1), .val (.int (0 : Int32))] [(.int (0 : Int32))])) (by rw [hg]) ?_
    refine own_G.step (g' := (mkF m 43 #[.val (.int i0), .val (.int (1 : Int32)), .val (.ref w1), .val (.int (0 : Int32))] [(.int (0 : Int32)), (.int (0 : Int32))])) (fun tq_ kq_ => XS.iloadN X7.here hx rfl (hb hby at_42) rfl kq_) ?_
    have hc43 : (0 : Int32) = (0 : Int32) := (by decide)
    refine own_G.step (g' := (mkF m 46 #[.val (.int i0), .val (.int (1 : Int32)), .val (.ref w1), .val (.int (0 : Int32))] [])) (fun tq_ kq_ => XS.icmpNo X7.here hx rfl (hb hby at_43) rfl (teq hc43).2 kq_) ?_
    refine own_G.step (g' := (mkF m 47 #[.val (.int i0), .val (.int (1 : Int32)), .val (.ref w1), .val (.int (0 : Int32))] [(.int (1 : Int32))])) (fun tq_ kq_ => XS.iconst X7.here hx rfl (hb hby at_46) kq_) ?_
    refine own_G.step (g' := (mkF m 51 #[.val (.int i0), .val (.int (1 : Int32)), .val (.ref w1), .val (.int (0 : Int32))] [(.int (1 : Int32))])) (fun tq_ kq_ => XS.goto X7.here hx rfl (pc0 := 47) (pc' := 51) rfl (hb hby at_47) (by decide) (by decide) kq_) ?_
    exact own_ret X7 P8 (v := some (.int (1 : Int32))) (fun h => by rw [Bd.returns] at h; cases h) Bd.notSynchronized ⟨rfl, N7⟩ (by decide) (by decide) (fun fs hr => retN X7 hx (t := .boolean) Bd.returns (by simp) (hb hby at_51) hr)
  · refine own_G.step (g' := (mkF m 9 #[.val (.int i0), .val (.int (2 : Int32)), .unset, .unset] [(.int (2 : Int32))])) (fun tq_ kq_ => XS.iloadN X0.here hx rfl (hb hby at_8) rfl kq_) ?_
    obtain ⟨_, _, ⟨T9, L9, k9, n9⟩, -, X9, ⟨Lc9, hQ9, l9, y9, z9⟩, st9⟩ := Jvm.LawKit.callS X0 hx (y := (⟨"com/example/termflow/termflow/pull/StatusChangesStorePinLaw", "pick", "(I)Lcom/example/termflow/termflow/pull/Status;"⟩ : MethodName)) hown (mvT hZ (hw _ (List.mem_of_getElem? (i := 1) rfl))) (mvT hZ (hw _ (List.mem_of_getElem? (i := 2) rfl))) (mvT hZ (hw _ (List.mem_of_getElem? (i := 3) rfl))) (mvT hZ (hw _ (List.mem_of_getElem? (i := 4) rfl))) (by decide) (backOf (W := 0) (rm_pick l Z a0 hw [] (2 : Int32) w0 w1 w2 w3 w4 w5 w6 w7 w8 w9 h0 n0 O0 S_PULLED S_PRESENT S_REPLACED S_RETRACTED S_NOOP S_REFUSED S_WOULD_PULL S_WOULD_REPLACE S_WOULD_RETRACT S_MISSING) hZ (hw _ (List.mem_of_getElem? (i := 4) rfl)) (hw _ (List.mem_of_getElem? (i := 3) rfl)) (by decide) (by decide)) (g := (mkF m 9 #[.val (.int i0), .val (.int (2 : Int32)), .unset, .unset] [(.int (2 : Int32))])) rfl (by rw [hml]; rfl) (argsL := [(.int (2 : Int32))]) (rest := []) (lenOf pd__28I_29Lcom_2fexample_2ftermflow_2ftermflow_2fpull_2fStatus_3b rfl) rfl (by show 2 * 0 + _ ≤ _; exact Nat.le_of_eq rfl) (hb hby at_9) (fun _ _ => ⟨rfl, e0, (by decide : 0 + 0 ≤ _), (by decide : 0 + 0 ≤ _)⟩)
    dsimp only [Pt.U, Pt.locs, Pt.cells, Pt.slots] at X9 l9 y9 z9 st9 hQ9
    subst l9 y9 z9
    obtain ⟨rfl, Nq9, P10⟩ := hQ9
    have N9 := Fr.app N0 Nq9
    refine own_G.step (T' := T9) (g' := (mkF m 12 #[.val (.int i0), .val (.int (2 : Int32)), .unset, .unset] [(.ref (own_pick (2 : Int32) w0 w1 w2 w3 w4 w5 w6 w7 w8 w9))])) (fun tq_ kq_ => st9 _ kq_) ?_
    have hp : own_pick (2 : Int32) w0 w1 w2 w3 w4 w5 w6 w7 w8 w9 = w2 := by simp [own_pick]
    refine own_G.cast (g' := (mkF m 12 #[.val (.int i0), .val (.int (2 : Int32)), .unset, .unset] [(.ref w2)])) (by rw [hp]) ?_
    refine own_G.step (g' := (mkF m 13 #[.val (.int i0), .val (.int (2 : Int32)), .val (.ref w2), .unset] [])) (fun tq_ kq_ => XS.astoreN X9.here hx rfl (hb hby at_12) rfl rfl (l' := #[.val (.int i0), .val (.int (2 : Int32)), .val (.ref w2), .unset]) rfl kq_) ?_
    refine own_G.step (g' := (mkF m 14 #[.val (.int i0), .val (.int (2 : Int32)), .val (.ref w2), .unset] [(.int (2 : Int32))])) (fun tq_ kq_ => XS.iloadN X9.here hx rfl (hb hby at_13) rfl kq_) ?_
    have hc14 : ¬ ((2 : Int32) = (0 : Int32)) := (by decide)
    refine own_G.step (g' := (mkF m 17 #[.val (.int i0), .val (.int (2 : Int32)), .val (.ref w2), .unset] [])) (fun tq_ kq_ => XS.ifNo X9.here hx rfl (hb hby at_14) rfl ((if0 _ _).trans (feq hc14).1) kq_) ?_
    refine own_G.step (g' := (mkF m 18 #[.val (.int i0), .val (.int (2 : Int32)), .val (.ref w2), .unset] [(.int (2 : Int32))])) (fun tq_ kq_ => XS.iloadN X9.here hx rfl (hb hby at_17) rfl kq_) ?_
    refine own_G.step (g' := (mkF m 19 #[.val (.int i0), .val (.int (2 : Int32)), .val (.ref w2), .unset] [(.int (2 : Int32)), (.int (2 : Int32))])) (fun tq_ kq_ => XS.iconst X9.here hx rfl (hb hby at_18) kq_) ?_
    have hc19 : (2 : Int32) = (2 : Int32) := (by decide)
    refine own_G.step (g' := (mkF m 32 #[.val (.int i0), .val (.int (2 : Int32)), .val (.ref w2), .unset] [])) (fun tq_ kq_ => XS.icmpYes X9.here hx rfl (pc0 := 19) (pc' := 32) rfl (hb hby at_19) rfl (teq hc19).1 (by decide) (by decide) kq_) ?_
    refine own_G.step (g' := (mkF m 33 #[.val (.int i0), .val (.int (2 : Int32)), .val (.ref w2), .unset] [(.int (1 : Int32))])) (fun tq_ kq_ => XS.iconst X9.here hx rfl (hb hby at_32) kq_) ?_
    refine own_G.step (g' := (mkF m 37 #[.val (.int i0), .val (.int (2 : Int32)), .val (.ref w2), .unset] [(.int (1 : Int32))])) (fun tq_ kq_ => XS.goto X9.here hx rfl (pc0 := 33) (pc' := 37) rfl (hb hby at_33) (by decide) (by decide) kq_) ?_
    refine own_G.step (g' := (mkF m 38 #[.val (.int i0), .val (.int (2 : Int32)), .val (.ref w2), .val (.int (1 : Int32))] [])) (fun tq_ kq_ => XS.istoreN X9.here hx rfl (hb hby at_37) rfl (l' := #[.val (.int i0), .val (.int (2 : Int32)), .val (.ref w2), .val (.int (1 : Int32))]) rfl kq_) ?_
    refine own_G.step (g' := (mkF m 39 #[.val (.int i0), .val (.int (2 : Int32)), .val (.ref w2), .val (.int (1 : Int32))] [(.ref w2)])) (fun tq_ kq_ => XS.aloadN X9.here hx rfl (hb hby at_38) rfl rfl kq_) ?_
    obtain ⟨cq11, kq11, q11a, q11b, q11c⟩ := isOf hZ P10 (Exa.ext O0.2 E_REPLACED)
    obtain ⟨_, _, ⟨T11, L11, k11, n11⟩, -, X11, ⟨Lc11, hQ11, l11, y11, z11⟩, st11⟩ := X9.virtualBack hx (y := (⟨"com/example/termflow/termflow/pull/Status", "changesStore", "()Z"⟩ : MethodName)) (z := (⟨"com/example/termflow/termflow/pull/Status", "changesStore", "()Z"⟩ : MethodName)) hown (mvT hZ (hw _ (List.mem_of_getElem? (i := 8) rfl))) (mvT hZ (hw _ (List.mem_of_getElem? (i := 9) rfl))) (notFace_of_selects (args := #[]) (mvT hZ (hw _ (List.mem_of_getElem? (i := 11) rfl)))) (mvT hZ (hw _ (List.mem_of_getElem? (i := 11) rfl))) (mvT hZ (hw _ (List.mem_of_getElem? (i := 10) rfl))) (by decide) (backOf (W := 0) (rm_chg l Z a0 hw [] w2 w0 w1 w2 w3 w4 w5 w6 w7 w8 w9 h0 n0 O0 S_PULLED S_PRESENT S_REPLACED S_RETRACTED S_NOOP S_REFUSED S_WOULD_PULL S_WOULD_REPLACE S_WOULD_RETRACT S_MISSING) hZ (hw _ (List.mem_of_getElem? (i := 12) rfl)) (hw _ (List.mem_of_getElem? (i := 6) rfl)) (by decide) (by decide)) q11a q11c (g := (mkF m 39 #[.val (.int i0), .val (.int (2 : Int32)), .val (.ref w2), .val (.int (1 : Int32))] [(.ref w2)])) rfl (by rw [hml]; rfl) (Steps.refl _) (argsL := []) (rest := []) (lenOf pd__28_29Z rfl) rfl (by show 2 * 0 + _ ≤ _; exact Nat.le_of_eq rfl) (hb hby at_39) (fun _ _ => ⟨rfl, P10, (by decide : 0 + 0 ≤ _), (by decide : 0 + 0 ≤ _)⟩)
    dsimp only [Pt.U, Pt.locs, Pt.cells, Pt.slots] at X11 l11 y11 z11 st11 hQ11
    subst l11 y11 z11
    obtain ⟨rfl, Nq11, P12⟩ := hQ11
    have N11 := Fr.app N9 Nq11
    refine own_G.step (T' := T11) (g' := (mkF m 42 #[.val (.int i0), .val (.int (2 : Int32)), .val (.ref w2), .val (.int (1 : Int32))] [(.int (own_chg w2 w0 w2 w3 w4))])) (fun tq_ kq_ => st11.trans kq_) ?_
    have ne0 : w2 ≠ w0 := F_REPLACED_ordinal.ne F_PULLED_ordinal (by decide)
    have hg : own_chg w2 w0 w2 w3 w4 = (1 : Int32) := by simp [own_chg, ne0]
    refine own_G.cast (g' := (mkF m 42 #[.val (.int i0), .val (.int (2 : Int32)), .val (.ref w2), .val (.int (1 : Int32))] [(.int (1 : Int32))])) (by rw [hg]) ?_
    refine own_G.step (g' := (mkF m 43 #[.val (.int i0), .val (.int (2 : Int32)), .val (.ref w2), .val (.int (1 : Int32))] [(.int (1 : Int32)), (.int (1 : Int32))])) (fun tq_ kq_ => XS.iloadN X11.here hx rfl (hb hby at_42) rfl kq_) ?_
    have hc43 : (1 : Int32) = (1 : Int32) := (by decide)
    refine own_G.step (g' := (mkF m 46 #[.val (.int i0), .val (.int (2 : Int32)), .val (.ref w2), .val (.int (1 : Int32))] [])) (fun tq_ kq_ => XS.icmpNo X11.here hx rfl (hb hby at_43) rfl (teq hc43).2 kq_) ?_
    refine own_G.step (g' := (mkF m 47 #[.val (.int i0), .val (.int (2 : Int32)), .val (.ref w2), .val (.int (1 : Int32))] [(.int (1 : Int32))])) (fun tq_ kq_ => XS.iconst X11.here hx rfl (hb hby at_46) kq_) ?_
    refine own_G.step (g' := (mkF m 51 #[.val (.int i0), .val (.int (2 : Int32)), .val (.ref w2), .val (.int (1 : Int32))] [(.int (1 : Int32))])) (fun tq_ kq_ => XS.goto X11.here hx rfl (pc0 := 47) (pc' := 51) rfl (hb hby at_47) (by decide) (by decide) kq_) ?_
    exact own_ret X11 P12 (v := some (.int (1 : Int32))) (fun h => by rw [Bd.returns] at h; cases h) Bd.notSynchronized ⟨rfl, N11⟩ (by decide) (by decide) (fun fs hr => retN X11 hx (t := .boolean) Bd.returns (by simp) (hb hby at_51) hr)
  · refine own_G.step (g' := (mkF m 9 #[.val (.int i0), .val (.int (3 : Int32)), .unset, .unset] [(.int (3 : Int32))])) (fun tq_ kq_ => XS.iloadN X0.here hx rfl (hb hby at_8) rfl kq_) ?_
    obtain ⟨_, _, ⟨T13, L13, k13, n13⟩, -, X13, ⟨Lc13, hQ13, l13, y13, z13⟩, st13⟩ := Jvm.LawKit.callS X0 hx (y := (⟨"com/example/termflow/termflow/pull/StatusChangesStorePinLaw", "pick", "(I)Lcom/example/termflow/termflow/pull/Status;"⟩ : MethodName)) hown (mvT hZ (hw _ (List.mem_of_getElem? (i := 1) rfl))) (mvT hZ (hw _ (List.mem_of_getElem? (i := 2) rfl))) (mvT hZ (hw _ (List.mem_of_getElem? (i := 3) rfl))) (mvT hZ (hw _ (List.mem_of_getElem? (i := 4) rfl))) (by decide) (backOf (W := 0) (rm_pick l Z a0 hw [] (3 : Int32) w0 w1 w2 w3 w4 w5 w6 w7 w8 w9 h0 n0 O0 S_PULLED S_PRESENT S_REPLACED S_RETRACTED S_NOOP S_REFUSED S_WOULD_PULL S_WOULD_REPLACE S_WOULD_RETRACT S_MISSING) hZ (hw _ (List.mem_of_getElem? (i := 4) rfl)) (hw _ (List.mem_of_getElem? (i := 3) rfl)) (by decide) (by decide)) (g := (mkF m 9 #[.val (.int i0), .val (.int (3 : Int32)), .unset, .unset] [(.int (3 : Int32))])) rfl (by rw [hml]; rfl) (argsL := [(.int (3 : Int32))]) (rest := []) (lenOf pd__28I_29Lcom_2fexample_2ftermflow_2ftermflow_2fpull_2fStatus_3b rfl) rfl (by show 2 * 0 + _ ≤ _; exact Nat.le_of_eq rfl) (hb hby at_9) (fun _ _ => ⟨rfl, e0, (by decide : 0 + 0 ≤ _), (by decide : 0 + 0 ≤ _)⟩)
    dsimp only [Pt.U, Pt.locs, Pt.cells, Pt.slots] at X13 l13 y13 z13 st13 hQ13
    subst l13 y13 z13
    obtain ⟨rfl, Nq13, P14⟩ := hQ13
    have N13 := Fr.app N0 Nq13
    refine own_G.step (T' := T13) (g' := (mkF m 12 #[.val (.int i0), .val (.int (3 : Int32)), .unset, .unset] [(.ref (own_pick (3 : Int32) w0 w1 w2 w3 w4 w5 w6 w7 w8 w9))])) (fun tq_ kq_ => st13 _ kq_) ?_
    have hp : own_pick (3 : Int32) w0 w1 w2 w3 w4 w5 w6 w7 w8 w9 = w3 := by simp [own_pick]
    refine own_G.cast (g' := (mkF m 12 #[.val (.int i0), .val (.int (3 : Int32)), .unset, .unset] [(.ref w3)])) (by rw [hp]) ?_
    refine own_G.step (g' := (mkF m 13 #[.val (.int i0), .val (.int (3 : Int32)), .val (.ref w3), .unset] [])) (fun tq_ kq_ => XS.astoreN X13.here hx rfl (hb hby at_12) rfl rfl (l' := #[.val (.int i0), .val (.int (3 : Int32)), .val (.ref w3), .unset]) rfl kq_) ?_
    refine own_G.step (g' := (mkF m 14 #[.val (.int i0), .val (.int (3 : Int32)), .val (.ref w3), .unset] [(.int (3 : Int32))])) (fun tq_ kq_ => XS.iloadN X13.here hx rfl (hb hby at_13) rfl kq_) ?_
    have hc14 : ¬ ((3 : Int32) = (0 : Int32)) := (by decide)
    refine own_G.step (g' := (mkF m 17 #[.val (.int i0), .val (.int (3 : Int32)), .val (.ref w3), .unset] [])) (fun tq_ kq_ => XS.ifNo X13.here hx rfl (hb hby at_14) rfl ((if0 _ _).trans (feq hc14).1) kq_) ?_
    refine own_G.step (g' := (mkF m 18 #[.val (.int i0), .val (.int (3 : Int32)), .val (.ref w3), .unset] [(.int (3 : Int32))])) (fun tq_ kq_ => XS.iloadN X13.here hx rfl (hb hby at_17) rfl kq_) ?_
    refine own_G.step (g' := (mkF m 19 #[.val (.int i0), .val (.int (3 : Int32)), .val (.ref w3), .unset] [(.int (2 : Int32)), (.int (3 : Int32))])) (fun tq_ kq_ => XS.iconst X13.here hx rfl (hb hby at_18) kq_) ?_
    have hc19 : ¬ ((3 : Int32) = (2 : Int32)) := (by decide)
    refine own_G.step (g' := (mkF m 22 #[.val (.int i0), .val (.int (3 : Int32)), .val (.ref w3), .unset] [])) (fun tq_ kq_ => XS.icmpNo X13.here hx rfl (hb hby at_19) rfl (feq hc19).1 kq_) ?_
    refine own_G.step (g' := (mkF m 23 #[.val (.int i0), .val (.int (3 : Int32)), .val (.ref w3), .unset] [(.int (3 : Int32))])) (fun tq_ kq_ => XS.iloadN X13.here hx rfl (hb hby at_22) rfl kq_) ?_
    refine own_G.step (g' := (mkF m 24 #[.val (.int i0), .val (.int (3 : Int32)), .val (.ref w3), .unset] [(.int (3 : Int32)), (.int (3 : Int32))])) (fun tq_ kq_ => XS.iconst X13.here hx rfl (hb hby at_23) kq_) ?_
    have hc24 : (3 : Int32) = (3 : Int32) := (by decide)
    refine own_G.step (g' := (mkF m 32 #[.val (.int i0), .val (.int (3 : Int32)), .val (.ref w3), .unset] [])) (fun tq_ kq_ => XS.icmpYes X13.here hx rfl (pc0 := 24) (pc' := 32) rfl (hb hby at_24) rfl (teq hc24).1 (by decide) (by decide) kq_) ?_
    refine own_G.step (g' := (mkF m 33 #[.val (.int i0), .val (.int (3 : Int32)), .val (.ref w3), .unset] [(.int (1 : Int32))])) (fun tq_ kq_ => XS.iconst X13.here hx rfl (hb hby at_32) kq_) ?_
    refine own_G.step (g' := (mkF m 37 #[.val (.int i0), .val (.int (3 : Int32)), .val (.ref w3), .unset] [(.int (1 : Int32))])) (fun tq_ kq_ => XS.goto X13.here hx rfl (pc0 := 33) (pc' := 37) rfl (hb hby at_33) (by decide) (by decide) kq_) ?_
    refine own_G.step (g' := (mkF m 38 #[.val (.int i0), .val (.int (3 : Int32)), .val (.ref w3), .val (.int (1 : Int32))] [])) (fun tq_ kq_ => XS.istoreN X13.here hx rfl (hb hby at_37) rfl (l' := #[.val (.int i0), .val (.int (3 : Int32)), .val (.ref w3), .val (.int (1 : Int32))]) rfl kq_) ?_
    refine own_G.step (g' := (mkF m 39 #[.val (.int i0), .val (.int (3 : Int32)), .val (.ref w3), .val (.int (1 : Int32))] [(.ref w3)])) (fun tq_ kq_ => XS.aloadN X13.here hx rfl (hb hby at_38) rfl rfl kq_) ?_
    obtain ⟨cq15, kq15, q15a, q15b, q15c⟩ := isOf hZ P14 (Exa.ext O0.2 E_RETRACTED)
    obtain ⟨_, _, ⟨T15, L15, k15, n15⟩, -, X15, ⟨Lc15, hQ15, l15, y15, z15⟩, st15⟩ := X13.virtualBack hx (y := (⟨"com/example/termflow/termflow/pull/Status", "changesStore", "()Z"⟩ : MethodName)) (z := (⟨"com/example/termflow/termflow/pull/Status", "changesStore", "()Z"⟩ : MethodName)) hown (mvT hZ (hw _ (List.mem_of_getElem? (i := 8) rfl))) (mvT hZ (hw _ (List.mem_of_getElem? (i := 9) rfl))) (notFace_of_selects (args := #[]) (mvT hZ (hw _ (List.mem_of_getElem? (i := 11) rfl)))) (mvT hZ (hw _ (List.mem_of_getElem? (i := 11) rfl))) (mvT hZ (hw _ (List.mem_of_getElem? (i := 10) rfl))) (by decide) (backOf (W := 0) (rm_chg l Z a0 hw [] w3 w0 w1 w2 w3 w4 w5 w6 w7 w8 w9 h0 n0 O0 S_PULLED S_PRESENT S_REPLACED S_RETRACTED S_NOOP S_REFUSED S_WOULD_PULL S_WOULD_REPLACE S_WOULD_RETRACT S_MISSING) hZ (hw _ (List.mem_of_getElem? (i := 12) rfl)) (hw _ (List.mem_of_getElem? (i := 6) rfl)) (by decide) (by decide)) q15a q15c (g := (mkF m 39 #[.val (.int i0), .val (.int (3 : Int32)), .val (.ref w3), .val (.int (1 : Int32))] [(.ref w3)])) rfl (by rw [hml]; rfl) (Steps.refl _) (argsL := []) (rest := []) (lenOf pd__28_29Z rfl) rfl (by show 2 * 0 + _ ≤ _; exact Nat.le_of_eq rfl) (hb hby at_39) (fun _ _ => ⟨rfl, P14, (by decide : 0 + 0 ≤ _), (by decide : 0 + 0 ≤ _)⟩)
    dsimp only [Pt.U, Pt.locs, Pt.cells, Pt.slots] at X15 l15 y15 z15 st15 hQ15
    subst l15 y15 z15
    obtain ⟨rfl, Nq15, P16⟩ := hQ15
    have N15 := Fr.app N13 Nq15
    refine own_G.step (T' := T15) (g' := (mkF m 42 #[.val (.int i0), .val (.int (3 : Int32)), .val (.ref w3), .val (.int (1 : Int32))] [(.int (own_chg w3 w0 w2 w3 w4))])) (fun tq_ kq_ => st15.trans kq_) ?_
    have ne0 : w3 ≠ w0 := F_RETRACTED_ordinal.ne F_PULLED_ordinal (by decide)
    have ne2 : w3 ≠ w2 := F_RETRACTED_ordinal.ne F_REPLACED_ordinal (by decide)
    have hg : own_chg w3 w0 w2 w3 w4 = (1 : Int32) := by simp [own_chg, ne0, ne2]
    refine own_G.cast (g' := (mkF m 42 #[.val (.int i0), .val (.int (3 : Int32)), .val (.ref w3), .val (.int (1 : Int32))] [(.int (1 : Int32))])) (by rw [hg]) ?_
    refine own_G.step (g' := (mkF m 43 #[.val (.int i0), .val (.int (3 : Int32)), .val (.ref w3), .val (.int (1 : Int32))] [(.int (1 : Int32)), (.int (1 : Int32))])) (fun tq_ kq_ => XS.iloadN X15.here hx rfl (hb hby at_42) rfl kq_) ?_
    have hc43 : (1 : Int32) = (1 : Int32) := (by decide)
    refine own_G.step (g' := (mkF m 46 #[.val (.int i0), .val (.int (3 : Int32)), .val (.ref w3), .val (.int (1 : Int32))] [])) (fun tq_ kq_ => XS.icmpNo X15.here hx rfl (hb hby at_43) rfl (teq hc43).2 kq_) ?_
    refine own_G.step (g' := (mkF m 47 #[.val (.int i0), .val (.int (3 : Int32)), .val (.ref w3), .val (.int (1 : Int32))] [(.int (1 : Int32))])) (fun tq_ kq_ => XS.iconst X15.here hx rfl (hb hby at_46) kq_) ?_
    refine own_G.step (g' := (mkF m 51 #[.val (.int i0), .val (.int (3 : Int32)), .val (.ref w3), .val (.int (1 : Int32))] [(.int (1 : Int32))])) (fun tq_ kq_ => XS.goto X15.here hx rfl (pc0 := 47) (pc' := 51) rfl (hb hby at_47) (by decide) (by decide) kq_) ?_
    exact own_ret X15 P16 (v := some (.int (1 : Int32))) (fun h => by rw [Bd.returns] at h; cases h) Bd.notSynchronized ⟨rfl, N15⟩ (by decide) (by decide) (fun fs hr => retN X15 hx (t := .boolean) Bd.returns (by simp) (hb hby at_51) hr)
  · refine own_G.step (g' := (mkF m 9 #[.val (.int i0), .val (.int (4 : Int32)), .unset, .unset] [(.int (4 : Int32))])) (fun tq_ kq_ => XS.iloadN X0.here hx rfl (hb hby at_8) rfl kq_) ?_
    obtain ⟨_, _, ⟨T17, L17, k17, n17⟩, -, X17, ⟨Lc17, hQ17, l17, y17, z17⟩, st17⟩ := Jvm.LawKit.callS X0 hx (y := (⟨"com/example/termflow/termflow/pull/StatusChangesStorePinLaw", "pick", "(I)Lcom/example/termflow/termflow/pull/Status;"⟩ : MethodName)) hown (mvT hZ (hw _ (List.mem_of_getElem? (i := 1) rfl))) (mvT hZ (hw _ (List.mem_of_getElem? (i := 2) rfl))) (mvT hZ (hw _ (List.mem_of_getElem? (i := 3) rfl))) (mvT hZ (hw _ (List.mem_of_getElem? (i := 4) rfl))) (by decide) (backOf (W := 0) (rm_pick l Z a0 hw [] (4 : Int32) w0 w1 w2 w3 w4 w5 w6 w7 w8 w9 h0 n0 O0 S_PULLED S_PRESENT S_REPLACED S_RETRACTED S_NOOP S_REFUSED S_WOULD_PULL S_WOULD_REPLACE S_WOULD_RETRACT S_MISSING) hZ (hw _ (List.mem_of_getElem? (i := 4) rfl)) (hw _ (List.mem_of_getElem? (i := 3) rfl)) (by decide) (by decide)) (g := (mkF m 9 #[.val (.int i0), .val (.int (4 : Int32)), .unset, .unset] [(.int (4 : Int32))])) rfl (by rw [hml]; rfl) (argsL := [(.int (4 : Int32))]) (rest := []) (lenOf pd__28I_29Lcom_2fexample_2ftermflow_2ftermflow_2fpull_2fStatus_3b rfl) rfl (by show 2 * 0 + _ ≤ _; exact Nat.le_of_eq rfl) (hb hby at_9) (fun _ _ => ⟨rfl, e0, (by decide : 0 + 0 ≤ _), (by decide : 0 + 0 ≤ _)⟩)
    dsimp only [Pt.U, Pt.locs, Pt.cells, Pt.slots] at X17 l17 y17 z17 st17 hQ17
    subst l17 y17 z17
    obtain ⟨rfl, Nq17, P18⟩ := hQ17
    have N17 := Fr.app N0 Nq17
    refine own_G.step (T' := T17) (g' := (mkF m 12 #[.val (.int i0), .val (.int (4 : Int32)), .unset, .unset] [(.ref (own_pick (4 : Int32) w0 w1 w2 w3 w4 w5 w6 w7 w8 w9))])) (fun tq_ kq_ => st17 _ kq_) ?_
    have hp : own_pick (4 : Int32) w0 w1 w2 w3 w4 w5 w6 w7 w8 w9 = w4 := by simp [own_pick]
    refine own_G.cast (g' := (mkF m 12 #[.val (.int i0), .val (.int (4 : Int32)), .unset, .unset] [(.ref w4)])) (by rw [hp]) ?_
    refine own_G.step (g' := (mkF m 13 #[.val (.int i0), .val (.int (4 : Int32)), .val (.ref w4), .unset] [])) (fun tq_ kq_ => XS.astoreN X17.here hx rfl (hb hby at_12) rfl rfl (l' := #[.val (.int i0), .val (.int (4 : Int32)), .val (.ref w4), .unset]) rfl kq_) ?_
    refine own_G.step (g' := (mkF m 14 #[.val (.int i0), .val (.int (4 : Int32)), .val (.ref w4), .unset] [(.int (4 : Int32))])) (fun tq_ kq_ => XS.iloadN X17.here hx rfl (hb hby at_13) rfl kq_) ?_
    have hc14 : ¬ ((4 : Int32) = (0 : Int32)) := (by decide)
    refine own_G.step (g' := (mkF m 17 #[.val (.int i0), .val (.int (4 : Int32)), .val (.ref w4), .unset] [])) (fun tq_ kq_ => XS.ifNo X17.here hx rfl (hb hby at_14) rfl ((if0 _ _).trans (feq hc14).1) kq_) ?_
    refine own_G.step (g' := (mkF m 18 #[.val (.int i0), .val (.int (4 : Int32)), .val (.ref w4), .unset] [(.int (4 : Int32))])) (fun tq_ kq_ => XS.iloadN X17.here hx rfl (hb hby at_17) rfl kq_) ?_
    refine own_G.step (g' := (mkF m 19 #[.val (.int i0), .val (.int (4 : Int32)), .val (.ref w4), .unset] [(.int (2 : Int32)), (.int (4 : Int32))])) (fun tq_ kq_ => XS.iconst X17.here hx rfl (hb hby at_18) kq_) ?_
    have hc19 : ¬ ((4 : Int32) = (2 : Int32)) := (by decide)
    refine own_G.step (g' := (mkF m 22 #[.val (.int i0), .val (.int (4 : Int32)), .val (.ref w4), .unset] [])) (fun tq_ kq_ => XS.icmpNo X17.here hx rfl (hb hby at_19) rfl (feq hc19).1 kq_) ?_
    refine own_G.step (g' := (mkF m 23 #[.val (.int i0), .val (.int (4 : Int32)), .val (.ref w4), .unset] [(.int (4 : Int32))])) (fun tq_ kq_ => XS.iloadN X17.here hx rfl (hb hby at_22) rfl kq_) ?_
    refine own_G.step (g' := (mkF m 24 #[.val (.int i0), .val (.int (4 : Int32)), .val (.ref w4), .unset] [(.int (3 : Int32)), (.int (4 : Int32))])) (fun tq_ kq_ => XS.iconst X17.here hx rfl (hb hby at_23) kq_) ?_
    have hc24 : ¬ ((4 : Int32) = (3 : Int32)) := (by decide)
    refine own_G.step (g' := (mkF m 27 #[.val (.int i0), .val (.int (4 : Int32)), .val (.ref w4), .unset] [])) (fun tq_ kq_ => XS.icmpNo X17.here hx rfl (hb hby at_24) rfl (feq hc24).1 kq_) ?_
    refine own_G.step (g' := (mkF m 28 #[.val (.int i0), .val (.int (4 : Int32)), .val (.ref w4), .unset] [(.int (4 : Int32))])) (fun tq_ kq_ => XS.iloadN X17.here hx rfl (hb hby at_27) rfl kq_) ?_
    refine own_G.step (g' := (mkF m 29 #[.val (.int i0), .val (.int (4 : Int32)), .val (.ref w4), .unset] [(.int (4 : Int32)), (.int (4 : Int32))])) (fun tq_ kq_ => XS.iconst X17.here hx rfl (hb hby at_28) kq_) ?_
    have hc29 : (4 : Int32) = (4 : Int32) := (by decide)
    refine own_G.step (g' := (mkF m 32 #[.val (.int i0), .val (.int (4 : Int32)), .val (.ref w4), .unset] [])) (fun tq_ kq_ => XS.icmpNo X17.here hx rfl (hb hby at_29) rfl (teq hc29).2 kq_) ?_
    refine own_G.step (g' := (mkF m 33 #[.val (.int i0), .val (.int (4 : Int32)), .val (.ref w4), .unset] [(.int (1 : Int32))])) (fun tq_ kq_ => XS.iconst X17.here hx rfl (hb hby at_32) kq_) ?_
    refine own_G.step (g' := (mkF m 37 #[.val (.int i0), .val (.int (4 : Int32)), .val (.ref w4), .unset] [(.int (1 : Int32))])) (fun tq_ kq_ => XS.goto X17.here hx rfl (pc0 := 33) (pc' := 37) rfl (hb hby at_33) (by decide) (by decide) kq_) ?_
    refine own_G.step (g' := (mkF m 38 #[.val (.int i0), .val (.int (4 : Int32)), .val (.ref w4), .val (.int (1 : Int32))] [])) (fun tq_ kq_ => XS.istoreN X17.here hx rfl (hb hby at_37) rfl (l' := #[.val (.int i0), .val (.int (4 : Int32)), .val (.ref w4), .val (.int (1 : Int32))]) rfl kq_) ?_
    refine own_G.step (g' := (mkF m 39 #[.val (.int i0), .val (.int (4 : Int32)), .val (.ref w4), .val (.int (1 : Int32))] [(.ref w4)])) (fun tq_ kq_ => XS.aloadN X17.here hx rfl (hb hby at_38) rfl rfl kq_) ?_
    obtain ⟨cq19, kq19, q19a, q19b, q19c⟩ := isOf hZ P18 (Exa.ext O0.2 E_NOOP)
    obtain ⟨_, _, ⟨T19, L19, k19, n19⟩, -, X19, ⟨Lc19, hQ19, l19, y19, z19⟩, st19⟩ := X17.virtualBack hx (y := (⟨"com/example/termflow/termflow/pull/Status", "changesStore", "()Z"⟩ : MethodName)) (z := (⟨"com/example/termflow/termflow/pull/Status", "changesStore", "()Z"⟩ : MethodName)) hown (mvT hZ (hw _ (List.mem_of_getElem? (i := 8) rfl))) (mvT hZ (hw _ (List.mem_of_getElem? (i := 9) rfl))) (notFace_of_selects (args := #[]) (mvT hZ (hw _ (List.mem_of_getElem? (i := 11) rfl)))) (mvT hZ (hw _ (List.mem_of_getElem? (i := 11) rfl))) (mvT hZ (hw _ (List.mem_of_getElem? (i := 10) rfl))) (by decide) (backOf (W := 0) (rm_chg l Z a0 hw [] w4 w0 w1 w2 w3 w4 w5 w6 w7 w8 w9 h0 n0 O0 S_PULLED S_PRESENT S_REPLACED S_RETRACTED S_NOOP S_REFUSED S_WOULD_PULL S_WOULD_REPLACE S_WOULD_RETRACT S_MISSING) hZ (hw _ (List.mem_of_getElem? (i := 12) rfl)) (hw _ (List.mem_of_getElem? (i := 6) rfl)) (by decide) (by decide)) q19a q19c (g := (mkF m 39 #[.val (.int i0), .val (.int (4 : Int32)), .val (.ref w4), .val (.int (1 : Int32))] [(.ref w4)])) rfl (by rw [hml]; rfl) (Steps.refl _) (argsL := []) (rest := []) (lenOf pd__28_29Z rfl) rfl (by show 2 * 0 + _ ≤ _; exact Nat.le_of_eq rfl) (hb hby at_39) (fun _ _ => ⟨rfl, P18, (by decide : 0 + 0 ≤ _), (by decide : 0 + 0 ≤ _)⟩)
    dsimp only [Pt.U, Pt.locs, Pt.cells, Pt.slots] at X19 l19 y19 z19 st19 hQ19
    subst l19 y19 z19
    obtain ⟨rfl, Nq19, P20⟩ := hQ19
    have N19 := Fr.app N17 Nq19
    refine own_G.step (T' := T19) (g' := (mkF m 42 #[.val (.int i0), .val (.int (4 : Int32)), .val (.ref w4), .val (.int (1 : Int32))] [(.int (own_chg w4 w0 w2 w3 w4))])) (fun tq_ kq_ => st19.trans kq_) ?_
    have ne0 : w4 ≠ w0 := F_NOOP_ordinal.ne F_PULLED_ordinal (by decide)
    have ne2 : w4 ≠ w2 := F_NOOP_ordinal.ne F_REPLACED_ordinal (by decide)
    have ne3 : w4 ≠ w3 := F_NOOP_ordinal.ne F_RETRACTED_ordinal (by decide)
    have hg : own_chg w4 w0 w2 w3 w4 = (1 : Int32) := by simp [own_chg, ne0, ne2, ne3]
    refine own_G.cast (g' := (mkF m 42 #[.val (.int i0), .val (.int (4 : Int32)), .val (.ref w4), .val (.int (1 : Int32))] [(.int (1 : Int32))])) (by rw [hg]) ?_
    refine own_G.step (g' := (mkF m 43 #[.val (.int i0), .val (.int (4 : Int32)), .val (.ref w4), .val (.int (1 : Int32))] [(.int (1 : Int32)), (.int (1 : Int32))])) (fun tq_ kq_ => XS.iloadN X19.here hx rfl (hb hby at_42) rfl kq_) ?_
    have hc43 : (1 : Int32) = (1 : Int32) := (by decide)
    refine own_G.step (g' := (mkF m 46 #[.val (.int i0), .val (.int (4 : Int32)), .val (.ref w4), .val (.int (1 : Int32))] [])) (fun tq_ kq_ => XS.icmpNo X19.here hx rfl (hb hby at_43) rfl (teq hc43).2 kq_) ?_
    refine own_G.step (g' := (mkF m 47 #[.val (.int i0), .val (.int (4 : Int32)), .val (.ref w4), .val (.int (1 : Int32))] [(.int (1 : Int32))])) (fun tq_ kq_ => XS.iconst X19.here hx rfl (hb hby at_46) kq_) ?_
    refine own_G.step (g' := (mkF m 51 #[.val (.int i0), .val (.int (4 : Int32)), .val (.ref w4), .val (.int (1 : Int32))] [(.int (1 : Int32))])) (fun tq_ kq_ => XS.goto X19.here hx rfl (pc0 := 47) (pc' := 51) rfl (hb hby at_47) (by decide) (by decide) kq_) ?_
    exact own_ret X19 P20 (v := some (.int (1 : Int32))) (fun h => by rw [Bd.returns] at h; cases h) Bd.notSynchronized ⟨rfl, N19⟩ (by decide) (by decide) (fun fs hr => retN X19 hx (t := .boolean) Bd.returns (by simp) (hb hby at_51) hr)
  · refine own_G.step (g' := (mkF m 9 #[.val (.int i0), .val (.int (5 : Int32)), .unset, .unset] [(.int (5 : Int32))])) (fun tq_ kq_ => XS.iloadN X0.here hx rfl (hb hby at_8) rfl kq_) ?_
    obtain ⟨_, _, ⟨T21, L21, k21, n21⟩, -, X21, ⟨Lc21, hQ21, l21, y21, z21⟩, st21⟩ := Jvm.LawKit.callS X0 hx (y := (⟨"com/example/termflow/termflow/pull/StatusChangesStorePinLaw", "pick", "(I)Lcom/example/termflow/termflow/pull/Status;"⟩ : MethodName)) hown (mvT hZ (hw _ (List.mem_of_getElem? (i := 1) rfl))) (mvT hZ (hw _ (List.mem_of_getElem? (i := 2) rfl))) (mvT hZ (hw _ (List.mem_of_getElem? (i := 3) rfl))) (mvT hZ (hw _ (List.mem_of_getElem? (i := 4) rfl))) (by decide) (backOf (W := 0) (rm_pick l Z a0 hw [] (5 : Int32) w0 w1 w2 w3 w4 w5 w6 w7 w8 w9 h0 n0 O0 S_PULLED S_PRESENT S_REPLACED S_RETRACTED S_NOOP S_REFUSED S_WOULD_PULL S_WOULD_REPLACE S_WOULD_RETRACT S_MISSING) hZ (hw _ (List.mem_of_getElem? (i := 4) rfl)) (hw _ (List.mem_of_getElem? (i := 3) rfl)) (by decide) (by decide)) (g := (mkF m 9 #[.val (.int i0), .val (.int (5 : Int32)), .unset, .unset] [(.int (5 : Int32))])) rfl (by rw [hml]; rfl) (argsL := [(.int (5 : Int32))]) (rest := []) (lenOf pd__28I_29Lcom_2fexample_2ftermflow_2ftermflow_2fpull_2fStatus_3b rfl) rfl (by show 2 * 0 + _ ≤ _; exact Nat.le_of_eq rfl) (hb hby at_9) (fun _ _ => ⟨rfl, e0, (by decide : 0 + 0 ≤ _), (by decide : 0 + 0 ≤ _)⟩)
    dsimp only [Pt.U, Pt.locs, Pt.cells, Pt.slots] at X21 l21 y21 z21 st21 hQ21
    subst l21 y21 z21
    obtain ⟨rfl, Nq21, P22⟩ := hQ21
    have N21 := Fr.app N0 Nq21
    refine own_G.step (T' := T21) (g' := (mkF m 12 #[.val (.int i0), .val (.int (5 : Int32)), .unset, .unset] [(.ref (own_pick (5 : Int32) w0 w1 w2 w3 w4 w5 w6 w7 w8 w9))])) (fun tq_ kq_ => st21 _ kq_) ?_
    have hp : own_pick (5 : Int32) w0 w1 w2 w3 w4 w5 w6 w7 w8 w9 = w5 := by simp [own_pick]
    refine own_G.cast (g' := (mkF m 12 #[.val (.int i0), .val (.int (5 : Int32)), .unset, .unset] [(.ref w5)])) (by rw [hp]) ?_
    refine own_G.step (g' := (mkF m 13 #[.val (.int i0), .val (.int (5 : Int32)), .val (.ref w5), .unset] [])) (fun tq_ kq_ => XS.astoreN X21.here hx rfl (hb hby at_12) rfl rfl (l' := #[.val (.int i0), .val (.int (5 : Int32)), .val (.ref w5), .unset]) rfl kq_) ?_
    refine own_G.step (g' := (mkF m 14 #[.val (.int i0), .val (.int (5 : Int32)), .val (.ref w5), .unset] [(.int (5 : Int32))])) (fun tq_ kq_ => XS.iloadN X21.here hx rfl (hb hby at_13) rfl kq_) ?_
    have hc14 : ¬ ((5 : Int32) = (0 : Int32)) := (by decide)
    refine own_G.step (g' := (mkF m 17 #[.val (.int i0), .val (.int (5 : Int32)), .val (.ref w5), .unset] [])) (fun tq_ kq_ => XS.ifNo X21.here hx rfl (hb hby at_14) rfl ((if0 _ _).trans (feq hc14).1) kq_) ?_
    refine own_G.step (g' := (mkF m 18 #[.val (.int i0), .val (.int (5 : Int32)), .val (.ref w5), .unset] [(.int (5 : Int32))])) (fun tq_ kq_ => XS.iloadN X21.here hx rfl (hb hby at_17) rfl kq_) ?_
    refine own_G.step (g' := (mkF m 19 #[.val (.int i0), .val (.int (5 : Int32)), .val (.ref w5), .unset] [(.int (2 : Int32)), (.int (5 : Int32))])) (fun tq_ kq_ => XS.iconst X21.here hx rfl (hb hby at_18) kq_) ?_
    have hc19 : ¬ ((5 : Int32) = (2 : Int32)) := (by decide)
    refine own_G.step (g' := (mkF m 22 #[.val (.int i0), .val (.int (5 : Int32)), .val (.ref w5), .unset] [])) (fun tq_ kq_ => XS.icmpNo X21.here hx rfl (hb hby at_19) rfl (feq hc19).1 kq_) ?_
    refine own_G.step (g' := (mkF m 23 #[.val (.int i0), .val (.int (5 : Int32)), .val (.ref w5), .unset] [(.int (5 : Int32))])) (fun tq_ kq_ => XS.iloadN X21.here hx rfl (hb hby at_22) rfl kq_) ?_
    refine own_G.step (g' := (mkF m 24 #[.val (.int i0), .val (.int (5 : Int32)), .val (.ref w5), .unset] [(.int (3 : Int32)), (.int (5 : Int32))])) (fun tq_ kq_ => XS.iconst X21.here hx rfl (hb hby at_23) kq_) ?_
    have hc24 : ¬ ((5 : Int32) = (3 : Int32)) := (by decide)
    refine own_G.step (g' := (mkF m 27 #[.val (.int i0), .val (.int (5 : Int32)), .val (.ref w5), .unset] [])) (fun tq_ kq_ => XS.icmpNo X21.here hx rfl (hb hby at_24) rfl (feq hc24).1 kq_) ?_
    refine own_G.step (g' := (mkF m 28 #[.val (.int i0), .val (.int (5 : Int32)), .val (.ref w5), .unset] [(.int (5 : Int32))])) (fun tq_ kq_ => XS.iloadN X21.here hx rfl (hb hby at_27) rfl kq_) ?_
    refine own_G.step (g' := (mkF m 29 #[.val (.int i0), .val (.int (5 : Int32)), .val (.ref w5), .unset] [(.int (4 : Int32)), (.int (5 : Int32))])) (fun tq_ kq_ => XS.iconst X21.here hx rfl (hb hby at_28) kq_) ?_
    have hc29 : ¬ ((5 : Int32) = (4 : Int32)) := (by decide)
    refine own_G.step (g' := (mkF m 36 #[.val (.int i0), .val (.int (5 : Int32)), .val (.ref w5), .unset] [])) (fun tq_ kq_ => XS.icmpYes X21.here hx rfl (pc0 := 29) (pc' := 36) rfl (hb hby at_29) rfl (feq hc29).2 (by decide) (by decide) kq_) ?_
    refine own_G.step (g' := (mkF m 37 #[.val (.int i0), .val (.int (5 : Int32)), .val (.ref w5), .unset] [(.int (0 : Int32))])) (fun tq_ kq_ => XS.iconst X21.here hx rfl (hb hby at_36) kq_) ?_
    refine own_G.step (g' := (mkF m 38 #[.val (.int i0), .val (.int (5 : Int32)), .val (.ref w5), .val (.int (0 : Int32))] [])) (fun tq_ kq_ => XS.istoreN X21.here hx rfl (hb hby at_37) rfl (l' := #[.val (.int i0), .val (.int (5 : Int32)), .val (.ref w5), .val (.int (0 : Int32))]) rfl kq_) ?_
    refine own_G.step (g' := (mkF m 39 #[.val (.int i0), .val (.int (5 : Int32)), .val (.ref w5), .val (.int (0 : Int32))] [(.ref w5)])) (fun tq_ kq_ => XS.aloadN X21.here hx rfl (hb hby at_38) rfl rfl kq_) ?_
    obtain ⟨cq23, kq23, q23a, q23b, q23c⟩ := isOf hZ P22 (Exa.ext O0.2 E_REFUSED)
    obtain ⟨_, _, ⟨T23, L23, k23, n23⟩, -, X23, ⟨Lc23, hQ23, l23, y23, z23⟩, st23⟩ := X21.virtualBack hx (y := (⟨"com/example/termflow/termflow/pull/Status", "changesStore", "()Z"⟩ : MethodName)) (z := (⟨"com/example/termflow/termflow/pull/Status", "changesStore", "()Z"⟩ : MethodName)) hown (mvT hZ (hw _ (List.mem_of_getElem? (i := 8) rfl))) (mvT hZ (hw _ (List.mem_of_getElem? (i := 9) rfl))) (notFace_of_selects (args := #[]) (mvT hZ (hw _ (List.mem_of_getElem? (i := 11) rfl)))) (mvT hZ (hw _ (List.mem_of_getElem? (i := 11) rfl))) (mvT hZ (hw _ (List.mem_of_getElem? (i := 10) rfl))) (by decide) (backOf (W := 0) (rm_chg l Z a0 hw [] w5 w0 w1 w2 w3 w4 w5 w6 w7 w8 w9 h0 n0 O0 S_PULLED S_PRESENT S_REPLACED S_RETRACTED S_NOOP S_REFUSED S_WOULD_PULL S_WOULD_REPLACE S_WOULD_RETRACT S_MISSING) hZ (hw _ (List.mem_of_getElem? (i := 12) rfl)) (hw _ (List.mem_of_getElem? (i := 6) rfl)) (by decide) (by decide)) q23a q23c (g := (mkF m 39 #[.val (.int i0), .val (.int (5 : Int32)), .val (.ref w5), .val (.int (0 : Int32))] [(.ref w5)])) rfl (by rw [hml]; rfl) (Steps.refl _) (argsL := []) (rest := []) (lenOf pd__28_29Z rfl) rfl (by show 2 * 0 + _ ≤ _; exact Nat.le_of_eq rfl) (hb hby at_39) (fun _ _ => ⟨rfl, P22, (by decide : 0 + 0 ≤ _), (by decide : 0 + 0 ≤ _)⟩)
    dsimp only [Pt.U, Pt.locs, Pt.cells, Pt.slots] at X23 l23 y23 z23 st23 hQ23
    subst l23 y23 z23
    obtain ⟨rfl, Nq23, P24⟩ := hQ23
    have N23 := Fr.app N21 Nq23
    refine own_G.step (T' := T23) (g' := (mkF m 42 #[.val (.int i0), .val (.int (5 : Int32)), .val (.ref w5), .val (.int (0 : Int32))] [(.int (own_chg w5 w0 w2 w3 w4))])) (fun tq_ kq_ => st23.trans kq_) ?_
    have ne0 : w5 ≠ w0 := F_REFUSED_ordinal.ne F_PULLED_ordinal (by decide)
    have ne2 : w5 ≠ w2 := F_REFUSED_ordinal.ne F_REPLACED_ordinal (by decide)
    have ne3 : w5 ≠ w3 := F_REFUSED_ordinal.ne F_RETRACTED_ordinal (by decide)
    have ne4 : w5 ≠ w4 := F_REFUSED_ordinal.ne F_NOOP_ordinal (by decide)
    have hg : own_chg w5 w0 w2 w3 w4 = (0 : Int32) := by simp [own_chg, ne0, ne2, ne3, ne4]
    refine own_G.cast (g' := (mkF m 42 #[.val (.int i0), .val (.int (5 : Int32)), .val (.ref w5), .val (.int (0 : Int32))] [(.int (0 : Int32))])) (by rw [hg]) ?_
    refine own_G.step (g' := (mkF m 43 #[.val (.int i0), .val (.int (5 : Int32)), .val (.ref w5), .val (.int (0 : Int32))] [(.int (0 : Int32)), (.int (0 : Int32))])) (fun tq_ kq_ => XS.iloadN X23.here hx rfl (hb hby at_42) rfl kq_) ?_
    have hc43 : (0 : Int32) = (0 : Int32) := (by decide)
    refine own_G.step (g' := (mkF m 46 #[.val (.int i0), .val (.int (5 : Int32)), .val (.ref w5), .val (.int (0 : Int32))] [])) (fun tq_ kq_ => XS.icmpNo X23.here hx rfl (hb hby at_43) rfl (teq hc43).2 kq_) ?_
    refine own_G.step (g' := (mkF m 47 #[.val (.int i0), .val (.int (5 : Int32)), .val (.ref w5), .val (.int (0 : Int32))] [(.int (1 : Int32))])) (fun tq_ kq_ => XS.iconst X23.here hx rfl (hb hby at_46) kq_) ?_
    refine own_G.step (g' := (mkF m 51 #[.val (.int i0), .val (.int (5 : Int32)), .val (.ref w5), .val (.int (0 : Int32))] [(.int (1 : Int32))])) (fun tq_ kq_ => XS.goto X23.here hx rfl (pc0 := 47) (pc' := 51) rfl (hb hby at_47) (by decide) (by decide) kq_) ?_
    exact own_ret X23 P24 (v := some (.int (1 : Int32))) (fun h => by rw [Bd.returns] at h; cases h) Bd.notSynchronized ⟨rfl, N23⟩ (by decide) (by decide) (fun fs hr => retN X23 hx (t := .boolean) Bd.returns (by simp) (hb hby at_51) hr)
  · refine own_G.step (g' := (mkF m 9 #[.val (.int i0), .val (.int (6 : Int32)), .unset, .unset] [(.int (6 : Int32))])) (fun tq_ kq_ => XS.iloadN X0.here hx rfl (hb hby at_8) rfl kq_) ?_
    obtain ⟨_, _, ⟨T25, L25, k25, n25⟩, -, X25, ⟨Lc25, hQ25, l25, y25, z25⟩, st25⟩ := Jvm.LawKit.callS X0 hx (y := (⟨"com/example/termflow/termflow/pull/StatusChangesStorePinLaw", "pick", "(I)Lcom/example/termflow/termflow/pull/Status;"⟩ : MethodName)) hown (mvT hZ (hw _ (List.mem_of_getElem? (i := 1) rfl))) (mvT hZ (hw _ (List.mem_of_getElem? (i := 2) rfl))) (mvT hZ (hw _ (List.mem_of_getElem? (i := 3) rfl))) (mvT hZ (hw _ (List.mem_of_getElem? (i := 4) rfl))) (by decide) (backOf (W := 0) (rm_pick l Z a0 hw [] (6 : Int32) w0 w1 w2 w3 w4 w5 w6 w7 w8 w9 h0 n0 O0 S_PULLED S_PRESENT S_REPLACED S_RETRACTED S_NOOP S_REFUSED S_WOULD_PULL S_WOULD_REPLACE S_WOULD_RETRACT S_MISSING) hZ (hw _ (List.mem_of_getElem? (i := 4) rfl)) (hw _ (List.mem_of_getElem? (i := 3) rfl)) (by decide) (by decide)) (g := (mkF m 9 #[.val (.int i0), .val (.int (6 : Int32)), .unset, .unset] [(.int (6 : Int32))])) rfl (by rw [hml]; rfl) (argsL := [(.int (6 : Int32))]) (rest := []) (lenOf pd__28I_29Lcom_2fexample_2ftermflow_2ftermflow_2fpull_2fStatus_3b rfl) rfl (by show 2 * 0 + _ ≤ _; exact Nat.le_of_eq rfl) (hb hby at_9) (fun _ _ => ⟨rfl, e0, (by decide : 0 + 0 ≤ _), (by decide : 0 + 0 ≤ _)⟩)
    dsimp only [Pt.U, Pt.locs, Pt.cells, Pt.slots] at X25 l25 y25 z25 st25 hQ25
    subst l25 y25 z25
    obtain ⟨rfl, Nq25, P26⟩ := hQ25
    have N25 := Fr.app N0 Nq25
    refine own_G.step (T' := T25) (g' := (mkF m 12 #[.val (.int i0), .val (.int (6 : Int32)), .unset, .unset] [(.ref (own_pick (6 : Int32) w0 w1 w2 w3 w4 w5 w6 w7 w8 w9))])) (fun tq_ kq_ => st25 _ kq_) ?_
    have hp : own_pick (6 : Int32) w0 w1 w2 w3 w4 w5 w6 w7 w8 w9 = w6 := by simp [own_pick]
    refine own_G.cast (g' := (mkF m 12 #[.val (.int i0), .val (.int (6 : Int32)), .unset, .unset] [(.ref w6)])) (by rw [hp]) ?_
    refine own_G.step (g' := (mkF m 13 #[.val (.int i0), .val (.int (6 : Int32)), .val (.ref w6), .unset] [])) (fun tq_ kq_ => XS.astoreN X25.here hx rfl (hb hby at_12) rfl rfl (l' := #[.val (.int i0), .val (.int (6 : Int32)), .val (.ref w6), .unset]) rfl kq_) ?_
    refine own_G.step (g' := (mkF m 14 #[.val (.int i0), .val (.int (6 : Int32)), .val (.ref w6), .unset] [(.int (6 : Int32))])) (fun tq_ kq_ => XS.iloadN X25.here hx rfl (hb hby at_13) rfl kq_) ?_
    have hc14 : ¬ ((6 : Int32) = (0 : Int32)) := (by decide)
    refine own_G.step (g' := (mkF m 17 #[.val (.int i0), .val (.int (6 : Int32)), .val (.ref w6), .unset] [])) (fun tq_ kq_ => XS.ifNo X25.here hx rfl (hb hby at_14) rfl ((if0 _ _).trans (feq hc14).1) kq_) ?_
    refine own_G.step (g' := (mkF m 18 #[.val (.int i0), .val (.int (6 : Int32)), .val (.ref w6), .unset] [(.int (6 : Int32))])) (fun tq_ kq_ => XS.iloadN X25.here hx rfl (hb hby at_17) rfl kq_) ?_
    refine own_G.step (g' := (mkF m 19 #[.val (.int i0), .val (.int (6 : Int32)), .val (.ref w6), .unset] [(.int (2 : Int32)), (.int (6 : Int32))])) (fun tq_ kq_ => XS.iconst X25.here hx rfl (hb hby at_18) kq_) ?_
    have hc19 : ¬ ((6 : Int32) = (2 : Int32)) := (by decide)
    refine own_G.step (g' := (mkF m 22 #[.val (.int i0), .val (.int (6 : Int32)), .val (.ref w6), .unset] [])) (fun tq_ kq_ => XS.icmpNo X25.here hx rfl (hb hby at_19) rfl (feq hc19).1 kq_) ?_
    refine own_G.step (g' := (mkF m 23 #[.val (.int i0), .val (.int (6 : Int32)), .val (.ref w6), .unset] [(.int (6 : Int32))])) (fun tq_ kq_ => XS.iloadN X25.here hx rfl (hb hby at_22) rfl kq_) ?_
    refine own_G.step (g' := (mkF m 24 #[.val (.int i0), .val (.int (6 : Int32)), .val (.ref w6), .unset] [(.int (3 : Int32)), (.int (6 : Int32))])) (fun tq_ kq_ => XS.iconst X25.here hx rfl (hb hby at_23) kq_) ?_
    have hc24 : ¬ ((6 : Int32) = (3 : Int32)) := (by decide)
    refine own_G.step (g' := (mkF m 27 #[.val (.int i0), .val (.int (6 : Int32)), .val (.ref w6), .unset] [])) (fun tq_ kq_ => XS.icmpNo X25.here hx rfl (hb hby at_24) rfl (feq hc24).1 kq_) ?_
    refine own_G.step (g' := (mkF m 28 #[.val (.int i0), .val (.int (6 : Int32)), .val (.ref w6), .unset] [(.int (6 : Int32))])) (fun tq_ kq_ => XS.iloadN X25.here hx rfl (hb hby at_27) rfl kq_) ?_
    refine own_G.step (g' := (mkF m 29 #[.val (.int i0), .val (.int (6 : Int32)), .val (.ref w6), .unset] [(.int (4 : Int32)), (.int (6 : Int32))])) (fun tq_ kq_ => XS.iconst X25.here hx rfl (hb hby at_28) kq_) ?_
    have hc29 : ¬ ((6 : Int32) = (4 : Int32)) := (by decide)
    refine own_G.step (g' := (mkF m 36 #[.val (.int i0), .val (.int (6 : Int32)), .val (.ref w6), .unset] [])) (fun tq_ kq_ => XS.icmpYes X25.here hx rfl (pc0 := 29) (pc' := 36) rfl (hb hby at_29) rfl (feq hc29).2 (by decide) (by decide) kq_) ?_
    refine own_G.step (g' := (mkF m 37 #[.val (.int i0), .val (.int (6 : Int32)), .val (.ref w6), .unset] [(.int (0 : Int32))])) (fun tq_ kq_ => XS.iconst X25.here hx rfl (hb hby at_36) kq_) ?_
    refine own_G.step (g' := (mkF m 38 #[.val (.int i0), .val (.int (6 : Int32)), .val (.ref w6), .val (.int (0 : Int32))] [])) (fun tq_ kq_ => XS.istoreN X25.here hx rfl (hb hby at_37) rfl (l' := #[.val (.int i0), .val (.int (6 : Int32)), .val (.ref w6), .val (.int (0 : Int32))]) rfl kq_) ?_
    refine own_G.step (g' := (mkF m 39 #[.val (.int i0), .val (.int (6 : Int32)), .val (.ref w6), .val (.int (0 : Int32))] [(.ref w6)])) (fun tq_ kq_ => XS.aloadN X25.here hx rfl (hb hby at_38) rfl rfl kq_) ?_
    obtain ⟨cq27, kq27, q27a, q27b, q27c⟩ := isOf hZ P26 (Exa.ext O0.2 E_WOULD_PULL)
    obtain ⟨_, _, ⟨T27, L27, k27, n27⟩, -, X27, ⟨Lc27, hQ27, l27, y27, z27⟩, st27⟩ := X25.virtualBack hx (y := (⟨"com/example/termflow/termflow/pull/Status", "changesStore", "()Z"⟩ : MethodName)) (z := (⟨"com/example/termflow/termflow/pull/Status", "changesStore", "()Z"⟩ : MethodName)) hown (mvT hZ (hw _ (List.mem_of_getElem? (i := 8) rfl))) (mvT hZ (hw _ (List.mem_of_getElem? (i := 9) rfl))) (notFace_of_selects (args := #[]) (mvT hZ (hw _ (List.mem_of_getElem? (i := 11) rfl)))) (mvT hZ (hw _ (List.mem_of_getElem? (i := 11) rfl))) (mvT hZ (hw _ (List.mem_of_getElem? (i := 10) rfl))) (by decide) (backOf (W := 0) (rm_chg l Z a0 hw [] w6 w0 w1 w2 w3 w4 w5 w6 w7 w8 w9 h0 n0 O0 S_PULLED S_PRESENT S_REPLACED S_RETRACTED S_NOOP S_REFUSED S_WOULD_PULL S_WOULD_REPLACE S_WOULD_RETRACT S_MISSING) hZ (hw _ (List.mem_of_getElem? (i := 12) rfl)) (hw _ (List.mem_of_getElem? (i := 6) rfl)) (by decide) (by decide)) q27a q27c (g := (mkF m 39 #[.val (.int i0), .val (.int (6 : Int32)), .val (.ref w6), .val (.int (0 : Int32))] [(.ref w6)])) rfl (by rw [hml]; rfl) (Steps.refl _) (argsL := []) (rest := []) (lenOf pd__28_29Z rfl) rfl (by show 2 * 0 + _ ≤ _; exact Nat.le_of_eq rfl) (hb hby at_39) (fun _ _ => ⟨rfl, P26, (by decide : 0 + 0 ≤ _), (by decide : 0 + 0 ≤ _)⟩)
    dsimp only [Pt.U, Pt.locs, Pt.cells, Pt.slots] at X27 l27 y27 z27 st27 hQ27
    subst l27 y27 z27
    obtain ⟨rfl, Nq27, P28⟩ := hQ27
    have N27 := Fr.app N25 Nq27
    refine own_G.step (T' := T27) (g' := (mkF m 42 #[.val (.int i0), .val (.int (6 : Int32)), .val (.ref w6), .val (.int (0 : Int32))] [(.int (own_chg w6 w0 w2 w3 w4))])) (fun tq_ kq_ => st27.trans kq_) ?_
    have ne0 : w6 ≠ w0 := F_WOULD_PULL_ordinal.ne F_PULLED_ordinal (by decide)
    have ne2 : w6 ≠ w2 := F_WOULD_PULL_ordinal.ne F_REPLACED_ordinal (by decide)
    have ne3 : w6 ≠ w3 := F_WOULD_PULL_ordinal.ne F_RETRACTED_ordinal (by decide)
    have ne4 : w6 ≠ w4 := F_WOULD_PULL_ordinal.ne F_NOOP_ordinal (by decide)
    have hg : own_chg w6 w0 w2 w3 w4 = (0 : Int32) := by simp [own_chg, ne0, ne2, ne3, ne4]
    refine own_G.cast (g' := (mkF m 42 #[.val (.int i0), .val (.int (6 : Int32)), .val (.ref w6), .val (.int (0 : Int32))] [(.int (0 : Int32))])) (by rw [hg]) ?_
    refine own_G.step (g' := (mkF m 43 #[.val (.int i0), .val (.int (6 : Int32)), .val (.ref w6), .val (.int (0 : Int32))] [(.int (0 : Int32)), (.int (0 : Int32))])) (fun tq_ kq_ => XS.iloadN X27.here hx rfl (hb hby at_42) rfl kq_) ?_
    have hc43 : (0 : Int32) = (0 : Int32) := (by decide)
    refine own_G.step (g' := (mkF m 46 #[.val (.int i0), .val (.int (6 : Int32)), .val (.ref w6), .val (.int (0 : Int32))] [])) (fun tq_ kq_ => XS.icmpNo X27.here hx rfl (hb hby at_43) rfl (teq hc43).2 kq_) ?_
    refine own_G.step (g' := (mkF m 47 #[.val (.int i0), .val (.int (6 : Int32)), .val (.ref w6), .val (.int (0 : Int32))] [(.int (1 : Int32))])) (fun tq_ kq_ => XS.iconst X27.here hx rfl (hb hby at_46) kq_) ?_
    refine own_G.step (g' := (mkF m 51 #[.val (.int i0), .val (.int (6 : Int32)), .val (.ref w6), .val (.int (0 : Int32))] [(.int (1 : Int32))])) (fun tq_ kq_ => XS.goto X27.here hx rfl (pc0 := 47) (pc' := 51) rfl (hb hby at_47) (by decide) (by decide) kq_) ?_
    exact own_ret X27 P28 (v := some (.int (1 : Int32))) (fun h => by rw [Bd.returns] at h; cases h) Bd.notSynchronized ⟨rfl, N27⟩ (by decide) (by decide) (fun fs hr => retN X27 hx (t := .boolean) Bd.returns (by simp) (hb hby at_51) hr)
  · refine own_G.step (g' := (mkF m 9 #[.val (.int i0), .val (.int (7 : Int32)), .unset, .unset] [(.int (7 : Int32))])) (fun tq_ kq_ => XS.iloadN X0.here hx rfl (hb hby at_8) rfl kq_) ?_
    obtain ⟨_, _, ⟨T29, L29, k29, n29⟩, -, X29, ⟨Lc29, hQ29, l29, y29, z29⟩, st29⟩ := Jvm.LawKit.callS X0 hx (y := (⟨"com/example/termflow/termflow/pull/StatusChangesStorePinLaw", "pick", "(I)Lcom/example/termflow/termflow/pull/Status;"⟩ : MethodName)) hown (mvT hZ (hw _ (List.mem_of_getElem? (i := 1) rfl))) (mvT hZ (hw _ (List.mem_of_getElem? (i := 2) rfl))) (mvT hZ (hw _ (List.mem_of_getElem? (i := 3) rfl))) (mvT hZ (hw _ (List.mem_of_getElem? (i := 4) rfl))) (by decide) (backOf (W := 0) (rm_pick l Z a0 hw [] (7 : Int32) w0 w1 w2 w3 w4 w5 w6 w7 w8 w9 h0 n0 O0 S_PULLED S_PRESENT S_REPLACED S_RETRACTED S_NOOP S_REFUSED S_WOULD_PULL S_WOULD_REPLACE S_WOULD_RETRACT S_MISSING) hZ (hw _ (List.mem_of_getElem? (i := 4) rfl)) (hw _ (List.mem_of_getElem? (i := 3) rfl)) (by decide) (by decide)) (g := (mkF m 9 #[.val (.int i0), .val (.int (7 : Int32)), .unset, .unset] [(.int (7 : Int32))])) rfl (by rw [hml]; rfl) (argsL := [(.int (7 : Int32))]) (rest := []) (lenOf pd__28I_29Lcom_2fexample_2ftermflow_2ftermflow_2fpull_2fStatus_3b rfl) rfl (by show 2 * 0 + _ ≤ _; exact Nat.le_of_eq rfl) (hb hby at_9) (fun _ _ => ⟨rfl, e0, (by decide : 0 + 0 ≤ _), (by decide : 0 + 0 ≤ _)⟩)
    dsimp only [Pt.U, Pt.locs, Pt.cells, Pt.slots] at X29 l29 y29 z29 st29 hQ29
    subst l29 y29 z29
    obtain ⟨rfl, Nq29, P30⟩ := hQ29
    have N29 := Fr.app N0 Nq29
    refine own_G.step (T' := T29) (g' := (mkF m 12 #[.val (.int i0), .val (.int (7 : Int32)), .unset, .unset] [(.ref (own_pick (7 : Int32) w0 w1 w2 w3 w4 w5 w6 w7 w8 w9))])) (fun tq_ kq_ => st29 _ kq_) ?_
    have hp : own_pick (7 : Int32) w0 w1 w2 w3 w4 w5 w6 w7 w8 w9 = w7 := by simp [own_pick]
    refine own_G.cast (g' := (mkF m 12 #[.val (.int i0), .val (.int (7 : Int32)), .unset, .unset] [(.ref w7)])) (by rw [hp]) ?_
    refine own_G.step (g' := (mkF m 13 #[.val (.int i0), .val (.int (7 : Int32)), .val (.ref w7), .unset] [])) (fun tq_ kq_ => XS.astoreN X29.here hx rfl (hb hby at_12) rfl rfl (l' := #[.val (.int i0), .val (.int (7 : Int32)), .val (.ref w7), .unset]) rfl kq_) ?_
    refine own_G.step (g' := (mkF m 14 #[.val (.int i0), .val (.int (7 : Int32)), .val (.ref w7), .unset] [(.int (7 : Int32))])) (fun tq_ kq_ => XS.iloadN X29.here hx rfl (hb hby at_13) rfl kq_) ?_
    have hc14 : ¬ ((7 : Int32) = (0 : Int32)) := (by decide)
    refine own_G.step (g' := (mkF m 17 #[.val (.int i0), .val (.int (7 : Int32)), .val (.ref w7), .unset] [])) (fun tq_ kq_ => XS.ifNo X29.here hx rfl (hb hby at_14) rfl ((if0 _ _).trans (feq hc14).1) kq_) ?_
    refine own_G.step (g' := (mkF m 18 #[.val (.int i0), .val (.int (7 : Int32)), .val (.ref w7), .unset] [(.int (7 : Int32))])) (fun tq_ kq_ => XS.iloadN X29.here hx rfl (hb hby at_17) rfl kq_) ?_
    refine own_G.step (g' := (mkF m 19 #[.val (.int i0), .val (.int (7 : Int32)), .val (.ref w7), .unset] [(.int (2 : Int32)), (.int (7 : Int32))])) (fun tq_ kq_ => XS.iconst X29.here hx rfl (hb hby at_18) kq_) ?_
    have hc19 : ¬ ((7 : Int32) = (2 : Int32)) := (by decide)
    refine own_G.step (g' := (mkF m 22 #[.val (.int i0), .val (.int (7 : Int32)), .val (.ref w7), .unset] [])) (fun tq_ kq_ => XS.icmpNo X29.here hx rfl (hb hby at_19) rfl (feq hc19).1 kq_) ?_
    refine own_G.step (g' := (mkF m 23 #[.val (.int i0), .val (.int (7 : Int32)), .val (.ref w7), .unset] [(.int (7 : Int32))])) (fun tq_ kq_ => XS.iloadN X29.here hx rfl (hb hby at_22) rfl kq_) ?_
    refine own_G.step (g' := (mkF m 24 #[.val (.int i0), .val (.int (7 : Int32)), .val (.ref w7), .unset] [(.int (3 : Int32)), (.int (7 : Int32))])) (fun tq_ kq_ => XS.iconst X29.here hx rfl (hb hby at_23) kq_) ?_
    have hc24 : ¬ ((7 : Int32) = (3 : Int32)) := (by decide)
    refine own_G.step (g' := (mkF m 27 #[.val (.int i0), .val (.int (7 : Int32)), .val (.ref w7), .unset] [])) (fun tq_ kq_ => XS.icmpNo X29.here hx rfl (hb hby at_24) rfl (feq hc24).1 kq_) ?_
    refine own_G.step (g' := (mkF m 28 #[.val (.int i0), .val (.int (7 : Int32)), .val (.ref w7), .unset] [(.int (7 : Int32))])) (fun tq_ kq_ => XS.iloadN X29.here hx rfl (hb hby at_27) rfl kq_) ?_
    refine own_G.step (g' := (mkF m 29 #[.val (.int i0), .val (.int (7 : Int32)), .val (.ref w7), .unset] [(.int (4 : Int32)), (.int (7 : Int32))])) (fun tq_ kq_ => XS.iconst X29.here hx rfl (hb hby at_28) kq_) ?_
    have hc29 : ¬ ((7 : Int32) = (4 : Int32)) := (by decide)
    refine own_G.step (g' := (mkF m 36 #[.val (.int i0), .val (.int (7 : Int32)), .val (.ref w7), .unset] [])) (fun tq_ kq_ => XS.icmpYes X29.here hx rfl (pc0 := 29) (pc' := 36) rfl (hb hby at_29) rfl (feq hc29).2 (by decide) (by decide) kq_) ?_
    refine own_G.step (g' := (mkF m 37 #[.val (.int i0), .val (.int (7 : Int32)), .val (.ref w7), .unset] [(.int (0 : Int32))])) (fun tq_ kq_ => XS.iconst X29.here hx rfl (hb hby at_36) kq_) ?_
    refine own_G.step (g' := (mkF m 38 #[.val (.int i0), .val (.int (7 : Int32)), .val (.ref w7), .val (.int (0 : Int32))] [])) (fun tq_ kq_ => XS.istoreN X29.here hx rfl (hb hby at_37) rfl (l' := #[.val (.int i0), .val (.int (7 : Int32)), .val (.ref w7), .val (.int (0 : Int32))]) rfl kq_) ?_
    refine own_G.step (g' := (mkF m 39 #[.val (.int i0), .val (.int (7 : Int32)), .val (.ref w7), .val (.int (0 : Int32))] [(.ref w7)])) (fun tq_ kq_ => XS.aloadN X29.here hx rfl (hb hby at_38) rfl rfl kq_) ?_
    obtain ⟨cq31, kq31, q31a, q31b, q31c⟩ := isOf hZ P30 (Exa.ext O0.2 E_WOULD_REPLACE)
    obtain ⟨_, _, ⟨T31, L31, k31, n31⟩, -, X31, ⟨Lc31, hQ31, l31, y31, z31⟩, st31⟩ := X29.virtualBack hx (y := (⟨"com/example/termflow/termflow/pull/Status", "changesStore", "()Z"⟩ : MethodName)) (z := (⟨"com/example/termflow/termflow/pull/Status", "changesStore", "()Z"⟩ : MethodName)) hown (mvT hZ (hw _ (List.mem_of_getElem? (i := 8) rfl))) (mvT hZ (hw _ (List.mem_of_getElem? (i := 9) rfl))) (notFace_of_selects (args := #[]) (mvT hZ (hw _ (List.mem_of_getElem? (i := 11) rfl)))) (mvT hZ (hw _ (List.mem_of_getElem? (i := 11) rfl))) (mvT hZ (hw _ (List.mem_of_getElem? (i := 10) rfl))) (by decide) (backOf (W := 0) (rm_chg l Z a0 hw [] w7 w0 w1 w2 w3 w4 w5 w6 w7 w8 w9 h0 n0 O0 S_PULLED S_PRESENT S_REPLACED S_RETRACTED S_NOOP S_REFUSED S_WOULD_PULL S_WOULD_REPLACE S_WOULD_RETRACT S_MISSING) hZ (hw _ (List.mem_of_getElem? (i := 12) rfl)) (hw _ (List.mem_of_getElem? (i := 6) rfl)) (by decide) (by decide)) q31a q31c (g := (mkF m 39 #[.val (.int i0), .val (.int (7 : Int32)), .val (.ref w7), .val (.int (0 : Int32))] [(.ref w7)])) rfl (by rw [hml]; rfl) (Steps.refl _) (argsL := []) (rest := []) (lenOf pd__28_29Z rfl) rfl (by show 2 * 0 + _ ≤ _; exact Nat.le_of_eq rfl) (hb hby at_39) (fun _ _ => ⟨rfl, P30, (by decide : 0 + 0 ≤ _), (by decide : 0 + 0 ≤ _)⟩)
    dsimp only [Pt.U, Pt.locs, Pt.cells, Pt.slots] at X31 l31 y31 z31 st31 hQ31
    subst l31 y31 z31
    obtain ⟨rfl, Nq31, P32⟩ := hQ31
    have N31 := Fr.app N29 Nq31
    refine own_G.step (T' := T31) (g' := (mkF m 42 #[.val (.int i0), .val (.int (7 : Int32)), .val (.ref w7), .val (.int (0 : Int32))] [(.int (own_chg w7 w0 w2 w3 w4))])) (fun tq_ kq_ => st31.trans kq_) ?_
    have ne0 : w7 ≠ w0 := F_WOULD_REPLACE_ordinal.ne F_PULLED_ordinal (by decide)
    have ne2 : w7 ≠ w2 := F_WOULD_REPLACE_ordinal.ne F_REPLACED_ordinal (by decide)
    have ne3 : w7 ≠ w3 := F_WOULD_REPLACE_ordinal.ne F_RETRACTED_ordinal (by decide)
    have ne4 : w7 ≠ w4 := F_WOULD_REPLACE_ordinal.ne F_NOOP_ordinal (by decide)
    have hg : own_chg w7 w0 w2 w3 w4 = (0 : Int32) := by simp [own_chg, ne0, ne2, ne3, ne4]
    refine own_G.cast (g' := (mkF m 42 #[.val (.int i0), .val (.int (7 : Int32)), .val (.ref w7), .val (.int (0 : Int32))] [(.int (0 : Int32))])) (by rw [hg]) ?_
    refine own_G.step (g' := (mkF m 43 #[.val (.int i0), .val (.int (7 : Int32)), .val (.ref w7), .val (.int (0 : Int32))] [(.int (0 : Int32)), (.int (0 : Int32))])) (fun tq_ kq_ => XS.iloadN X31.here hx rfl (hb hby at_42) rfl kq_) ?_
    have hc43 : (0 : Int32) = (0 : Int32) := (by decide)
    refine own_G.step (g' := (mkF m 46 #[.val (.int i0), .val (.int (7 : Int32)), .val (.ref w7), .val (.int (0 : Int32))] [])) (fun tq_ kq_ => XS.icmpNo X31.here hx rfl (hb hby at_43) rfl (teq hc43).2 kq_) ?_
    refine own_G.step (g' := (mkF m 47 #[.val (.int i0), .val (.int (7 : Int32)), .val (.ref w7), .val (.int (0 : Int32))] [(.int (1 : Int32))])) (fun tq_ kq_ => XS.iconst X31.here hx rfl (hb hby at_46) kq_) ?_
    refine own_G.step (g' := (mkF m 51 #[.val (.int i0), .val (.int (7 : Int32)), .val (.ref w7), .val (.int (0 : Int32))] [(.int (1 : Int32))])) (fun tq_ kq_ => XS.goto X31.here hx rfl (pc0 := 47) (pc' := 51) rfl (hb hby at_47) (by decide) (by decide) kq_) ?_
    exact own_ret X31 P32 (v := some (.int (1 : Int32))) (fun h => by rw [Bd.returns] at h; cases h) Bd.notSynchronized ⟨rfl, N31⟩ (by decide) (by decide) (fun fs hr => retN X31 hx (t := .boolean) Bd.returns (by simp) (hb hby at_51) hr)
  · refine own_G.step (g' := (mkF m 9 #[.val (.int i0), .val (.int (8 : Int32)), .unset, .unset] [(.int (8 : Int32))])) (fun tq_ kq_ => XS.iloadN X0.here hx rfl (hb hby at_8) rfl kq_) ?_
    obtain ⟨_, _, ⟨T33, L33, k33, n33⟩, -, X33, ⟨Lc33, hQ33, l33, y33, z33⟩, st33⟩ := Jvm.LawKit.callS X0 hx (y := (⟨"com/example/termflow/termflow/pull/StatusChangesStorePinLaw", "pick", "(I)Lcom/example/termflow/termflow/pull/Status;"⟩ : MethodName)) hown (mvT hZ (hw _ (List.mem_of_getElem? (i := 1) rfl))) (mvT hZ (hw _ (List.mem_of_getElem? (i := 2) rfl))) (mvT hZ (hw _ (List.mem_of_getElem? (i := 3) rfl))) (mvT hZ (hw _ (List.mem_of_getElem? (i := 4) rfl))) (by decide) (backOf (W := 0) (rm_pick l Z a0 hw [] (8 : Int32) w0 w1 w2 w3 w4 w5 w6 w7 w8 w9 h0 n0 O0 S_PULLED S_PRESENT S_REPLACED S_RETRACTED S_NOOP S_REFUSED S_WOULD_PULL S_WOULD_REPLACE S_WOULD_RETRACT S_MISSING) hZ (hw _ (List.mem_of_getElem? (i := 4) rfl)) (hw _ (List.mem_of_getElem? (i := 3) rfl)) (by decide) (by decide)) (g := (mkF m 9 #[.val (.int i0), .val (.int (8 : Int32)), .unset, .unset] [(.int (8 : Int32))])) rfl (by rw [hml]; rfl) (argsL := [(.int (8 : Int32))]) (rest := []) (lenOf pd__28I_29Lcom_2fexample_2ftermflow_2ftermflow_2fpull_2fStatus_3b rfl) rfl (by show 2 * 0 + _ ≤ _; exact Nat.le_of_eq rfl) (hb hby at_9) (fun _ _ => ⟨rfl, e0, (by decide : 0 + 0 ≤ _), (by decide : 0 + 0 ≤ _)⟩)
    dsimp only [Pt.U, Pt.locs, Pt.cells, Pt.slots] at X33 l33 y33 z33 st33 hQ33
    subst l33 y33 z33
    obtain ⟨rfl, Nq33, P34⟩ := hQ33
    have N33 := Fr.app N0 Nq33
    refine own_G.step (T' := T33) (g' := (mkF m 12 #[.val (.int i0), .val (.int (8 : Int32)), .unset, .unset] [(.ref (own_pick (8 : Int32) w0 w1 w2 w3 w4 w5 w6 w7 w8 w9))])) (fun tq_ kq_ => st33 _ kq_) ?_
    have hp : own_pick (8 : Int32) w0 w1 w2 w3 w4 w5 w6 w7 w8 w9 = w8 := by simp [own_pick]
    refine own_G.cast (g' := (mkF m 12 #[.val (.int i0), .val (.int (8 : Int32)), .unset, .unset] [(.ref w8)])) (by rw [hp]) ?_
    refine own_G.step (g' := (mkF m 13 #[.val (.int i0), .val (.int (8 : Int32)), .val (.ref w8), .unset] [])) (fun tq_ kq_ => XS.astoreN X33.here hx rfl (hb hby at_12) rfl rfl (l' := #[.val (.int i0), .val (.int (8 : Int32)), .val (.ref w8), .unset]) rfl kq_) ?_
    refine own_G.step (g' := (mkF m 14 #[.val (.int i0), .val (.int (8 : Int32)), .val (.ref w8), .unset] [(.int (8 : Int32))])) (fun tq_ kq_ => XS.iloadN X33.here hx rfl (hb hby at_13) rfl kq_) ?_
    have hc14 : ¬ ((8 : Int32) = (0 : Int32)) := (by decide)
    refine own_G.step (g' := (mkF m 17 #[.val (.int i0), .val (.int (8 : Int32)), .val (.ref w8), .unset] [])) (fun tq_ kq_ => XS.ifNo X33.here hx rfl (hb hby at_14) rfl ((if0 _ _).trans (feq hc14).1) kq_) ?_
    refine own_G.step (g' := (mkF m 18 #[.val (.int i0), .val (.int (8 : Int32)), .val (.ref w8), .unset] [(.int (8 : Int32))])) (fun tq_ kq_ => XS.iloadN X33.here hx rfl (hb hby at_17) rfl kq_) ?_
    refine own_G.step (g' := (mkF m 19 #[.val (.int i0), .val (.int (8 : Int32)), .val (.ref w8), .unset] [(.int (2 : Int32)), (.int (8 : Int32))])) (fun tq_ kq_ => XS.iconst X33.here hx rfl (hb hby at_18) kq_) ?_
    have hc19 : ¬ ((8 : Int32) = (2 : Int32)) := (by decide)
    refine own_G.step (g' := (mkF m 22 #[.val (.int i0), .val (.int (8 : Int32)), .val (.ref w8), .unset] [])) (fun tq_ kq_ => XS.icmpNo X33.here hx rfl (hb hby at_19) rfl (feq hc19).1 kq_) ?_
    refine own_G.step (g' := (mkF m 23 #[.val (.int i0), .val (.int (8 : Int32)), .val (.ref w8), .unset] [(.int (8 : Int32))])) (fun tq_ kq_ => XS.iloadN X33.here hx rfl (hb hby at_22) rfl kq_) ?_
    refine own_G.step (g' := (mkF m 24 #[.val (.int i0), .val (.int (8 : Int32)), .val (.ref w8), .unset] [(.int (3 : Int32)), (.int (8 : Int32))])) (fun tq_ kq_ => XS.iconst X33.here hx rfl (hb hby at_23) kq_) ?_
    have hc24 : ¬ ((8 : Int32) = (3 : Int32)) := (by decide)
    refine own_G.step (g' := (mkF m 27 #[.val (.int i0), .val (.int (8 : Int32)), .val (.ref w8), .unset] [])) (fun tq_ kq_ => XS.icmpNo X33.here hx rfl (hb hby at_24) rfl (feq hc24).1 kq_) ?_
    refine own_G.step (g' := (mkF m 28 #[.val (.int i0), .val (.int (8 : Int32)), .val (.ref w8), .unset] [(.int (8 : Int32))])) (fun tq_ kq_ => XS.iloadN X33.here hx rfl (hb hby at_27) rfl kq_) ?_
    refine own_G.step (g' := (mkF m 29 #[.val (.int i0), .val (.int (8 : Int32)), .val (.ref w8), .unset] [(.int (4 : Int32)), (.int (8 : Int32))])) (fun tq_ kq_ => XS.iconst X33.here hx rfl (hb hby at_28) kq_) ?_
    have hc29 : ¬ ((8 : Int32) = (4 : Int32)) := (by decide)
    refine own_G.step (g' := (mkF m 36 #[.val (.int i0), .val (.int (8 : Int32)), .val (.ref w8), .unset] [])) (fun tq_ kq_ => XS.icmpYes X33.here hx rfl (pc0 := 29) (pc' := 36) rfl (hb hby at_29) rfl (feq hc29).2 (by decide) (by decide) kq_) ?_
    refine own_G.step (g' := (mkF m 37 #[.val (.int i0), .val (.int (8 : Int32)), .val (.ref w8), .unset] [(.int (0 : Int32))])) (fun tq_ kq_ => XS.iconst X33.here hx rfl (hb hby at_36) kq_) ?_
    refine own_G.step (g' := (mkF m 38 #[.val (.int i0), .val (.int (8 : Int32)), .val (.ref w8), .val (.int (0 : Int32))] [])) (fun tq_ kq_ => XS.istoreN X33.here hx rfl (hb hby at_37) rfl (l' := #[.val (.int i0), .val (.int (8 : Int32)), .val (.ref w8), .val (.int (0 : Int32))]) rfl kq_) ?_
    refine own_G.step (g' := (mkF m 39 #[.val (.int i0), .val (.int (8 : Int32)), .val (.ref w8), .val (.int (0 : Int32))] [(.ref w8)])) (fun tq_ kq_ => XS.aloadN X33.here hx rfl (hb hby at_38) rfl rfl kq_) ?_
    obtain ⟨cq35, kq35, q35a, q35b, q35c⟩ := isOf hZ P34 (Exa.ext O0.2 E_WOULD_RETRACT)
    obtain ⟨_, _, ⟨T35, L35, k35, n35⟩, -, X35, ⟨Lc35, hQ35, l35, y35, z35⟩, st35⟩ := X33.virtualBack hx (y := (⟨"com/example/termflow/termflow/pull/Status", "changesStore", "()Z"⟩ : MethodName)) (z := (⟨"com/example/termflow/termflow/pull/Status", "changesStore", "()Z"⟩ : MethodName)) hown (mvT hZ (hw _ (List.mem_of_getElem? (i := 8) rfl))) (mvT hZ (hw _ (List.mem_of_getElem? (i := 9) rfl))) (notFace_of_selects (args := #[]) (mvT hZ (hw _ (List.mem_of_getElem? (i := 11) rfl)))) (mvT hZ (hw _ (List.mem_of_getElem? (i := 11) rfl))) (mvT hZ (hw _ (List.mem_of_getElem? (i := 10) rfl))) (by decide) (backOf (W := 0) (rm_chg l Z a0 hw [] w8 w0 w1 w2 w3 w4 w5 w6 w7 w8 w9 h0 n0 O0 S_PULLED S_PRESENT S_REPLACED S_RETRACTED S_NOOP S_REFUSED S_WOULD_PULL S_WOULD_REPLACE S_WOULD_RETRACT S_MISSING) hZ (hw _ (List.mem_of_getElem? (i := 12) rfl)) (hw _ (List.mem_of_getElem? (i := 6) rfl)) (by decide) (by decide)) q35a q35c (g := (mkF m 39 #[.val (.int i0), .val (.int (8 : Int32)), .val (.ref w8), .val (.int (0 : Int32))] [(.ref w8)])) rfl (by rw [hml]; rfl) (Steps.refl _) (argsL := []) (rest := []) (lenOf pd__28_29Z rfl) rfl (by show 2 * 0 + _ ≤ _; exact Nat.le_of_eq rfl) (hb hby at_39) (fun _ _ => ⟨rfl, P34, (by decide : 0 + 0 ≤ _), (by decide : 0 + 0 ≤ _)⟩)
    dsimp only [Pt.U, Pt.locs, Pt.cells, Pt.slots] at X35 l35 y35 z35 st35 hQ35
    subst l35 y35 z35
    obtain ⟨rfl, Nq35, P36⟩ := hQ35
    have N35 := Fr.app N33 Nq35
    refine own_G.step (T' := T35) (g' := (mkF m 42 #[.val (.int i0), .val (.int (8 : Int32)), .val (.ref w8), .val (.int (0 : Int32))] [(.int (own_chg w8 w0 w2 w3 w4))])) (fun tq_ kq_ => st35.trans kq_) ?_
    have ne0 : w8 ≠ w0 := F_WOULD_RETRACT_ordinal.ne F_PULLED_ordinal (by decide)
    have ne2 : w8 ≠ w2 := F_WOULD_RETRACT_ordinal.ne F_REPLACED_ordinal (by decide)
    have ne3 : w8 ≠ w3 := F_WOULD_RETRACT_ordinal.ne F_RETRACTED_ordinal (by decide)
    have ne4 : w8 ≠ w4 := F_WOULD_RETRACT_ordinal.ne F_NOOP_ordinal (by decide)
    have hg : own_chg w8 w0 w2 w3 w4 = (0 : Int32) := by simp [own_chg, ne0, ne2, ne3, ne4]
    refine own_G.cast (g' := (mkF m 42 #[.val (.int i0), .val (.int (8 : Int32)), .val (.ref w8), .val (.int (0 : Int32))] [(.int (0 : Int32))])) (by rw [hg]) ?_
    refine own_G.step (g' := (mkF m 43 #[.val (.int i0), .val (.int (8 : Int32)), .val (.ref w8), .val (.int (0 : Int32))] [(.int (0 : Int32)), (.int (0 : Int32))])) (fun tq_ kq_ => XS.iloadN X35.here hx rfl (hb hby at_42) rfl kq_) ?_
    have hc43 : (0 : Int32) = (0 : Int32) := (by decide)
    refine own_G.step (g' := (mkF m 46 #[.val (.int i0), .val (.int (8 : Int32)), .val (.ref w8), .val (.int (0 : Int32))] [])) (fun tq_ kq_ => XS.icmpNo X35.here hx rfl (hb hby at_43) rfl (teq hc43).2 kq_) ?_
    refine own_G.step (g' := (mkF m 47 #[.val (.int i0), .val (.int (8 : Int32)), .val (.ref w8), .val (.int (0 : Int32))] [(.int (1 : Int32))])) (fun tq_ kq_ => XS.iconst X35.here hx rfl (hb hby at_46) kq_) ?_
    refine own_G.step (g' := (mkF m 51 #[.val (.int i0), .val (.int (8 : Int32)), .val (.ref w8), .val (.int (0 : Int32))] [(.int (1 : Int32))])) (fun tq_ kq_ => XS.goto X35.here hx rfl (pc0 := 47) (pc' := 51) rfl (hb hby at_47) (by decide) (by decide) kq_) ?_
    exact own_ret X35 P36 (v := some (.int (1 : Int32))) (fun h => by rw [Bd.returns] at h; cases h) Bd.notSynchronized ⟨rfl, N35⟩ (by decide) (by decide) (fun fs hr => retN X35 hx (t := .boolean) Bd.returns (by simp) (hb hby at_51) hr)
  · refine own_G.step (g' := (mkF m 9 #[.val (.int i0), .val (.int (9 : Int32)), .unset, .unset] [(.int (9 : Int32))])) (fun tq_ kq_ => XS.iloadN X0.here hx rfl (hb hby at_8) rfl kq_) ?_
    obtain ⟨_, _, ⟨T37, L37, k37, n37⟩, -, X37, ⟨Lc37, hQ37, l37, y37, z37⟩, st37⟩ := Jvm.LawKit.callS X0 hx (y := (⟨"com/example/termflow/termflow/pull/StatusChangesStorePinLaw", "pick", "(I)Lcom/example/termflow/termflow/pull/Status;"⟩ : MethodName)) hown (mvT hZ (hw _ (List.mem_of_getElem? (i := 1) rfl))) (mvT hZ (hw _ (List.mem_of_getElem? (i := 2) rfl))) (mvT hZ (hw _ (List.mem_of_getElem? (i := 3) rfl))) (mvT hZ (hw _ (List.mem_of_getElem? (i := 4) rfl))) (by decide) (backOf (W := 0) (rm_pick l Z a0 hw [] (9 : Int32) w0 w1 w2 w3 w4 w5 w6 w7 w8 w9 h0 n0 O0 S_PULLED S_PRESENT S_REPLACED S_RETRACTED S_NOOP S_REFUSED S_WOULD_PULL S_WOULD_REPLACE S_WOULD_RETRACT S_MISSING) hZ (hw _ (List.mem_of_getElem? (i := 4) rfl)) (hw _ (List.mem_of_getElem? (i := 3) rfl)) (by decide) (by decide)) (g := (mkF m 9 #[.val (.int i0), .val (.int (9 : Int32)), .unset, .unset] [(.int (9 : Int32))])) rfl (by rw [hml]; rfl) (argsL := [(.int (9 : Int32))]) (rest := []) (lenOf pd__28I_29Lcom_2fexample_2ftermflow_2ftermflow_2fpull_2fStatus_3b rfl) rfl (by show 2 * 0 + _ ≤ _; exact Nat.le_of_eq rfl) (hb hby at_9) (fun _ _ => ⟨rfl, e0, (by decide : 0 + 0 ≤ _), (by decide : 0 + 0 ≤ _)⟩)
    dsimp only [Pt.U, Pt.locs, Pt.cells, Pt.slots] at X37 l37 y37 z37 st37 hQ37
    subst l37 y37 z37
    obtain ⟨rfl, Nq37, P38⟩ := hQ37
    have N37 := Fr.app N0 Nq37
    refine own_G.step (T' := T37) (g' := (mkF m 12 #[.val (.int i0), .val (.int (9 : Int32)), .unset, .unset] [(.ref (own_pick (9 : Int32) w0 w1 w2 w3 w4 w5 w6 w7 w8 w9))])) (fun tq_ kq_ => st37 _ kq_) ?_
    have hp : own_pick (9 : Int32) w0 w1 w2 w3 w4 w5 w6 w7 w8 w9 = w9 := by simp [own_pick]
    refine own_G.cast (g' := (mkF m 12 #[.val (.int i0), .val (.int (9 : Int32)), .unset, .unset] [(.ref w9)])) (by rw [hp]) ?_
    refine own_G.step (g' := (mkF m 13 #[.val (.int i0), .val (.int (9 : Int32)), .val (.ref w9), .unset] [])) (fun tq_ kq_ => XS.astoreN X37.here hx rfl (hb hby at_12) rfl rfl (l' := #[.val (.int i0), .val (.int (9 : Int32)), .val (.ref w9), .unset]) rfl kq_) ?_
    refine own_G.step (g' := (mkF m 14 #[.val (.int i0), .val (.int (9 : Int32)), .val (.ref w9), .unset] [(.int (9 : Int32))])) (fun tq_ kq_ => XS.iloadN X37.here hx rfl (hb hby at_13) rfl kq_) ?_
    have hc14 : ¬ ((9 : Int32) = (0 : Int32)) := (by decide)
    refine own_G.step (g' := (mkF m 17 #[.val (.int i0), .val (.int (9 : Int32)), .val (.ref w9), .unset] [])) (fun tq_ kq_ => XS.ifNo X37.here hx rfl (hb hby at_14) rfl ((if0 _ _).trans (feq hc14).1) kq_) ?_
    refine own_G.step (g' := (mkF m 18 #[.val (.int i0), .val (.int (9 : Int32)), .val (.ref w9), .unset] [(.int (9 : Int32))])) (fun tq_ kq_ => XS.iloadN X37.here hx rfl (hb hby at_17) rfl kq_) ?_
    refine own_G.step (g' := (mkF m 19 #[.val (.int i0), .val (.int (9 : Int32)), .val (.ref w9), .unset] [(.int (2 : Int32)), (.int (9 : Int32))])) (fun tq_ kq_ => XS.iconst X37.here hx rfl (hb hby at_18) kq_) ?_
    have hc19 : ¬ ((9 : Int32) = (2 : Int32)) := (by decide)
    refine own_G.step (g' := (mkF m 22 #[.val (.int i0), .val (.int (9 : Int32)), .val (.ref w9), .unset] [])) (fun tq_ kq_ => XS.icmpNo X37.here hx rfl (hb hby at_19) rfl (feq hc19).1 kq_) ?_
    refine own_G.step (g' := (mkF m 23 #[.val (.int i0), .val (.int (9 : Int32)), .val (.ref w9), .unset] [(.int (9 : Int32))])) (fun tq_ kq_ => XS.iloadN X37.here hx rfl (hb hby at_22) rfl kq_) ?_
    refine own_G.step (g' := (mkF m 24 #[.val (.int i0), .val (.int (9 : Int32)), .val (.ref w9), .unset] [(.int (3 : Int32)), (.int (9 : Int32))])) (fun tq_ kq_ => XS.iconst X37.here hx rfl (hb hby at_23) kq_) ?_
    have hc24 : ¬ ((9 : Int32) = (3 : Int32)) := (by decide)
    refine own_G.step (g' := (mkF m 27 #[.val (.int i0), .val (.int (9 : Int32)), .val (.ref w9), .unset] [])) (fun tq_ kq_ => XS.icmpNo X37.here hx rfl (hb hby at_24) rfl (feq hc24).1 kq_) ?_
    refine own_G.step (g' := (mkF m 28 #[.val (.int i0), .val (.int (9 : Int32)), .val (.ref w9), .unset] [(.int (9 : Int32))])) (fun tq_ kq_ => XS.iloadN X37.here hx rfl (hb hby at_27) rfl kq_) ?_
    refine own_G.step (g' := (mkF m 29 #[.val (.int i0), .val (.int (9 : Int32)), .val (.ref w9), .unset] [(.int (4 : Int32)), (.int (9 : Int32))])) (fun tq_ kq_ => XS.iconst X37.here hx rfl (hb hby at_28) kq_) ?_
    have hc29 : ¬ ((9 : Int32) = (4 : Int32)) := (by decide)
    refine own_G.step (g' := (mkF m 36 #[.val (.int i0), .val (.int (9 : Int32)), .val (.ref w9), .unset] [])) (fun tq_ kq_ => XS.icmpYes X37.here hx rfl (pc0 := 29) (pc' := 36) rfl (hb hby at_29) rfl (feq hc29).2 (by decide) (by decide) kq_) ?_
    refine own_G.step (g' := (mkF m 37 #[.val (.int i0), .val (.int (9 : Int32)), .val (.ref w9), .unset] [(.int (0 : Int32))])) (fun tq_ kq_ => XS.iconst X37.here hx rfl (hb hby at_36) kq_) ?_
    refine own_G.step (g' := (mkF m 38 #[.val (.int i0), .val (.int (9 : Int32)), .val (.ref w9), .val (.int (0 : Int32))] [])) (fun tq_ kq_ => XS.istoreN X37.here hx rfl (hb hby at_37) rfl (l' := #[.val (.int i0), .val (.int (9 : Int32)), .val (.ref w9), .val (.int (0 : Int32))]) rfl kq_) ?_
    refine own_G.step (g' := (mkF m 39 #[.val (.int i0), .val (.int (9 : Int32)), .val (.ref w9), .val (.int (0 : Int32))] [(.ref w9)])) (fun tq_ kq_ => XS.aloadN X37.here hx rfl (hb hby at_38) rfl rfl kq_) ?_
    obtain ⟨cq39, kq39, q39a, q39b, q39c⟩ := isOf hZ P38 (Exa.ext O0.2 E_MISSING)
    obtain ⟨_, _, ⟨T39, L39, k39, n39⟩, -, X39, ⟨Lc39, hQ39, l39, y39, z39⟩, st39⟩ := X37.virtualBack hx (y := (⟨"com/example/termflow/termflow/pull/Status", "changesStore", "()Z"⟩ : MethodName)) (z := (⟨"com/example/termflow/termflow/pull/Status", "changesStore", "()Z"⟩ : MethodName)) hown (mvT hZ (hw _ (List.mem_of_getElem? (i := 8) rfl))) (mvT hZ (hw _ (List.mem_of_getElem? (i := 9) rfl))) (notFace_of_selects (args := #[]) (mvT hZ (hw _ (List.mem_of_getElem? (i := 11) rfl)))) (mvT hZ (hw _ (List.mem_of_getElem? (i := 11) rfl))) (mvT hZ (hw _ (List.mem_of_getElem? (i := 10) rfl))) (by decide) (backOf (W := 0) (rm_chg l Z a0 hw [] w9 w0 w1 w2 w3 w4 w5 w6 w7 w8 w9 h0 n0 O0 S_PULLED S_PRESENT S_REPLACED S_RETRACTED S_NOOP S_REFUSED S_WOULD_PULL S_WOULD_REPLACE S_WOULD_RETRACT S_MISSING) hZ (hw _ (List.mem_of_getElem? (i := 12) rfl)) (hw _ (List.mem_of_getElem? (i := 6) rfl)) (by decide) (by decide)) q39a q39c (g := (mkF m 39 #[.val (.int i0), .val (.int (9 : Int32)), .val (.ref w9), .val (.int (0 : Int32))] [(.ref w9)])) rfl (by rw [hml]; rfl) (Steps.refl _) (argsL := []) (rest := []) (lenOf pd__28_29Z rfl) rfl (by show 2 * 0 + _ ≤ _; exact Nat.le_of_eq rfl) (hb hby at_39) (fun _ _ => ⟨rfl, P38, (by decide : 0 + 0 ≤ _), (by decide : 0 + 0 ≤ _)⟩)
    dsimp only [Pt.U, Pt.locs, Pt.cells, Pt.slots] at X39 l39 y39 z39 st39 hQ39
    subst l39 y39 z39
    obtain ⟨rfl, Nq39, P40⟩ := hQ39
    have N39 := Fr.app N37 Nq39
    refine own_G.step (T' := T39) (g' := (mkF m 42 #[.val (.int i0), .val (.int (9 : Int32)), .val (.ref w9), .val (.int (0 : Int32))] [(.int (own_chg w9 w0 w2 w3 w4))])) (fun tq_ kq_ => st39.trans kq_) ?_
    have ne0 : w9 ≠ w0 := F_MISSING_ordinal.ne F_PULLED_ordinal (by decide)
    have ne2 : w9 ≠ w2 := F_MISSING_ordinal.ne F_REPLACED_ordinal (by decide)
    have ne3 : w9 ≠ w3 := F_MISSING_ordinal.ne F_RETRACTED_ordinal (by decide)
    have ne4 : w9 ≠ w4 := F_MISSING_ordinal.ne F_NOOP_ordinal (by decide)
    have hg : own_chg w9 w0 w2 w3 w4 = (0 : Int32) := by simp [own_chg, ne0, ne2, ne3, ne4]
    refine own_G.cast (g' := (mkF m 42 #[.val (.int i0), .val (.int (9 : Int32)), .val (.ref w9), .val (.int (0 : Int32))] [(.int (0 : Int32))])) (by rw [hg]) ?_
    refine own_G.step (g' := (mkF m 43 #[.val (.int i0), .val (.int (9 : Int32)), .val (.ref w9), .val (.int (0 : Int32))] [(.int (0 : Int32)), (.int (0 : Int32))])) (fun tq_ kq_ => XS.iloadN X39.here hx rfl (hb hby at_42) rfl kq_) ?_
    have hc43 : (0 : Int32) = (0 : Int32) := (by decide)
    refine own_G.step (g' := (mkF m 46 #[.val (.int i0), .val (.int (9 : Int32)), .val (.ref w9), .val (.int (0 : Int32))] [])) (fun tq_ kq_ => XS.icmpNo X39.here hx rfl (hb hby at_43) rfl (teq hc43).2 kq_) ?_
    refine own_G.step (g' := (mkF m 47 #[.val (.int i0), .val (.int (9 : Int32)), .val (.ref w9), .val (.int (0 : Int32))] [(.int (1 : Int32))])) (fun tq_ kq_ => XS.iconst X39.here hx rfl (hb hby at_46) kq_) ?_
    refine own_G.step (g' := (mkF m 51 #[.val (.int i0), .val (.int (9 : Int32)), .val (.ref w9), .val (.int (0 : Int32))] [(.int (1 : Int32))])) (fun tq_ kq_ => XS.goto X39.here hx rfl (pc0 := 47) (pc' := 51) rfl (hb hby at_47) (by decide) (by decide) kq_) ?_
    exact own_ret X39 P40 (v := some (.int (1 : Int32))) (fun h => by rw [Bd.returns] at h; cases h) Bd.notSynchronized ⟨rfl, N39⟩ (by decide) (by decide) (fun fs hr => retN X39 hx (t := .boolean) Bd.returns (by simp) (hb hby at_51) hr)
set_option maxRecDepth 65536 in
set_option maxHeartbeats 40000000 in
theorem comes_1 {Post : Tables → Env → Array Value → State → Outcome → State → Prop} (hpost : ∀ tb e args s v u, (limb_1_1.after args s (.returned v) u = true ∧ limb_1_2.after args s (.returned v) u = true ∧ True) → FrameEnd s (.returned v) u (Jvm.fieldLocs frame_1_writes args s ++ Jvm.arrayLocs frame_1_arrays args s ++ Jvm.staticLocs frame_1_statics s) 0 0 → Post tb e args s (.returned v) u) :
    ArmFor flags0 classFile x code maxLocals ret World_1 tables_1 room_1 Calls_1 rest_1 Pre_1 Post := by
  intro l hfl _ _ p e ha hc hk s m args below hf hA hF happ hP
  obtain ⟨hcalls, hrest, hpre⟩ := hP
  obtain ⟨-, -, -, hnamed, -, -, -, hat⟩ := (Spec.applies_iff hf).mp happ
  obtain ⟨hg, hn⟩ := and_e (Cond.before_iff.mp (show (Jvm.Cond.and given_1 narrow_1).before args s = true from hpre))
  obtain ⟨gz1, gz2⟩ := and_e hg
  obtain ⟨gz3, gz4⟩ := and_e hn
  obtain ⟨gz5, gz6⟩ := and_e gz4
  obtain ⟨gz7, gz8⟩ := and_e gz6
  obtain ⟨gz9, gz10⟩ := and_e gz8
  obtain ⟨gz11, gz12⟩ := and_e gz10
  obtain ⟨gz13, gz14⟩ := and_e gz12
  obtain ⟨gz15, gz16⟩ := and_e gz14
  obtain ⟨gz17, gz18⟩ := and_e gz16
  obtain ⟨gz19, gz20⟩ := and_e gz18
  obtain ⟨gz21, gz22⟩ := and_e gz20
  obtain ⟨gz23, gz24⟩ := and_e gz22
  obtain ⟨gz25, gz26⟩ := and_e gz24
  obtain ⟨gz27, gz28⟩ := and_e gz26
  obtain ⟨gz29, gz30⟩ := and_e gz28
  obtain ⟨gz31, gz32⟩ := and_e gz30
  obtain ⟨gz33, gz34⟩ := and_e gz32
  obtain ⟨gz35, gz36⟩ := and_e gz34
  obtain ⟨gz37, gz38⟩ := and_e gz36
  obtain ⟨gz39, gz40⟩ := and_e gz38
  obtain ⟨u0, rfl⟩ : ∃ u0 : Value, args = #[u0] := by
    have hs : args.size = 1 := by simpa [Cond.value, given_1] using gz1
    obtain ⟨L⟩ := args
    match L, hs with
    | [u0], _ => exact ⟨u0, rfl⟩
  have hw := fun d (hd : d ∈ tables_1) => atoms_spec (ws := Jvm.Cond.code x code maxLocals ret :: tables_1) hat d (List.mem_cons_of_mem _ hd)
  have hfit : Fit s := fun {y c} hc i hi => by
    obtain ⟨ha, rfl⟩ := Array.getElem?_eq_some_iff.mp hc
    have q := List.all_eq_true.mp ((Array.all_eq_true_iff_forall_mem.mp hF) _ (Array.getElem_mem ha)) i (List.mem_range.mpr hi)
    simpa [Array.getElem?_eq_getElem hi] using q
  obtain ⟨i0, ei0⟩ := is_v gz2
  obtain rfl : u0 = (.int i0) := Option.some.inj ei0
  obtain ⟨w0, ev_PULLED⟩ := exa_v gz3
  have S_PULLED : Sta s s.heap "com/example/termflow/termflow/pull/Status" "PULLED" "Lcom/example/termflow/termflow/pull/Status;" (.ref w0) := Sta.start ev_PULLED (Or.inr ⟨(hw _ (List.mem_of_getElem? (i := 6) rfl)), (hw _ (List.mem_of_getElem? (i := 7) rfl))⟩)
  have E_PULLED : Exa s s.heap w0 "com/example/termflow/termflow/pull/Status" := Exa.start ev_PULLED gz3
  obtain ⟨w3, ev_RETRACTED⟩ := exa_v gz5
  have S_RETRACTED : Sta s s.heap "com/example/termflow/termflow/pull/Status" "RETRACTED" "Lcom/example/termflow/termflow/pull/Status;" (.ref w3) := Sta.start ev_RETRACTED (Or.inr ⟨(hw _ (List.mem_of_getElem? (i := 6) rfl)), (hw _ (List.mem_of_getElem? (i := 15) rfl))⟩)
  have E_RETRACTED : Exa s s.heap w3 "com/example/termflow/termflow/pull/Status" := Exa.start ev_RETRACTED gz5
  obtain ⟨w2, ev_REPLACED⟩ := exa_v gz11
  have S_REPLACED : Sta s s.heap "com/example/termflow/termflow/pull/Status" "REPLACED" "Lcom/example/termflow/termflow/pull/Status;" (.ref w2) := Sta.start ev_REPLACED (Or.inr ⟨(hw _ (List.mem_of_getElem? (i := 6) rfl)), (hw _ (List.mem_of_getElem? (i := 17) rfl))⟩)
  have E_REPLACED : Exa s s.heap w2 "com/example/termflow/termflow/pull/Status" := Exa.start ev_REPLACED gz11
  obtain ⟨w1, ev_PRESENT⟩ := exa_v gz15
  have S_PRESENT : Sta s s.heap "com/example/termflow/termflow/pull/Status" "PRESENT" "Lcom/example/termflow/termflow/pull/Status;" (.ref w1) := Sta.start ev_PRESENT (Or.inr ⟨(hw _ (List.mem_of_getElem? (i := 6) rfl)), (hw _ (List.mem_of_getElem? (i := 20) rfl))⟩)
  have E_PRESENT : Exa s s.heap w1 "com/example/termflow/termflow/pull/Status" := Exa.start ev_PRESENT gz15
  obtain ⟨w4, ev_NOOP⟩ := exa_v gz19
  have S_NOOP : Sta s s.heap "com/example/termflow/termflow/pull/Status" "NOOP" "Lcom/example/termflow/termflow/pull/Status;" (.ref w4) := Sta.start ev_NOOP (Or.inr ⟨(hw _ (List.mem_of_getElem? (i := 6) rfl)), (hw _ (List.mem_of_getElem? (i := 22) rfl))⟩)
  have E_NOOP : Exa s s.heap w4 "com/example/termflow/termflow/pull/Status" := Exa.start ev_NOOP gz19
  obtain ⟨w7, ev_WOULD_REPLACE⟩ := exa_v gz23
  have S_WOULD_REPLACE : Sta s s.heap "com/example/termflow/termflow/pull/Status" "WOULD_REPLACE" "Lcom/example/termflow/termflow/pull/Status;" (.ref w7) := Sta.start ev_WOULD_REPLACE (Or.inr ⟨(hw _ (List.mem_of_getElem? (i := 6) rfl)), (hw _ (List.mem_of_getElem? (i := 25) rfl))⟩)
  have E_WOULD_REPLACE : Exa s s.heap w7 "com/example/termflow/termflow/pull/Status" := Exa.start ev_WOULD_REPLACE gz23
  obtain ⟨w8, ev_WOULD_RETRACT⟩ := exa_v gz27
  have S_WOULD_RETRACT : Sta s s.heap "com/example/termflow/termflow/pull/Status" "WOULD_RETRACT" "Lcom/example/termflow/termflow/pull/Status;" (.ref w8) := Sta.start ev_WOULD_RETRACT (Or.inr ⟨(hw _ (List.mem_of_getElem? (i := 6) rfl)), (hw _ (List.mem_of_getElem? (i := 28) rfl))⟩)
  have E_WOULD_RETRACT : Exa s s.heap w8 "com/example/termflow/termflow/pull/Status" := Exa.start ev_WOULD_RETRACT gz27
  obtain ⟨w9, ev_MISSING⟩ := exa_v gz31
  have S_MISSING : Sta s s.heap "com/example/termflow/termflow/pull/Status" "MISSING" "Lcom/example/termflow/termflow/pull/Status;" (.ref w9) := Sta.start ev_MISSING (Or.inr ⟨(hw _ (List.mem_of_getElem? (i := 6) rfl)), (hw _ (List.mem_of_getElem? (i := 30) rfl))⟩)
  have E_MISSING : Exa s s.heap w9 "com/example/termflow/termflow/pull/Status" := Exa.start ev_MISSING gz31
  obtain ⟨w5, ev_REFUSED⟩ := exa_v gz35
  have S_REFUSED : Sta s s.heap "com/example/termflow/termflow/pull/Status" "REFUSED" "Lcom/example/termflow/termflow/pull/Status;" (.ref w5) := Sta.start ev_REFUSED (Or.inr ⟨(hw _ (List.mem_of_getElem? (i := 6) rfl)), (hw _ (List.mem_of_getElem? (i := 32) rfl))⟩)
  have E_REFUSED : Exa s s.heap w5 "com/example/termflow/termflow/pull/Status" := Exa.start ev_REFUSED gz35
  obtain ⟨w6, ev_WOULD_PULL⟩ := exa_v gz39
  have S_WOULD_PULL : Sta s s.heap "com/example/termflow/termflow/pull/Status" "WOULD_PULL" "Lcom/example/termflow/termflow/pull/Status;" (.ref w6) := Sta.start ev_WOULD_PULL (Or.inr ⟨(hw _ (List.mem_of_getElem? (i := 6) rfl)), (hw _ (List.mem_of_getElem? (i := 34) rfl))⟩)
  have E_WOULD_PULL : Exa s s.heap w6 "com/example/termflow/termflow/pull/Status" := Exa.start ev_WOULD_PULL gz39
  have F_RETRACTED_ordinal : Fld s s.heap w3 "java/lang/Enum" "ordinal" "I" (.int (3 : Int32)) := Fld.start ((fld_at ev_RETRACTED).symm.trans (eqv_i (Term.int_eval (3 : Int32)) gz7))
  have F_PULLED_ordinal : Fld s s.heap w0 "java/lang/Enum" "ordinal" "I" (.int (0 : Int32)) := Fld.start ((fld_at ev_PULLED).symm.trans (eqv_i (Term.int_eval (0 : Int32)) gz9))
  have F_REPLACED_ordinal : Fld s s.heap w2 "java/lang/Enum" "ordinal" "I" (.int (2 : Int32)) := Fld.start ((fld_at ev_REPLACED).symm.trans (eqv_i (Term.int_eval (2 : Int32)) gz13))
  have F_PRESENT_ordinal : Fld s s.heap w1 "java/lang/Enum" "ordinal" "I" (.int (1 : Int32)) := Fld.start ((fld_at ev_PRESENT).symm.trans (eqv_i (Term.int_eval (1 : Int32)) gz17))
  have F_NOOP_ordinal : Fld s s.heap w4 "java/lang/Enum" "ordinal" "I" (.int (4 : Int32)) := Fld.start ((fld_at ev_NOOP).symm.trans (eqv_i (Term.int_eval (4 : Int32)) gz21))
  have F_WOULD_REPLACE_ordinal : Fld s s.heap w7 "java/lang/Enum" "ordinal" "I" (.int (7 : Int32)) := Fld.start ((fld_at ev_WOULD_REPLACE).symm.trans (eqv_i (Term.int_eval (7 : Int32)) gz25))
  have F_WOULD_RETRACT_ordinal : Fld s s.heap w8 "java/lang/Enum" "ordinal" "I" (.int (8 : Int32)) := Fld.start ((fld_at ev_WOULD_RETRACT).symm.trans (eqv_i (Term.int_eval (8 : Int32)) gz29))
  have F_MISSING_ordinal : Fld s s.heap w9 "java/lang/Enum" "ordinal" "I" (.int (9 : Int32)) := Fld.start ((fld_at ev_MISSING).symm.trans (eqv_i (Term.int_eval (9 : Int32)) gz33))
  have F_REFUSED_ordinal : Fld s s.heap w5 "java/lang/Enum" "ordinal" "I" (.int (5 : Int32)) := Fld.start ((fld_at ev_REFUSED).symm.trans (eqv_i (Term.int_eval (5 : Int32)) gz37))
  have F_WOULD_PULL_ordinal : Fld s s.heap w6 "java/lang/Enum" "ordinal" "I" (.int (6 : Int32)) := Fld.start ((fld_at ev_WOULD_PULL).symm.trans (eqv_i (Term.int_eval (6 : Int32)) gz40))
  obtain ⟨n, o, h1, h2, h3, _, L, rfl, ⟨rfl, N⟩, hq⟩ := rm_law l s _ hw tables_1 i0 w0 w1 w2 w3 w4 w5 w6 w7 w8 w9 s.heap s.heap.size (Old.start s) S_PULLED S_PRESENT S_REPLACED S_RETRACTED S_NOOP S_REFUSED S_WOULD_PULL S_WOULD_REPLACE S_WOULD_RETRACT S_MISSING E_PULLED E_PRESENT E_REPLACED E_RETRACTED E_NOOP E_REFUSED E_WOULD_PULL E_WOULD_REPLACE E_WOULD_RETRACT E_MISSING F_PULLED_ordinal F_PRESENT_ordinal F_REPLACED_ordinal F_RETRACTED_ordinal F_NOOP_ordinal F_REFUSED_ordinal F_WOULD_PULL_ordinal F_WOULD_REPLACE_ordinal F_WOULD_RETRACT_ordinal F_MISSING_ordinal p e ha hc hk s m _ below hf ((Spec.applies_iff_loose hf).mp happ).1 ⟨rfl, State.Warmed39.refl s, rfl⟩ trivial
  refine ⟨n, _, h1, h2, h3, hpost _ _ _ _ _ _ ⟨Cond.after_iff.mpr rfl, Cond.after_iff.mpr (eq_i res_at (Term.int_eval (1)) rfl), trivial⟩ ⟨hq.1, hq.2.1, (hq.2.2.sift fun y hy => Or.inr (N y hy)).mono (by decide) (by decide)⟩⟩
theorem main_1_1 : Claimed_1_1 := comes_1 fun _ _ _ _ _ _ h hF => ⟨h.1, hF⟩
theorem main_1_2 : Claimed_1_2 := comes_1 fun _ _ _ _ _ _ h hF => ⟨h.2.1, hF⟩
end Jvm.Pilot.@@N@@
namespace Jvm.Pilot.@@N@@
open Jvm Jvm.ClassFile Sem Op Lib Jvm.Free Jvm.Stand Jvm.Pilot.@@N@@.Jvm.D
/-! MADE BY PROGRAM (witnessworld.py) out of the Statement's table words and the real class files: 12 classes; the members and pool entries that the words name. The judged class is class 1, her method 1. -/
namespace start1
open Jvm.ClassFile
def u (s : String) : CpInfo := .utf8 (stringToUtf16 s)
/-- a pool by its gaps: so many unusable entries, then the entry; so many at the end -/
def gap : Nat → List CpInfo → List CpInfo
  | 0, r => r
  | n + 1, r => .unusable :: gap n r
def poolList (es : List (Nat × CpInfo)) (last : Nat) : List CpInfo := es.foldr (fun e r => gap e.1 (e.2 :: r)) (gap last [])
def pool (es : List (Nat × CpInfo)) (last : Nat) : Array CpInfo := ⟨poolList es last⟩
def fileOf (pool : Array CpInfo) (this : Nat) (attrs : Array Attribute := #[]) (ms : Array MethodInfo := #[]) (fl : Nat := 33) (sup : Nat := 0) (ifs : Array Nat := #[]) (fds : Array FieldInfo := #[]) : ClassFile where
  minorVersion := 0
  majorVersion := 65
  constantPool := pool
  accessFlags := fl
  thisClass := this
  superClass := sup
  interfaces := ifs
  fields := fds
  methods := ms
  attributes := attrs
def plain (name : String) (sup : Option ClassId) : Class where
  name := name
  kind := .ordinary
  loader := none
  accessFlags := 33
  super := sup
  interfaces := #[]
  cf := none
  fields := #[]
  methods := #[]
  instanceTypes := #[]
  staticTypes := #[]
  resolved := #[]
  callSites := []
  init := .initialized
  statics := none
  mirror := none

def pool0 : Array CpInfo := pool [(5, u "<init>"), (0, u "()V"), (1, .class_ 10), (1, u "java/lang/Object")] 113

def k0m0 : Method := { name := "<init>", desc := "()V", sig := { parameters := [], returnType := none }, accessFlags := 1, code := none }
/-- java/lang/Object -/
def k0 : Class := { plain "java/lang/Object" none with
  accessFlags := 33
  interfaces := #[]
  cf := some (fileOf pool0 8 #[] #[{ accessFlags := 1, nameIndex := 5, descriptorIndex := 6, attributes := #[] }] 33 0 #[] #[])
  fields := #[]
  methods := #[k0m0]
  instanceTypes := #[]
  staticTypes := #[]
  resolved := Array.replicate 124 none
  statics := none }

def pool1 : Array CpInfo := pool [(2, .class_ 4), (1, u "java/lang/Object"), (0, u "<init>"), (0, u "()V"), (0, .integer 2147483647), (0, .methodref 9 10), (0, .class_ 11), (0, .nameAndType 12 13), (0, u "com/example/termflow/termflow/pull/StatusChangesStorePinLaw"), (0, u "pick"), (0, u "(I)Lcom/example/termflow/termflow/pull/Status;"), (0, .methodref 15 16), (0, .class_ 17), (0, .nameAndType 18 19), (0, u "com/example/termflow/termflow/pull/Status"), (0, u "changesStore"), (0, u "()Z"), (0, .fieldref 15 21), (0, .nameAndType 22 23), (0, u "PULLED"), (0, u "Lcom/example/termflow/termflow/pull/Status;"), (0, .fieldref 15 25), (0, .nameAndType 26 23), (0, u "PRESENT"), (0, .fieldref 15 28), (0, .nameAndType 29 23), (0, u "REPLACED"), (0, .fieldref 15 31), (0, .nameAndType 32 23), (0, u "RETRACTED"), (0, .fieldref 15 34), (0, .nameAndType 35 23), (0, u "NOOP"), (0, .fieldref 15 37), (0, .nameAndType 38 23), (0, u "REFUSED"), (0, .fieldref 15 40), (0, .nameAndType 41 23), (0, u "WOULD_PULL"), (0, .fieldref 15 43), (0, .nameAndType 44 23), (0, u "WOULD_REPLACE"), (0, .fieldref 15 46), (0, .nameAndType 47 23), (0, u "WOULD_RETRACT"), (0, .fieldref 15 49), (0, .nameAndType 50 23), (0, u "MISSING"), (2, u "law"), (0, u "(I)Z")] 3

def k1m0 : Method := { name := "<init>", desc := "()V", sig := { parameters := [], returnType := none }, accessFlags := 1, code := none }
def k1c1 : Code := { maxStack := 2, maxLocals := 4, code := code, exceptionTable := #[], attributes := #[] }
def k1m1 : Method := { name := "law", desc := "(I)Z", sig := { parameters := [.int], returnType := some .boolean }, accessFlags := 9, code := some k1c1 }
def k1c2 : Code := { maxStack := 2, maxLocals := 1, code := method_3_code, exceptionTable := #[], attributes := #[] }
def k1m2 : Method := { name := "pick", desc := "(I)Lcom/example/termflow/termflow/pull/Status;", sig := { parameters := [.int], returnType := some (.object "com/example/termflow/termflow/pull/Status") }, accessFlags := 10, code := some k1c2 }
/-- com/example/termflow/termflow/pull/StatusChangesStorePinLaw -/
def k1 : Class := { plain "com/example/termflow/termflow/pull/StatusChangesStorePinLaw" (some 0) with
  accessFlags := 49
  interfaces := #[]
  cf := some (fileOf pool1 9 #[] #[{ accessFlags := 1, nameIndex := 5, descriptorIndex := 6, attributes := #[] }, { accessFlags := 9, nameIndex := 53, descriptorIndex := 54, attributes := #[] }, { accessFlags := 10, nameIndex := 12, descriptorIndex := 13, attributes := #[] }] 49 2 #[] #[])
  fields := #[]
  methods := #[k1m0, k1m1, k1m2]
  instanceTypes := #[]
  staticTypes := #[]
  resolved := Array.replicate 58 none
  statics := none }

def pool2 : Array CpInfo := pool [(1, .class_ 2), (0, u "java/lang/constant/Constable"), (0, .class_ 4), (0, u "java/lang/Object")] 6

/-- java/lang/constant/Constable -/
def k2 : Class := { plain "java/lang/constant/Constable" (some 0) with
  accessFlags := 1537
  interfaces := #[]
  cf := some (fileOf pool2 1 #[] #[] 1537 3 #[] #[])
  fields := #[]
  methods := #[]
  instanceTypes := #[]
  staticTypes := #[]
  resolved := Array.replicate 11 none
  statics := none }

def pool3 : Array CpInfo := pool [(1, .class_ 2), (0, u "java/lang/Comparable"), (0, .class_ 4), (0, u "java/lang/Object")] 7

/-- java/lang/Comparable -/
def k3 : Class := { plain "java/lang/Comparable" (some 0) with
  accessFlags := 1537
  interfaces := #[]
  cf := some (fileOf pool3 1 #[] #[] 1537 3 #[] #[])
  fields := #[]
  methods := #[]
  instanceTypes := #[]
  staticTypes := #[]
  resolved := Array.replicate 12 none
  statics := none }

def pool4 : Array CpInfo := pool [(1, .class_ 2), (0, u "java/io/Serializable"), (0, .class_ 4), (0, u "java/lang/Object")] 2

/-- java/io/Serializable -/
def k4 : Class := { plain "java/io/Serializable" (some 0) with
  accessFlags := 1537
  interfaces := #[]
  cf := some (fileOf pool4 1 #[] #[] 1537 3 #[] #[])
  fields := #[]
  methods := #[]
  instanceTypes := #[]
  staticTypes := #[]
  resolved := Array.replicate 7 none
  statics := none }

def pool5 : Array CpInfo := pool [(2, .class_ 4), (1, u "java/lang/Enum"), (0, u "name"), (0, u "Ljava/lang/String;"), (2, u "ordinal"), (0, u "I"), (1, .class_ 14), (1, u "java/lang/Object"), (4, u "hash"), (86, .class_ 108), (1, u "java/lang/Enum$EnumDesc"), (2, .class_ 112), (0, u "java/lang/constant/Constable"), (0, .class_ 114), (0, u "java/lang/Comparable"), (0, .class_ 116), (0, u "java/io/Serializable")] 87

/-- java/lang/Enum -/
def k5 : Class := { plain "java/lang/Enum" (some 0) with
  accessFlags := 1057
  interfaces := #[2, 3, 4]
  cf := some (fileOf pool5 2 #[.nestMembers #[106]] #[] 1057 12 #[111, 113, 115] #[{ accessFlags := 18, nameIndex := 5, descriptorIndex := 6, attributes := #[] }, { accessFlags := 18, nameIndex := 9, descriptorIndex := 10, attributes := #[] }, { accessFlags := 2, nameIndex := 19, descriptorIndex := 10, attributes := #[] }])
  fields := #[{ name := "name", type := (.object "java/lang/String"), accessFlags := 18, slot := 0, constantValue := 0 }, { name := "ordinal", type := .int, accessFlags := 18, slot := 1, constantValue := 0 }, { name := "hash", type := .int, accessFlags := 2, slot := 2, constantValue := 0 }]
  methods := #[]
  instanceTypes := #[(.object "java/lang/String"), .int, .int]
  staticTypes := #[]
  resolved := Array.replicate 204 none
  statics := none }

def pool6 : Array CpInfo := pool [(1, .class_ 2), (0, u "com/example/termflow/termflow/pull/Status"), (0, .fieldref 1 4), (0, .nameAndType 5 6), (0, u "PULLED"), (0, u "Lcom/example/termflow/termflow/pull/Status;"), (2, u "PRESENT"), (0, .fieldref 1 11), (0, .nameAndType 12 6), (0, u "REPLACED"), (0, .fieldref 1 14), (0, .nameAndType 15 6), (0, u "RETRACTED"), (0, .fieldref 1 17), (0, .nameAndType 18 6), (0, u "NOOP"), (2, u "REFUSED"), (2, u "WOULD_PULL"), (2, u "WOULD_REPLACE"), (2, u "WOULD_RETRACT"), (2, u "MISSING"), (2, u "$VALUES"), (0, u "[Lcom/example/termflow/termflow/pull/Status;"), (6, .class_ 46), (1, u "java/lang/Enum"), (56, u "OF_PULL"), (0, u "Ljava/util/List;"), (5, u "OF_PLAN"), (9, u "changesStore"), (0, u "()Z")] 7

def k6c0 : Code := { maxStack := 2, maxLocals := 1, code := prog_85_method_6_code, exceptionTable := #[], attributes := #[] }
def k6m0 : Method := { name := "changesStore", desc := "()Z", sig := { parameters := [], returnType := some .boolean }, accessFlags := 1, code := some k6c0 }
/-- com/example/termflow/termflow/pull/Status -/
def k6 : Class := { plain "com/example/termflow/termflow/pull/Status" (some 5) with
  accessFlags := 16433
  interfaces := #[]
  cf := some (fileOf pool6 1 #[] #[{ accessFlags := 1, nameIndex := 120, descriptorIndex := 121, attributes := #[] }] 16433 44 #[] #[{ accessFlags := 16409, nameIndex := 5, descriptorIndex := 6, attributes := #[] }, { accessFlags := 16409, nameIndex := 9, descriptorIndex := 6, attributes := #[] }, { accessFlags := 16409, nameIndex := 12, descriptorIndex := 6, attributes := #[] }, { accessFlags := 16409, nameIndex := 15, descriptorIndex := 6, attributes := #[] }, { accessFlags := 16409, nameIndex := 18, descriptorIndex := 6, attributes := #[] }, { accessFlags := 16409, nameIndex := 21, descriptorIndex := 6, attributes := #[] }, { accessFlags := 16409, nameIndex := 24, descriptorIndex := 6, attributes := #[] }, { accessFlags := 16409, nameIndex := 27, descriptorIndex := 6, attributes := #[] }, { accessFlags := 16409, nameIndex := 30, descriptorIndex := 6, attributes := #[] }, { accessFlags := 16409, nameIndex := 33, descriptorIndex := 6, attributes := #[] }, { accessFlags := 25, nameIndex := 103, descriptorIndex := 104, attributes := #[] }, { accessFlags := 25, nameIndex := 110, descriptorIndex := 104, attributes := #[] }, { accessFlags := 4122, nameIndex := 36, descriptorIndex := 37, attributes := #[] }])
  fields := #[{ name := "PULLED", type := (.object "com/example/termflow/termflow/pull/Status"), accessFlags := 16409, slot := 0, constantValue := 0 }, { name := "PRESENT", type := (.object "com/example/termflow/termflow/pull/Status"), accessFlags := 16409, slot := 1, constantValue := 0 }, { name := "REPLACED", type := (.object "com/example/termflow/termflow/pull/Status"), accessFlags := 16409, slot := 2, constantValue := 0 }, { name := "RETRACTED", type := (.object "com/example/termflow/termflow/pull/Status"), accessFlags := 16409, slot := 3, constantValue := 0 }, { name := "NOOP", type := (.object "com/example/termflow/termflow/pull/Status"), accessFlags := 16409, slot := 4, constantValue := 0 }, { name := "REFUSED", type := (.object "com/example/termflow/termflow/pull/Status"), accessFlags := 16409, slot := 5, constantValue := 0 }, { name := "WOULD_PULL", type := (.object "com/example/termflow/termflow/pull/Status"), accessFlags := 16409, slot := 6, constantValue := 0 }, { name := "WOULD_REPLACE", type := (.object "com/example/termflow/termflow/pull/Status"), accessFlags := 16409, slot := 7, constantValue := 0 }, { name := "WOULD_RETRACT", type := (.object "com/example/termflow/termflow/pull/Status"), accessFlags := 16409, slot := 8, constantValue := 0 }, { name := "MISSING", type := (.object "com/example/termflow/termflow/pull/Status"), accessFlags := 16409, slot := 9, constantValue := 0 }, { name := "OF_PULL", type := (.object "java/util/List"), accessFlags := 25, slot := 10, constantValue := 0 }, { name := "OF_PLAN", type := (.object "java/util/List"), accessFlags := 25, slot := 11, constantValue := 0 }, { name := "$VALUES", type := (.array (.object "com/example/termflow/termflow/pull/Status")), accessFlags := 4122, slot := 12, constantValue := 0 }]
  methods := #[k6m0]
  instanceTypes := #[(.object "java/lang/String"), .int, .int]
  staticTypes := #[(.object "com/example/termflow/termflow/pull/Status"), (.object "com/example/termflow/termflow/pull/Status"), (.object "com/example/termflow/termflow/pull/Status"), (.object "com/example/termflow/termflow/pull/Status"), (.object "com/example/termflow/termflow/pull/Status"), (.object "com/example/termflow/termflow/pull/Status"), (.object "com/example/termflow/termflow/pull/Status"), (.object "com/example/termflow/termflow/pull/Status"), (.object "com/example/termflow/termflow/pull/Status"), (.object "com/example/termflow/termflow/pull/Status"), (.object "java/util/List"), (.object "java/util/List"), (.array (.object "com/example/termflow/termflow/pull/Status"))]
  resolved := Array.replicate 129 none
  statics := some 0 }

def pool7 : Array CpInfo := pool [(1, u "java/lang/Cloneable"), (0, .class_ 1), (0, u "java/lang/Object"), (0, .class_ 3)] 3

/-- java/lang/Cloneable -/
def k7 : Class := { plain "java/lang/Cloneable" (some 0) with
  accessFlags := 1537
  interfaces := #[]
  cf := some (fileOf pool7 2 #[] #[] 1537 4 #[] #[])
  fields := #[]
  methods := #[]
  instanceTypes := #[]
  staticTypes := #[]
  resolved := Array.replicate 8 none
  statics := none }

/-- the primitive byte -/
def k8 : Class := { plain "byte" none with kind := .primitive 'B', accessFlags := 0x411 }
/-- [B -/
def k9 : Class := { plain "[B" (some 0) with kind := .array 8 .byte, interfaces := #[7, 4], accessFlags := 1041 }

/-- the primitive int -/
def k10 : Class := { plain "int" none with kind := .primitive 'I', accessFlags := 0x411 }
/-- [I -/
def k11 : Class := { plain "[I" (some 0) with kind := .array 10 .int, interfaces := #[7, 4], accessFlags := 1041 }

def heap : Heap := #[{ cls := 6, slots := #[.ref 1, .ref 2, .ref 3, .ref 4, .ref 5, .ref 6, .ref 7, .ref 8, .ref 9, .ref 10, .null, .null, .null], vm := .statics 6 },
  { cls := 6, slots := #[.null, .int 0, .int 0], vm := .none },
  { cls := 6, slots := #[.null, .int 1, .int 0], vm := .none },
  { cls := 6, slots := #[.null, .int 2, .int 0], vm := .none },
  { cls := 6, slots := #[.null, .int 3, .int 0], vm := .none },
  { cls := 6, slots := #[.null, .int 4, .int 0], vm := .none },
  { cls := 6, slots := #[.null, .int 5, .int 0], vm := .none },
  { cls := 6, slots := #[.null, .int 6, .int 0], vm := .none },
  { cls := 6, slots := #[.null, .int 7, .int 0], vm := .none },
  { cls := 6, slots := #[.null, .int 8, .int 0], vm := .none },
  { cls := 6, slots := #[.null, .int 9, .int 0], vm := .none }]
def classes : Array Class := #[k0, k1, k2, k3, k4, k5, k6, k7, k8, k9, k10, k11]
def interned : List (Array UInt16 × Addr) := []
def slotsUsed : Nat := 43
def theMethod : MethodId := ⟨1, 1⟩
def args0 : Array Value := #[.int 5]
def aboutOver (below : List Frame) : State where
  vm := { classes := classes, interned := interned.toArray }
  heap := heap
  slotsUsed := slotsUsed
  threads := #[{ frames := .invoking theMethod args0 :: below }]
def below0 : List Frame := [.native { method := ⟨0, 0⟩, args := #[] }]
def about1 : State := aboutOver below0
def p0 : Program := .bare "" "" ""
def e0 : Env := launch0.env 0 0 0
theorem w_frames : about1.frames = Frame.invoking theMethod args0 :: below0 := rfl
set_option maxRecDepth 65536 in
theorem w_args : argsFit about1.vm theMethod args0 = true := by decide +kernel
set_option maxRecDepth 65536 in
theorem w_heap : heapFits about1 = true := by decide +kernel
set_option maxRecDepth 65536 in
theorem w_runnable : about1.curStatus? = some .runnable := by decide +kernel
set_option maxRecDepth 65536 in
theorem w_alone : about1.alone = true := by decide +kernel
set_option maxRecDepth 65536 in
theorem w_named : about1.methodNamed? x = some theMethod := by decide +kernel
set_option maxRecDepth 65536 in
theorem w_hears : about1.hears theMethod below0 = true := by decide +kernel
set_option maxRecDepth 65536 in
theorem w_ripe : about1.ripe theMethod args0 below0 = true := by decide +kernel
theorem w_running : about1.status = .running := rfl
set_option maxRecDepth 65536 in
theorem w_room : about1.hasRoom e0.platform room_1 = true :=
  launch0.hasRoom_least _ room_1 (by decide +kernel) (by decide +kernel) (by decide +kernel) (by decide +kernel) (by decide +kernel) (by decide +kernel)
theorem allAtoms_all (ts : List Jvm.Cond) (a : Array Jvm.Value) (st : Jvm.State) : (allAtoms ts).before a st = ts.all (fun c => c.before a st) := by
  induction ts with
  | nil => rfl
  | cons c t ih =>
    show (Jvm.Cond.and c (allAtoms t)).before a st = _
    rw [Jvm.Cond.before_and, ih, List.all_cons]
def words1 : List Jvm.Cond := Jvm.Cond.code x code maxLocals ret :: tables_1
/-- a 'code' word, met by the world's own term for the bytes: nothing is compared byte by byte -/
theorem code_word {y : MethodName} {bytes : ByteArray} {mx : Nat} {rt : Option FieldType} {a : Array Value} {s : State} {m : MethodId} {meth : Method} {c : Code} (h1 : s.methodNamed? y = some m) (h2 : s.vm.method? m = some meth) (h3 : meth.code = some c) (h4 : c.code = bytes)
    (h5 : (c.maxLocals == mx && c.exceptionTable.isEmpty && decide (c.maxStack ≤ mostOperands) && decide (meth.sig.returnType = rt) && !meth.locks && decide (parseMethodDescriptor y.desc = some meth.sig)) = true) : (Jvm.Cond.code y bytes mx rt).before a s = true := by
  simp only [Bool.and_eq_true, beq_iff_eq, Bool.not_eq_true', decide_eq_true_eq] at h5
  obtain ⟨⟨⟨⟨⟨g1, g2⟩, g3⟩, g4⟩, g5⟩, g6⟩ := h5
  simp [Cond.before, Cond.holds, Cond.value, h1, h2, h3, h4, g1, g2, g3, g4, g5, g6]
def isCode : Jvm.Cond → Bool
  | .code _ _ _ _ => true
  | _ => false
theorem all_split {L : List Jvm.Cond} {P : Jvm.Cond → Bool} (h1 : L.all (fun c => isCode c || P c) = true) (h2 : ∀ c ∈ L.filter isCode, P c = true) : L.all P = true := by
  refine List.all_eq_true.mpr fun c hc => ?_
  have h := List.all_eq_true.mp h1 c hc
  rcases Bool.eq_false_or_eq_true (isCode c) with hi | hi
  · exact h2 c (List.mem_filter.mpr ⟨hc, hi⟩)
  · simpa [hi] using h
set_option maxRecDepth 65536 in
theorem w_c0 : (Jvm.Cond.code x code maxLocals ret).before args0 about1 = true := code_word (m := ⟨1, 1⟩) (meth := k1m1) (c := k1c1) (by decide +kernel) rfl rfl rfl (by decide +kernel)
set_option maxRecDepth 65536 in
theorem w_c1 : (Jvm.Cond.code ({ cls := "com/example/termflow/termflow/pull/StatusChangesStorePinLaw", name := "pick", desc := "(I)Lcom/example/termflow/termflow/pull/Status;" } : Jvm.MethodName) method_3_code (1 : Nat) (Option.some (Jvm.ClassFile.FieldType.object "com/example/termflow/termflow/pull/Status"))).before args0 about1 = true := code_word (m := ⟨1, 2⟩) (meth := k1m2) (c := k1c2) (by decide +kernel) rfl rfl rfl (by decide +kernel)
set_option maxRecDepth 65536 in
theorem w_c2 : (Jvm.Cond.code ({ cls := "com/example/termflow/termflow/pull/Status", name := "changesStore", desc := "()Z" } : Jvm.MethodName) prog_85_method_6_code (1 : Nat) (Option.some Jvm.ClassFile.FieldType.boolean)).before args0 about1 = true := code_word (m := ⟨6, 0⟩) (meth := k6m0) (c := k6c0) (by decide +kernel) rfl rfl rfl (by decide +kernel)
def codes1 : List Jvm.Cond := [Jvm.Cond.code x code maxLocals ret, Jvm.Cond.code ({ cls := "com/example/termflow/termflow/pull/StatusChangesStorePinLaw", name := "pick", desc := "(I)Lcom/example/termflow/termflow/pull/Status;" } : Jvm.MethodName) method_3_code (1 : Nat) (Option.some (Jvm.ClassFile.FieldType.object "com/example/termflow/termflow/pull/Status")), Jvm.Cond.code ({ cls := "com/example/termflow/termflow/pull/Status", name := "changesStore", desc := "()Z" } : Jvm.MethodName) prog_85_method_6_code (1 : Nat) (Option.some Jvm.ClassFile.FieldType.boolean)]
set_option maxRecDepth 65536 in
theorem codes_eq : words1.filter isCode = codes1 := rfl
theorem w_codes : ∀ c ∈ words1.filter isCode, c.before args0 about1 = true := by
  rw [codes_eq]
  intro c hc
  simp only [codes1, List.mem_cons, List.not_mem_nil, or_false] at hc
  rcases hc with rfl | rfl | rfl
  · exact w_c0
  · exact w_c1
  · exact w_c2
set_option maxRecDepth 65536 in
theorem w_t1 : (words1.take 24).all (fun c => isCode c || c.before args0 about1) = true := by decide +kernel
set_option maxRecDepth 65536 in
theorem w_t2 : (words1.drop 24).all (fun c => isCode c || c.before args0 about1) = true := by decide +kernel
theorem w_tables : (allAtoms (Jvm.Cond.code x code maxLocals ret :: tables_1)).before args0 about1 = true := by
  rw [allAtoms_all]
  show words1.all (fun c => c.before args0 about1) = true
  refine all_split ?_ w_codes
  rw [← List.take_append_drop 24 words1, List.all_append, w_t1, w_t2]
  rfl
set_option maxRecDepth 65536 in
theorem w_case : (Jvm.Cond.and given_1 narrow_1).before args0 about1 = true := by decide +kernel
theorem w_applies : (headSpec (Jvm.Cond.code x code maxLocals ret :: tables_1) room_1).applies x e0.platform about1 = true :=
  (Spec.applies_iff w_frames).mpr ⟨w_running, w_runnable, w_alone, w_named, w_hears, w_ripe, w_room, w_tables⟩
theorem atStart : AtStart classFile x code maxLocals ret World_1 tables_1 room_1 Calls_1 rest_1 Pre_1 launch0 p0 e0 about1 theMethod args0 below0 :=
  ⟨lists_1, trivial, launch0.admits_env _ _ _, launch0.least_env, fairChoices_fair.cas, fairChoices_fair.clock, w_frames, w_args, w_heap, w_applies, trivial, trivial, w_case⟩
end start1
theorem witness_1 : WitnessClaimed_1 := ⟨start1.p0, start1.e0, start1.about1, start1.theMethod, start1.args0, start1.below0, start1.atStart⟩
end Jvm.Pilot.@@N@@
