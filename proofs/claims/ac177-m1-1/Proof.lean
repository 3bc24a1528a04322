import JvmDerived
import JvmDerived.Pilot.@@N@@Statement
import JvmDerived.Pilot.@@N@@Code
set_option linter.unusedVariables false
set_option linter.unusedSimpArgs false
namespace Jvm.RoadKit
open Sem ClassFile Op Lib Jvm.Stand Jvm.Free Jvm.LawKit
section Own
variable {p : Program} {l : Launch} {e : Env} {R : Room} {s : State} {m : MethodId} {args : Array Value} {below : List Frame} {meth : Method} {c : Code} {T T' : State} {locs : List Loc} {cells slots : Nat} {CC SS : Nat} {Q : Option Value → Heap → List Loc → Prop} {g g' : JFrame}
/-- from the frame g over T the run returns, and what it leaves is as Q says -/
def Done (p : Program) (e : Env) (s : State) (below : List Frame) (CC SS : Nat) (Q : Option Value → Heap → List Loc → Prop) (T : State) (g : JFrame) : Prop :=
  ∃ s₂ o, Steps p.tables e below (T.setTop g) s₂ ∧ s₂.status = .running ∧ Ended s₂ below o ∧ ∃ v L, o = .returned v ∧ Q v s₂.heap L ∧ FrameEnd s o s₂ L CC SS
theorem Done.go (st : ∀ t, Steps p.tables e below (T'.setTop g') t → Steps p.tables e below (T.setTop g) t) (k : Done p e s below CC SS Q T' g') : Done p e s below CC SS Q T g := by
  obtain ⟨s2, o, h, r⟩ := k; exact ⟨s2, o, st _ h, r⟩
theorem Done.via (st : Steps p.tables e below (T.setTop g) (T'.setTop g')) (k : Done p e s below CC SS Q T' g') : Done p e s below CC SS Q T g := by
  obtain ⟨s2, o, h, r⟩ := k; exact ⟨s2, o, st.trans h, r⟩
theorem Done.ret (X : Stand p l e R s m args below meth c T locs cells slots) (hlk : meth.locks = false) {v : Option Value} (hv : meth.sig.returnType = none → v = none)
    (st : ∀ fs : List Frame, (∀ (f : JFrame) (acts : List Action), f.method = m → f.locked = none → f.entered = [] → (doReturn e (T.setTop f) acts v).1 = T.setFrames fs) → Steps p.tables e below (T.setTop g) (T.setFrames fs))
    (hq : Q v T.heap locs) (hc : cells ≤ CC) (hs : slots ≤ SS) : Done p e s below CC SS Q T g := by
  obtain ⟨fs, hr, hrun, hended, hW, hsame⟩ := X.leave (v := v) hv hlk
  exact ⟨_, _, st fs hr, hrun, hended, _, _, rfl, hq, ⟨_, rfl⟩, hW, hsame.mono hc hs⟩
theorem Done.retI (X : Stand p l e R s m args below meth c T locs cells slots) (hx : p.tables.exec = Jvm.exec) (hlk : meth.locks = false) {pc : Nat} {Ls : Array Slot} {z : Int32} {rest : List Value} (hret : meth.sig.returnType = some .int) (hd : decode c.code pc = .ok (.ireturn, 1))
    (hq : Q (some (.int z)) T.heap locs) (hc : cells ≤ CC) (hs : slots ≤ SS) : Done p e s below CC SS Q T (mkF m pc Ls (.int z :: rest)) := by
  refine Done.ret X hlk (fun h => by rw [hret] at h; cases h) (fun fs hl => ?_) hq hc hs
  have hm' : T.vm.method? m = some meth := X.method'
  have hn : narrow .int (.int z) = .int z := rfl
  show Steps p.tables e below (T.setTop { method := m, pc := pc, locals := Ls, stack := _ :: rest, locked := none }) _
  jvm_step X.here [X.here.top, hx, hd, hm', hret, hn]
  first | (intro acts; rw [hl _ acts rfl rfl rfl]) | rw [hl _ _ rfl rfl rfl]
  exact Steps.refl _
theorem Done.retJ (X : Stand p l e R s m args below meth c T locs cells slots) (hx : p.tables.exec = Jvm.exec) (hlk : meth.locks = false) {pc : Nat} {Ls : Array Slot} {z : Int64} {rest : List Value} (hret : meth.sig.returnType = some .long) (hd : decode c.code pc = .ok (.lreturn, 1))
    (hq : Q (some (.long z)) T.heap locs) (hc : cells ≤ CC) (hs : slots ≤ SS) : Done p e s below CC SS Q T (mkF m pc Ls (.long z :: rest)) := by
  refine Done.ret X hlk (fun h => by rw [hret] at h; cases h) (fun fs hl => ?_) hq hc hs
  have hm' : T.vm.method? m = some meth := X.method'
  show Steps p.tables e below (T.setTop { method := m, pc := pc, locals := Ls, stack := _ :: rest, locked := none }) _
  jvm_step X.here [X.here.top, hx, hd, hm', hret]
  first | (intro acts; rw [hl _ acts rfl rfl rfl]) | rw [hl _ _ rfl rfl rfl]
  exact Steps.refl _
theorem Done.retR (X : Stand p l e R s m args below meth c T locs cells slots) (hx : p.tables.exec = Jvm.exec) (hlk : meth.locks = false) {pc : Nat} {Ls : Array Slot} {v : Value} {t : FieldType} {rest : List Value} (hret : meth.sig.returnType = some t) (ht : t.isReference = true) (hv : v.isRef = true) (hd : decode c.code pc = .ok (.areturn, 1))
    (hq : Q (some v) T.heap locs) (hc : cells ≤ CC) (hs : slots ≤ SS) : Done p e s below CC SS Q T (mkF m pc Ls (v :: rest)) := by
  refine Done.ret X hlk (fun h => by rw [hret] at h; cases h) (fun fs hl => ?_) hq hc hs
  have hm' : T.vm.method? m = some meth := X.method'
  show Steps p.tables e below (T.setTop { method := m, pc := pc, locals := Ls, stack := _ :: rest, locked := none }) _
  jvm_step X.here [X.here.top, hx, hd, hm', hret, ht, hv]
  first | (intro acts; rw [hl _ acts rfl rfl rfl]) | rw [hl _ _ rfl rfl rfl]
  exact Steps.refl _
theorem Done.retV (X : Stand p l e R s m args below meth c T locs cells slots) (hx : p.tables.exec = Jvm.exec) (hlk : meth.locks = false) {pc : Nat} {Ls : Array Slot} (hret : meth.sig.returnType = none) (hd : decode c.code pc = .ok (.return_, 1))
    (hq : Q none T.heap locs) (hc : cells ≤ CC) (hs : slots ≤ SS) : Done p e s below CC SS Q T (mkF m pc Ls []) :=
  Done.ret X hlk (fun _ => rfl) (fun fs hl => X.returnOut hx hret hd hl) hq hc hs
theorem Done.retN (X : Stand p l e R s m args below meth c T locs cells slots) (hx : p.tables.exec = Jvm.exec) (hlk : meth.locks = false) {pc : Nat} {Ls : Array Slot} {z z' : Int32} {t : FieldType} {rest : List Value} (hret : meth.sig.returnType = some t) (ht : t = .boolean ∨ t = .byte ∨ t = .char ∨ t = .short) (hz : nar t z = z')
    (hd : decode c.code pc = .ok (.ireturn, 1)) (hq : Q (some (.int z')) T.heap locs) (hc : cells ≤ CC) (hs : slots ≤ SS) : Done p e s below CC SS Q T (mkF m pc Ls (.int z :: rest)) := by
  subst hz
  exact Done.ret X hlk (fun h => by rw [hret] at h; cases h) (fun fs hl => Jvm.RoadKit.retN X hx hret ht hd hl) hq hc hs
theorem own_backG {rc rs : Nat} {rest : List Value} {Q0 : Option Value → Heap → List Loc → Prop} (h : ∃ (v : Option Value) (vm₁ : Vm) (B : Pt), s.WarmedH vm₁ ∧ Stand p l e R s m args below meth c B.U B.locs B.cells B.slots ∧ (∃ L, Q0 v B.U.heap L ∧ B.locs = locs ++ L ∧ B.cells = cells + rc ∧ B.slots = slots + rs) ∧
      ∀ target, Steps p.tables e below (B.U.setTop { g with pc := g.pc + 3, stack := v.toList ++ rest }) target → Steps p.tables e below (T.setTop g) target) :
    ∃ v T' Lc, Stand p l e R s m args below meth c T' (locs ++ Lc) (cells + rc) (slots + rs) ∧ Q0 v T'.heap Lc ∧ ∀ target, Steps p.tables e below (T'.setTop { g with pc := g.pc + 3, stack := v.toList ++ rest }) target → Steps p.tables e below (T.setTop g) target := by
  obtain ⟨v, vm, ⟨U, L, k, n⟩, -, X, ⟨Lc, hQ, rfl, rfl, rfl⟩, st⟩ := h
  exact ⟨v, U, Lc, X, hQ, st⟩
theorem own_backV {rc rs : Nat} {rest : List Value} {Q0 : Option Value → Heap → List Loc → Prop} (h : ∃ (v : Option Value) (vm₁ : Vm) (B : Pt), s.WarmedH vm₁ ∧ Stand p l e R s m args below meth c B.U B.locs B.cells B.slots ∧ (∃ L, Q0 v B.U.heap L ∧ B.locs = locs ++ L ∧ B.cells = cells + rc ∧ B.slots = slots + rs) ∧
      Steps p.tables e below (T.setTop g) (B.U.setTop { g with pc := g.pc + 3, stack := v.toList ++ rest })) :
    ∃ v T' Lc, Stand p l e R s m args below meth c T' (locs ++ Lc) (cells + rc) (slots + rs) ∧ Q0 v T'.heap Lc ∧ ∀ target, Steps p.tables e below (T'.setTop { g with pc := g.pc + 3, stack := v.toList ++ rest }) target → Steps p.tables e below (T.setTop g) target := by
  obtain ⟨v, vm, ⟨U, L, k, n⟩, -, X, ⟨Lc, hQ, rfl, rfl, rfl⟩, st⟩ := h
  exact ⟨v, U, Lc, X, hQ, fun _ k => st.trans k⟩
theorem own_backI {rc rs : Nat} {rest : List Value} {Q0 : Option Value → Heap → List Loc → Prop} (h : ∃ (v : Option Value) (vm₁ : Vm) (B : Pt), s.WarmedH vm₁ ∧ Stand p l e R s m args below meth c B.U B.locs B.cells B.slots ∧ (∃ L, Q0 v B.U.heap L ∧ B.locs = locs ++ L ∧ B.cells = cells + rc ∧ B.slots = slots + rs) ∧
      Steps p.tables e below (T.setTop g) (B.U.setTop { g with pc := g.pc + 5, stack := v.toList ++ rest })) :
    ∃ v T' Lc, Stand p l e R s m args below meth c T' (locs ++ Lc) (cells + rc) (slots + rs) ∧ Q0 v T'.heap Lc ∧ ∀ target, Steps p.tables e below (T'.setTop { g with pc := g.pc + 5, stack := v.toList ++ rest }) target → Steps p.tables e below (T.setTop g) target := by
  obtain ⟨v, vm, ⟨U, L, k, n⟩, -, X, ⟨Lc, hQ, rfl, rfl, rfl⟩, st⟩ := h
  exact ⟨v, U, Lc, X, hQ, fun _ k => st.trans k⟩
theorem own_narB (x : Int32) : nar .byte x.toInt8.toInt32 = x.toInt8.toInt32 := by simp [nar]
end Own
end Jvm.RoadKit
namespace Jvm.RoadKit
open Sem ClassFile Op Lib Jvm.Stand Jvm.Free Jvm.LawKit
section OwnA
variable {p : Program} {l : Launch} {e : Env} {R : Room} {s : State} {m : MethodId} {args : Array Value} {below : List Frame} {meth : Method} {c : Code} {T T' : State} {locs : List Loc} {cells slots : Nat} {CC SS : Nat} {Q : Option Value → Heap → List Loc → Prop} {g g' : JFrame} {Z : State} {h h' : Heap} {a b : Addr} {ty : FieldType} {n : Nat} {f f' : Nat → Int32} {ws : List Addr} {sl : Nat} {v : Value}
/-- an array of n places at a; place i holds f i -/
def Ari (Z : State) (h : Heap) (a : Addr) (ty : FieldType) (n : Nat) (f : Nat → Int32) : Prop := ∃ cl : Cell, Arr Z h a cl ty ∧ cl.slots.size = n ∧ n < 2 ^ 31 ∧ ∀ i, i < n → cl.slots[i]? = some (.int (f i))
theorem Ari.lt (F : Ari Z h a ty n f) : a < h.size := by obtain ⟨_, A, -⟩ := F; exact A.lt
theorem Ari.ext (F : Ari Z h a ty n f) (E : Ext h h') : Ari Z h' a ty n f := by obtain ⟨cl, A, r⟩ := F; exact ⟨cl, A.ext E, r⟩
theorem Ari.other (F : Ari Z h b ty n f) (W : Wr h h' a sl v) (q : b ≠ a) : Ari Z h' b ty n f := by obtain ⟨cl, A, r⟩ := F; exact ⟨cl, A.other W q, r⟩
theorem Ari.keep (F : Ari Z h a ty n f) (K : Keep h h' ws) (q : a ∉ ws) : Ari Z h' a ty n f := by obtain ⟨cl, A, r⟩ := F; exact ⟨cl, ⟨K.2.1 a cl A.1 q, A.2⟩, r⟩
theorem Ari.congr (F : Ari Z h a ty n f) (q : ∀ i, i < n → f i = f' i) : Ari Z h a ty n f' := by obtain ⟨cl, A, r1, r2, r⟩ := F; exact ⟨cl, A, r1, r2, fun i hi => by rw [r i hi, q i hi]⟩
theorem Ari.small (F : Ari Z h a ty n f) : n < 2 ^ 31 := by obtain ⟨_, _, _, r, _⟩ := F; exact r
theorem Ari.set {j : Nat} {w : Int32} (F : Ari Z h a ty n f) (W : Wr h h' a j (.int w)) : Ari Z h' a ty n (fun i => if i = j then w else f i) := by
  obtain ⟨cl, A, r1, r2, r⟩ := F
  refine ⟨_, A.same W, by rw [sz_set]; exact r1, r2, fun i hi => ?_⟩
  by_cases u : i = j
  · subst u; simp [Cell.setSlot, r1, hi]
  · have := r i hi; simp only [Cell.setSlot, if_neg u]; rw [Array.getElem?_setIfInBounds_ne (Ne.symm u)]; exact this
theorem Ari.new {k : ClassId} {z : Int32} (A : Arr Z h a (newA k ty z) ty) (q : ¬ z < 0) (hz : z.toNatClampNeg = n) (hd : defaultValue ty = .int 0) : Ari Z h a ty n (fun _ => 0) :=
  ⟨_, A, by rw [sz_new, hz], by have := (back32 q).2; rw [hz] at this; exact this, fun i hi => by simp [newA, hz, hi, hd]⟩
theorem Ari.inb {cl : Cell} {j : Int32} {i : Nat} (hs : cl.slots.size = n) (hj : ¬ j < 0) (hi : j.toNatClampNeg = i) (hn : i < n) : ¬ (j < 0 ∨ cl.slots.size ≤ j.toNatClampNeg) := by
  rintro (q | q)
  · exact hj q
  · rw [hs, hi] at q; omega
theorem own_stB (X : Stand p l e R s m args below meth c T locs cells slots) (hx : p.tables.exec = Jvm.exec) (hZ : Z.Warmed39 s.vm) (eT : T.heap = h) (F : Ari Z h a .byte n f) {j x : Int32} (i : Nat) (hj : ¬ j < 0) (hi : j.toNatClampNeg = i) (hn : i < n) {g : JFrame} (hg : g.method = m) {rest : List Value} (hs : g.stack = .int x :: .int j :: .ref a :: rest) (hd : decode c.code g.pc = .ok (.bastore, 1)) :
    ∃ T' h', Stand p l e R s m args below meth c T' (locs ++ [⟨a, i⟩]) cells slots ∧ T'.heap = h' ∧ Wr h h' a i (.int (nar .byte x)) ∧ Ari Z h' a .byte n (fun k => if k = i then nar .byte x else f k) ∧ ∀ target, Steps p.tables e below (T'.setTop { g with pc := g.pc + 1, stack := rest }) target → Steps p.tables e below (T.setTop g) target := by
  obtain ⟨cl, A, r1, r2, r⟩ := F
  obtain ⟨T', h', X', e', W, st⟩ := stB X hx hZ eT A (j := j) (x := x) (Ari.inb r1 hj hi hn) hg hs hd
  rw [hi] at X' W
  exact ⟨T', h', X', e', W, Ari.set ⟨cl, A, r1, r2, r⟩ W, st⟩
theorem Done.ldB (X : Stand p l e R s m args below meth c T locs cells slots) (hx : p.tables.exec = Jvm.exec) (hZ : Z.Warmed39 s.vm) (eT : T.heap = h) (F : Ari Z h a .byte n f) {j w : Int32} (i : Nat) (hj : ¬ j < 0) (hi : j.toNatClampNeg = i) (hn : i < n) (hw : f i = w) {pc : Nat} {Ls : Array Slot} {rest : List Value} (hd : decode c.code pc = .ok (.baload, 1))
    (k : Done p e s below CC SS Q T (mkF m (pc + 1) Ls (.int w :: rest))) : Done p e s below CC SS Q T (mkF m pc Ls (.int j :: .ref a :: rest)) := by
  obtain ⟨cl, A, r1, r2, r⟩ := F
  refine Done.go (fun t kk => X.baloadBytes hx (j := j) (v := .int w) (by rw [eT]; exact A.1) (State.isArrayOf_alike hZ.alike A.2.1) A.2.2 (Ari.inb r1 hj hi hn) (by rw [hi, ← hw]; exact r i hn) (g := (mkF m pc Ls (.int j :: .ref a :: rest))) rfl rfl hd t kk) k
theorem Done.len (X : Stand p l e R s m args below meth c T locs cells slots) (hx : p.tables.exec = Jvm.exec) (hZ : Z.Warmed39 s.vm) (eT : T.heap = h) (F : Ari Z h a ty n f) {z : Int32} (hz : n.toInt32 = z) {pc : Nat} {Ls : Array Slot} {rest : List Value} (hd : decode c.code pc = .ok (.arraylength, 1))
    (k : Done p e s below CC SS Q T (mkF m (pc + 1) Ls (.int z :: rest))) : Done p e s below CC SS Q T (mkF m pc Ls (.ref a :: rest)) := by
  obtain ⟨cl, A, r1, r2, r⟩ := F
  subst r1 hz
  exact Done.go (fun t kk => X.arraylength hx (by rw [eT]; exact A.1) (State.isArrayOf_alike hZ.alike A.2.1) (g := (mkF m pc Ls (.ref a :: rest))) rfl rfl hd t kk) k
theorem own_nt {a b : Prop} (h : a ↔ b) (q : ¬ a) : ¬ b := fun r => q (h.mpr r)
theorem own_lt32 {x y : Int32} (hx : ¬ x < 0) (hy : ¬ y < 0) : x < y ↔ x.toNatClampNeg < y.toNatClampNeg := by
  have h0 : (0 : Int32).toInt = 0 := rfl
  rw [Int32.lt_iff_toInt_lt, h0] at hx hy
  rw [Int32.lt_iff_toInt_lt]
  simp only [Int32.toNatClampNeg]; omega
theorem own_mask (x m : Int32) (k : Nat) (hk : k ≤ 31) (hm : m.toBitVec.toNat = 2 ^ k - 1) : ¬ (x &&& m) < 0 ∧ (x &&& m).toNatClampNeg < 2 ^ k := by
  have h := c_mask x m k hk hm
  have hp : (0 : Int) < (2 ^ k : Nat) := by exact_mod_cast Nat.two_pow_pos k
  have h1 := Int.emod_nonneg x.toInt (Int.ne_of_gt hp)
  have h2 := Int.emod_lt_of_pos x.toInt hp
  have h0 : (0 : Int32).toInt = 0 := rfl
  rw [Int32.lt_iff_toInt_lt, h0]
  simp only [Int32.toNatClampNeg]
  constructor
  · omega
  · rw [h]; omega
end OwnA
end Jvm.RoadKit
namespace Jvm.RoadKit
open Sem ClassFile Op Lib Jvm.Stand Jvm.Free Jvm.LawKit
section OwnD
variable {p : Program} {l : Launch} {e : Env} {R : Room} {s : State} {m : MethodId} {args : Array Value} {below : List Frame} {meth : Method} {c : Code} {T : State} {locs : List Loc} {cells slots : Nat} {CC SS : Nat} {Q : Option Value → Heap → List Loc → Prop} {Z : State} {h h' : Heap} {a b : Addr} {ws : List Addr} {sl : Nat} {v w : Value} {n : Nat} {f f' : Nat → Int64}
/-- a double[] of n places at a; place i holds the whole number f i -/
def Ard (Z : State) (h : Heap) (a : Addr) (n : Nat) (f : Nat → Int64) : Prop := ∃ cl : Cell, Arr Z h a cl .double ∧ cl.slots.size = n ∧ n < 2 ^ 31 ∧ ∀ i, i < n → cl.slots[i]? = some (.double (FP.l2d (f i)))
theorem Ard.lt (F : Ard Z h a n f) : a < h.size := by obtain ⟨_, A, -⟩ := F; exact A.lt
theorem Ard.ext (F : Ard Z h a n f) (E : Ext h h') : Ard Z h' a n f := by obtain ⟨cl, A, r⟩ := F; exact ⟨cl, A.ext E, r⟩
theorem Ard.other (F : Ard Z h b n f) (W : Wr h h' a sl v) (q : b ≠ a) : Ard Z h' b n f := by obtain ⟨cl, A, r⟩ := F; exact ⟨cl, A.other W q, r⟩
theorem Ard.keep (F : Ard Z h a n f) (K : Keep h h' ws) (q : a ∉ ws) : Ard Z h' a n f := by obtain ⟨cl, A, r⟩ := F; exact ⟨cl, ⟨K.2.1 a cl A.1 q, A.2⟩, r⟩
theorem Ard.congr (F : Ard Z h a n f) (q : ∀ i, i < n → f i = f' i) : Ard Z h a n f' := by obtain ⟨cl, A, r1, r2, r⟩ := F; exact ⟨cl, A, r1, r2, fun i hi => by rw [r i hi, q i hi]⟩
theorem Ard.set {j : Nat} {y : Int64} (F : Ard Z h a n f) (W : Wr h h' a j (.double (FP.l2d y))) : Ard Z h' a n (fun i => if i = j then y else f i) := by
  obtain ⟨cl, A, r1, r2, r⟩ := F
  refine ⟨_, A.same W, by rw [sz_set]; exact r1, r2, fun i hi => ?_⟩
  by_cases u : i = j
  · subst u; simp [Cell.setSlot, r1, hi]
  · have := r i hi; simp only [Cell.setSlot, if_neg u]; rw [Array.getElem?_setIfInBounds_ne (Ne.symm u)]; exact this
theorem Ard.new {k : ClassId} {z : Int32} (A : Arr Z h a (newA k .double z) .double) (q : ¬ z < 0) (hz : z.toNatClampNeg = n) : Ard Z h a n (fun _ => 0) :=
  ⟨_, A, by rw [sz_new, hz], by have := (back32 q).2; rw [hz] at this; exact this, fun i hi => by simp [newA, hz, hi, defaultValue, l2d_zero]⟩
theorem own_stD (X : Stand p l e R s m args below meth c T locs cells slots) (hx : p.tables.exec = Jvm.exec) (hZ : Z.Warmed39 s.vm) (eT : T.heap = h) (F : Ard Z h a n f) {j : Int32} {y : Int64} (i : Nat) (hj : ¬ j < 0) (hi : j.toNatClampNeg = i) (hn : i < n) {g : JFrame} (hg : g.method = m) {rest : List Value} (hs : g.stack = .double (FP.l2d y) :: .int j :: .ref a :: rest) (hd : decode c.code g.pc = .ok (.dastore, 1)) :
    ∃ T' h', Stand p l e R s m args below meth c T' (locs ++ [⟨a, i⟩]) cells slots ∧ T'.heap = h' ∧ Wr h h' a i (.double (FP.l2d y)) ∧ Ard Z h' a n (fun k => if k = i then y else f k) ∧ ∀ target, Steps p.tables e below (T'.setTop { g with pc := g.pc + 1, stack := rest }) target → Steps p.tables e below (T.setTop g) target := by
  obtain ⟨cl, A, r1, r2, r⟩ := F
  obtain ⟨T', h', X', e', W, st⟩ := stD X hx hZ eT A (j := j) (x := FP.l2d y) (Ari.inb r1 hj hi hn) hg hs hd
  rw [hi] at X' W
  exact ⟨T', h', X', e', W, Ard.set ⟨cl, A, r1, r2, r⟩ W, st⟩
theorem Done.ldD (X : Stand p l e R s m args below meth c T locs cells slots) (hx : p.tables.exec = Jvm.exec) (hZ : Z.Warmed39 s.vm) (eT : T.heap = h) (F : Ard Z h a n f) {j : Int32} {y : Int64} (i : Nat) (hj : ¬ j < 0) (hi : j.toNatClampNeg = i) (hn : i < n) (hw : f i = y) {pc : Nat} {Ls : Array Slot} {rest : List Value} (hd : decode c.code pc = .ok (.daload, 1))
    (k : Done p e s below CC SS Q T (mkF m (pc + 1) Ls (.double (FP.l2d y) :: rest))) : Done p e s below CC SS Q T (mkF m pc Ls (.int j :: .ref a :: rest)) := by
  obtain ⟨cl, A, r1, r2, r⟩ := F
  exact Done.go (fun t kk => X.daload hx (j := j) (v := .double (FP.l2d y)) (by rw [eT]; exact A.1) (State.isArrayOf_alike hZ.alike A.2.1) A.2.2 (Ari.inb r1 hj hi hn) (by rw [hi, ← hw]; exact r i hn) (g := (mkF m pc Ls (.int j :: .ref a :: rest))) rfl rfl hd t kk) k
variable {fi : Nat → Int32}
theorem own_stI (X : Stand p l e R s m args below meth c T locs cells slots) (hx : p.tables.exec = Jvm.exec) (hZ : Z.Warmed39 s.vm) (eT : T.heap = h) (F : Ari Z h a .int n fi) {j x : Int32} (i : Nat) (hj : ¬ j < 0) (hi : j.toNatClampNeg = i) (hn : i < n) {g : JFrame} (hg : g.method = m) {rest : List Value} (hs : g.stack = .int x :: .int j :: .ref a :: rest) (hd : decode c.code g.pc = .ok (.iastore, 1)) :
    ∃ T' h', Stand p l e R s m args below meth c T' (locs ++ [⟨a, i⟩]) cells slots ∧ T'.heap = h' ∧ Wr h h' a i (.int x) ∧ Ari Z h' a .int n (fun k => if k = i then x else fi k) ∧ ∀ target, Steps p.tables e below (T'.setTop { g with pc := g.pc + 1, stack := rest }) target → Steps p.tables e below (T.setTop g) target := by
  obtain ⟨cl, A, r1, r2, r⟩ := F
  obtain ⟨T', h', X', e', W, st⟩ := stI X hx hZ eT A (j := j) (x := x) (Ari.inb r1 hj hi hn) hg hs hd
  rw [hi] at X' W
  exact ⟨T', h', X', e', W, Ari.set ⟨cl, A, r1, r2, r⟩ W, st⟩
theorem Done.ldI (X : Stand p l e R s m args below meth c T locs cells slots) (hx : p.tables.exec = Jvm.exec) (hZ : Z.Warmed39 s.vm) (eT : T.heap = h) (F : Ari Z h a .int n fi) {j w : Int32} (i : Nat) (hj : ¬ j < 0) (hi : j.toNatClampNeg = i) (hn : i < n) (hw : fi i = w) {pc : Nat} {Ls : Array Slot} {rest : List Value} (hd : decode c.code pc = .ok (.iaload, 1))
    (k : Done p e s below CC SS Q T (mkF m (pc + 1) Ls (.int w :: rest))) : Done p e s below CC SS Q T (mkF m pc Ls (.int j :: .ref a :: rest)) := by
  obtain ⟨cl, A, r1, r2, r⟩ := F
  exact Done.go (fun t kk => X.iaload hx (j := j) (v := .int w) (by rw [eT]; exact A.1) (State.isArrayOf_alike hZ.alike A.2.1) A.2.2 (Ari.inb r1 hj hi hn) (by rw [hi, ← hw]; exact r i hn) (g := (mkF m pc Ls (.int j :: .ref a :: rest))) rfl rfl hd t kk) k
theorem Done.retD (X : Stand p l e R s m args below meth c T locs cells slots) (hx : p.tables.exec = Jvm.exec) (hlk : meth.locks = false) {pc : Nat} {Ls : Array Slot} {z : UInt64} {rest : List Value} (hret : meth.sig.returnType = some .double) (hd : decode c.code pc = .ok (.dreturn, 1))
    (hq : Q (some (.double z)) T.heap locs) (hc : cells ≤ CC) (hs : slots ≤ SS) : Done p e s below CC SS Q T (mkF m pc Ls (.double z :: rest)) := by
  refine Done.ret X hlk (fun h => by rw [hret] at h; cases h) (fun fs hl => ?_) hq hc hs
  have hm' : T.vm.method? m = some meth := X.method'
  show Steps p.tables e below (T.setTop { method := m, pc := pc, locals := Ls, stack := _ :: rest, locked := none }) _
  jvm_step X.here [X.here.top, hx, hd, hm', hret]
  first | (intro acts; rw [hl _ acts rfl rfl rfl]) | rw [hl _ _ rfl rfl rfl]
  exact Steps.refl _
theorem own_d0 : FP.dconst0 = FP.l2d 0 := by rw [l2d_zero]; rfl
end OwnD
end Jvm.RoadKit
namespace Jvm.RoadKit
open Sem ClassFile Op Lib Jvm.Stand Jvm.Free Jvm.LawKit
theorem own_plainE {Z : State} {h : Heap} {a : Addr} {C : String} (E : Exa Z h a C) : ∃ c : Cell, h[a]? = some c ∧ c.vm.isStatics = false := by obtain ⟨c, _, h1, -, -, h4, -⟩ := E; exact ⟨c, h1, h4⟩
theorem Sta.own_keepL {Z : State} {h h' : Heap} {C n d : String} {w : Value} {ws : List Addr} (F : Sta Z h C n d w) (K : Keep h h' ws) (q : ∀ a ∈ ws, ∃ c : Cell, h[a]? = some c ∧ c.vm.isStatics = false) : Sta Z h' C n d w := by
  obtain ⟨cf, i, kk, ff, st, cell, h1, h2, h3, h4, h5, h6, h7⟩ := F
  have ne : st ∉ ws := fun e => by
    obtain ⟨c, u1, u2⟩ := q st e
    cases h5.symm.trans u1
    rw [u2] at h6; cases h6
  exact ⟨cf, i, kk, ff, st, cell, h1, h2, h3, h4, K.2.1 st cell h5 ne, h6, h7⟩
end Jvm.RoadKit
namespace Jvm.RoadKit
open Sem ClassFile Op Lib Jvm.Stand Jvm.Free Jvm.LawKit
section OwnWD
variable {p : Program} {l : Launch} {e : Env} {R : Room} {s bs : State} {m : MethodId} {args : Array Value} {below : List Frame} {meth : Method} {c : Code} {T T' : State} {locs : List Loc} {cells slots : Nat} {CC SS : Nat} {Q : Option Value → Heap → List Loc → Prop} {g g' : JFrame}
theorem own_dummyW : True := trivial
/-- the base bs over which a walk stands, and the true start s: what was interned since lies below k -/
def Sn (s bs : State) (k : Nat) : Prop := ∃ vm, bs = s.setVm vm ∧ s.Since vm k
theorem Sn.start (s : State) (k : Nat) : Sn s s k := ⟨s.vm, rfl, (State.WarmedH.refl s).since k⟩
def DoneW (p : Program) (e : Env) (s : State) (below : List Frame) (CC SS : Nat) (Q : Option Value → Heap → List Loc → Prop) (T : State) (g : JFrame) : Prop :=
  ∃ s₂ o, Steps p.tables e below (T.setTop g) s₂ ∧ s₂.status = .running ∧ Ended s₂ below o ∧ ∃ v L, o = .returned v ∧ Q v s₂.heap L ∧ ReturnedEndW s o s₂ L CC SS
theorem DoneW.ret (X : Stand p l e R bs m args below meth c T locs cells slots) (hlk : meth.locks = false ∧ ∃ k, Sn s bs k ∧ k ≤ T.heap.size) {v : Option Value} (hv : meth.sig.returnType = none → v = none)
    (st : ∀ fs : List Frame, (∀ (f : JFrame) (acts : List Action), f.method = m → f.locked = none → f.entered = [] → (doReturn e (T.setTop f) acts v).1 = T.setFrames fs) → Steps p.tables e below (T.setTop g) (T.setFrames fs))
    (hq : Q v T.heap locs) (hc : cells ≤ CC) (hs : slots ≤ SS) : DoneW p e s below CC SS Q T g := by
  obtain ⟨hl, k, ⟨vm, rfl, hS⟩, hk⟩ := hlk
  obtain ⟨fs, hr, hrun, hended, hW⟩ := X.leaveW hS hk (v := v) hv hl
  exact ⟨_, _, st fs hr, hrun, hended, _, _, rfl, hq, hW.1, hW.2.1, hW.2.2.1, hW.2.2.2.mono hc hs⟩
theorem DoneW.go (st : ∀ t, Steps p.tables e below (T'.setTop g') t → Steps p.tables e below (T.setTop g) t) (k : DoneW p e s below CC SS Q T' g') : DoneW p e s below CC SS Q T g := by
  obtain ⟨s2, o, h, r⟩ := k; exact ⟨s2, o, st _ h, r⟩
theorem DoneW.via (st : Steps p.tables e below (T.setTop g) (T'.setTop g')) (k : DoneW p e s below CC SS Q T' g') : DoneW p e s below CC SS Q T g := by
  obtain ⟨s2, o, h, r⟩ := k; exact ⟨s2, o, st.trans h, r⟩
theorem DoneW.retI (X : Stand p l e R bs m args below meth c T locs cells slots) (hx : p.tables.exec = Jvm.exec) (hlk : meth.locks = false ∧ ∃ k, Sn s bs k ∧ k ≤ T.heap.size) {pc : Nat} {Ls : Array Slot} {z : Int32} {rest : List Value} (hret : meth.sig.returnType = some .int) (hd : decode c.code pc = .ok (.ireturn, 1))
    (hq : Q (some (.int z)) T.heap locs) (hc : cells ≤ CC) (hs : slots ≤ SS) : DoneW p e s below CC SS Q T (mkF m pc Ls (.int z :: rest)) := by
  refine DoneW.ret X hlk (fun h => by rw [hret] at h; cases h) (fun fs hl => ?_) hq hc hs
  have hm' : T.vm.method? m = some meth := X.method'
  have hn : narrow .int (.int z) = .int z := rfl
  show Steps p.tables e below (T.setTop { method := m, pc := pc, locals := Ls, stack := _ :: rest, locked := none }) _
  jvm_step X.here [X.here.top, hx, hd, hm', hret, hn]
  first | (intro acts; rw [hl _ acts rfl rfl rfl]) | rw [hl _ _ rfl rfl rfl]
  exact Steps.refl _
theorem DoneW.retJ (X : Stand p l e R bs m args below meth c T locs cells slots) (hx : p.tables.exec = Jvm.exec) (hlk : meth.locks = false ∧ ∃ k, Sn s bs k ∧ k ≤ T.heap.size) {pc : Nat} {Ls : Array Slot} {z : Int64} {rest : List Value} (hret : meth.sig.returnType = some .long) (hd : decode c.code pc = .ok (.lreturn, 1))
    (hq : Q (some (.long z)) T.heap locs) (hc : cells ≤ CC) (hs : slots ≤ SS) : DoneW p e s below CC SS Q T (mkF m pc Ls (.long z :: rest)) := by
  refine DoneW.ret X hlk (fun h => by rw [hret] at h; cases h) (fun fs hl => ?_) hq hc hs
  have hm' : T.vm.method? m = some meth := X.method'
  show Steps p.tables e below (T.setTop { method := m, pc := pc, locals := Ls, stack := _ :: rest, locked := none }) _
  jvm_step X.here [X.here.top, hx, hd, hm', hret]
  first | (intro acts; rw [hl _ acts rfl rfl rfl]) | rw [hl _ _ rfl rfl rfl]
  exact Steps.refl _
theorem DoneW.retR (X : Stand p l e R bs m args below meth c T locs cells slots) (hx : p.tables.exec = Jvm.exec) (hlk : meth.locks = false ∧ ∃ k, Sn s bs k ∧ k ≤ T.heap.size) {pc : Nat} {Ls : Array Slot} {v : Value} {t : FieldType} {rest : List Value} (hret : meth.sig.returnType = some t) (ht : t.isReference = true) (hv : v.isRef = true) (hd : decode c.code pc = .ok (.areturn, 1))
    (hq : Q (some v) T.heap locs) (hc : cells ≤ CC) (hs : slots ≤ SS) : DoneW p e s below CC SS Q T (mkF m pc Ls (v :: rest)) := by
  refine DoneW.ret X hlk (fun h => by rw [hret] at h; cases h) (fun fs hl => ?_) hq hc hs
  have hm' : T.vm.method? m = some meth := X.method'
  show Steps p.tables e below (T.setTop { method := m, pc := pc, locals := Ls, stack := _ :: rest, locked := none }) _
  jvm_step X.here [X.here.top, hx, hd, hm', hret, ht, hv]
  first | (intro acts; rw [hl _ acts rfl rfl rfl]) | rw [hl _ _ rfl rfl rfl]
  exact Steps.refl _
theorem DoneW.retV (X : Stand p l e R bs m args below meth c T locs cells slots) (hx : p.tables.exec = Jvm.exec) (hlk : meth.locks = false ∧ ∃ k, Sn s bs k ∧ k ≤ T.heap.size) {pc : Nat} {Ls : Array Slot} (hret : meth.sig.returnType = none) (hd : decode c.code pc = .ok (.return_, 1))
    (hq : Q none T.heap locs) (hc : cells ≤ CC) (hs : slots ≤ SS) : DoneW p e s below CC SS Q T (mkF m pc Ls []) :=
  DoneW.ret X hlk (fun _ => rfl) (fun fs hl => X.returnOut hx hret hd hl) hq hc hs
theorem DoneW.retN (X : Stand p l e R bs m args below meth c T locs cells slots) (hx : p.tables.exec = Jvm.exec) (hlk : meth.locks = false ∧ ∃ k, Sn s bs k ∧ k ≤ T.heap.size) {pc : Nat} {Ls : Array Slot} {z z' : Int32} {t : FieldType} {rest : List Value} (hret : meth.sig.returnType = some t) (ht : t = .boolean ∨ t = .byte ∨ t = .char ∨ t = .short) (hz : nar t z = z')
    (hd : decode c.code pc = .ok (.ireturn, 1)) (hq : Q (some (.int z')) T.heap locs) (hc : cells ≤ CC) (hs : slots ≤ SS) : DoneW p e s below CC SS Q T (mkF m pc Ls (.int z :: rest)) := by
  subst hz
  exact DoneW.ret X hlk (fun h => by rw [hret] at h; cases h) (fun fs hl => Jvm.RoadKit.retN X hx hret ht hd hl) hq hc hs
end OwnWD
section OwnW
variable {p : Program} {l : Launch} {e : Env} {R : Room} {s bs : State} {m : MethodId} {args : Array Value} {below : List Frame} {meth : Method} {c : Code} {T T' : State} {locs : List Loc} {cells slots : Nat} {Z : State} {a0 : Array Value} {h : Heap} {g : JFrame}
theorem own_ldcS (X : Stand p l e R bs m args below meth c T locs cells slots) (hx : p.tables.exec = Jvm.exec) (hZ : Z.Warmed39 bs.vm) {own text : String} {index : Nat} (hown : bs.vm.findClass own = some m.cls) (w : (Cond.stringLink own index text).before a0 Z = true) (wS : ∀ a ∈ Bundle.stringAtoms, a.before a0 Z = true)
    (eT : T.heap = h) {k0 : Nat} (hS : Sn s bs k0) (hk : k0 ≤ h.size) (hg : g.method = m) (hd : decode c.code g.pc = .ok (.ldc index, 2)) {n : Nat} (hn : 4 * text.toList.length ≤ n) (hbig : n ≤ 536870912) (hc : cells + 2 ≤ R.cells) (hl : slots + (n + 4) ≤ R.slots) :
    ∃ (a : Addr) (T' : State) (h' : Heap) (b' : State) (k1 : Nat), Stand p l e R b' m args below meth c T' locs (cells + 2) (slots + (n + 4)) ∧ T'.heap = h' ∧ Ext h h' ∧ Sn s b' k1 ∧ k1 ≤ h'.size ∧ Z.Warmed39 b'.vm ∧ b'.vm.findClass own = some m.cls ∧
      ∀ target, Steps p.tables e below (T'.setTop { g with pc := g.pc + 2, stack := .ref a :: g.stack }) target → Steps p.tables e below (T.setTop g) target := by
  obtain ⟨vm0, rfl, hS⟩ := hS
  obtain ⟨a, T', h', k1, X', e', E, hS', hk', hZ', hown', st⟩ := ldcS X hx hZ hown w wS eT hS hk hg hd hn hbig hc hl
  exact ⟨a, T', h', _, k1, X', e', E, ⟨_, rfl, hS'⟩, hk', hZ', hown', st⟩
theorem own_backW {rc rs : Nat} {rest : List Value} {own : String} {k0 : Nat} {Q0 : Option Value → Heap → List Loc → Prop} (hZ : Z.Warmed39 bs.vm) (hown : bs.vm.findClass own = some m.cls) (hS : Sn s bs k0) (hk : k0 ≤ T.heap.size)
    (h : ∃ (v : Option Value) (vm₁ : Vm) (B : Pt), bs.WarmedH vm₁ ∧ Stand p l e R (bs.setVm B.U.vm) m args below meth c B.U B.locs B.cells B.slots ∧ bs.Since B.U.vm B.U.heap.size ∧ T.heap.size ≤ B.U.heap.size ∧ (∃ L, Q0 v B.U.heap L ∧ B.locs = locs ++ L ∧ B.cells = cells + rc ∧ B.slots = slots + rs) ∧
      Steps p.tables e below (T.setTop g) (B.U.setTop { g with pc := g.pc + 3, stack := v.toList ++ rest })) :
    ∃ v T' Lc b', Stand p l e R b' m args below meth c T' (locs ++ Lc) (cells + rc) (slots + rs) ∧ Q0 v T'.heap Lc ∧ Sn s b' T'.heap.size ∧ Z.Warmed39 b'.vm ∧ b'.vm.findClass own = some m.cls ∧ ∀ target, Steps p.tables e below (T'.setTop { g with pc := g.pc + 3, stack := v.toList ++ rest }) target → Steps p.tables e below (T.setTop g) target := by
  obtain ⟨v, vm, ⟨U, L, k, n⟩, -, X, hS2, hgr, ⟨Lc, hQ, rfl, rfl, rfl⟩, st⟩ := h
  obtain ⟨vm0, rfl, hS⟩ := hS
  exact ⟨v, U, Lc, _, X, hQ, ⟨_, rfl, hS.trans hS2 (Nat.le_trans hk hgr)⟩, State.Warmed39.trans hZ hS2.1, by rw [show ((s.setVm vm0).setVm U.vm).vm = U.vm from rfl, hS2.1.alike.findClass]; exact hown, fun _ k => st.trans k⟩
end OwnW
end Jvm.RoadKit
namespace Jvm.RoadKit
open Sem ClassFile Op Lib Jvm.Stand Jvm.Free Jvm.LawKit
section OwnRD
variable {p : Program} {l : Launch} {e : Env} {R : Room} {s bs : State} {P : Vm → Prop} {m : MethodId} {args : Array Value} {below : List Frame} {meth : Method} {c : Code} {T T' : State} {locs : List Loc} {cells slots : Nat} {CC SS : Nat} {Q : Option Value → Heap → List Loc → Prop} {g g' : JFrame}
/-- the String constant at own's entry i is resolved -/
def Rsd (vm : Vm) (own : String) (i : Nat) : Prop := ∃ c k a, vm.findClass own = some c ∧ vm.classes[c]? = some k ∧ k.resolved[i]? = some (some (.string a))
theorem Rsd.up {s : State} {vm : Vm} {own : String} {i : Nat} (R : Rsd s.vm own i) (W : s.Warmed39 vm) : Rsd vm own i := by
  obtain ⟨c, k, a, h1, h2, h3⟩ := R
  obtain ⟨k', g1, -, -, ee, -⟩ := W.2.2.2 _ k h2
  refine ⟨c, k', a, by rw [W.alike.findClass]; exact h1, g1, ?_⟩
  rcases ee i with q | ⟨q, -⟩
  · rw [q]; exact h3
  · rw [h3] at q; cases q
def DoneR (P : Vm → Prop) (p : Program) (e : Env) (s : State) (below : List Frame) (CC SS : Nat) (Q : Option Value → Heap → List Loc → Prop) (T : State) (g : JFrame) : Prop :=
  ∃ s₂ o, Steps p.tables e below (T.setTop g) s₂ ∧ s₂.status = .running ∧ Ended s₂ below o ∧ ∃ v L, o = .returned v ∧ Q v s₂.heap L ∧ P s₂.vm ∧ ReturnedEndW s o s₂ L CC SS
theorem DoneR.ret (X : Stand p l e R bs m args below meth c T locs cells slots) (hlk : (meth.locks = false ∧ ∃ k, Sn s bs k ∧ k ≤ T.heap.size) ∧ P T.vm) {v : Option Value} (hv : meth.sig.returnType = none → v = none)
    (st : ∀ fs : List Frame, (∀ (f : JFrame) (acts : List Action), f.method = m → f.locked = none → f.entered = [] → (doReturn e (T.setTop f) acts v).1 = T.setFrames fs) → Steps p.tables e below (T.setTop g) (T.setFrames fs))
    (hq : Q v T.heap locs) (hc : cells ≤ CC) (hs : slots ≤ SS) : DoneR P p e s below CC SS Q T g := by
  obtain ⟨⟨hl, k, ⟨vm, rfl, hS⟩, hk⟩, hP⟩ := hlk
  obtain ⟨fs, hr, hrun, hended, hW⟩ := X.leaveW hS hk (v := v) hv hl
  exact ⟨_, _, st fs hr, hrun, hended, _, _, rfl, hq, hP, hW.1, hW.2.1, hW.2.2.1, hW.2.2.2.mono hc hs⟩
theorem DoneR.go (st : ∀ t, Steps p.tables e below (T'.setTop g') t → Steps p.tables e below (T.setTop g) t) (k : DoneR P p e s below CC SS Q T' g') : DoneR P p e s below CC SS Q T g := by
  obtain ⟨s2, o, h, r⟩ := k; exact ⟨s2, o, st _ h, r⟩
theorem DoneR.via (st : Steps p.tables e below (T.setTop g) (T'.setTop g')) (k : DoneR P p e s below CC SS Q T' g') : DoneR P p e s below CC SS Q T g := by
  obtain ⟨s2, o, h, r⟩ := k; exact ⟨s2, o, st.trans h, r⟩
theorem DoneR.retI (X : Stand p l e R bs m args below meth c T locs cells slots) (hx : p.tables.exec = Jvm.exec) (hlk : (meth.locks = false ∧ ∃ k, Sn s bs k ∧ k ≤ T.heap.size) ∧ P T.vm) {pc : Nat} {Ls : Array Slot} {z : Int32} {rest : List Value} (hret : meth.sig.returnType = some .int) (hd : decode c.code pc = .ok (.ireturn, 1))
    (hq : Q (some (.int z)) T.heap locs) (hc : cells ≤ CC) (hs : slots ≤ SS) : DoneR P p e s below CC SS Q T (mkF m pc Ls (.int z :: rest)) := by
  refine DoneR.ret X hlk (fun h => by rw [hret] at h; cases h) (fun fs hl => ?_) hq hc hs
  have hm' : T.vm.method? m = some meth := X.method'
  have hn : narrow .int (.int z) = .int z := rfl
  show Steps p.tables e below (T.setTop { method := m, pc := pc, locals := Ls, stack := _ :: rest, locked := none }) _
  jvm_step X.here [X.here.top, hx, hd, hm', hret, hn]
  first | (intro acts; rw [hl _ acts rfl rfl rfl]) | rw [hl _ _ rfl rfl rfl]
  exact Steps.refl _
theorem DoneR.retJ (X : Stand p l e R bs m args below meth c T locs cells slots) (hx : p.tables.exec = Jvm.exec) (hlk : (meth.locks = false ∧ ∃ k, Sn s bs k ∧ k ≤ T.heap.size) ∧ P T.vm) {pc : Nat} {Ls : Array Slot} {z : Int64} {rest : List Value} (hret : meth.sig.returnType = some .long) (hd : decode c.code pc = .ok (.lreturn, 1))
    (hq : Q (some (.long z)) T.heap locs) (hc : cells ≤ CC) (hs : slots ≤ SS) : DoneR P p e s below CC SS Q T (mkF m pc Ls (.long z :: rest)) := by
  refine DoneR.ret X hlk (fun h => by rw [hret] at h; cases h) (fun fs hl => ?_) hq hc hs
  have hm' : T.vm.method? m = some meth := X.method'
  show Steps p.tables e below (T.setTop { method := m, pc := pc, locals := Ls, stack := _ :: rest, locked := none }) _
  jvm_step X.here [X.here.top, hx, hd, hm', hret]
  first | (intro acts; rw [hl _ acts rfl rfl rfl]) | rw [hl _ _ rfl rfl rfl]
  exact Steps.refl _
theorem DoneR.retR (X : Stand p l e R bs m args below meth c T locs cells slots) (hx : p.tables.exec = Jvm.exec) (hlk : (meth.locks = false ∧ ∃ k, Sn s bs k ∧ k ≤ T.heap.size) ∧ P T.vm) {pc : Nat} {Ls : Array Slot} {v : Value} {t : FieldType} {rest : List Value} (hret : meth.sig.returnType = some t) (ht : t.isReference = true) (hv : v.isRef = true) (hd : decode c.code pc = .ok (.areturn, 1))
    (hq : Q (some v) T.heap locs) (hc : cells ≤ CC) (hs : slots ≤ SS) : DoneR P p e s below CC SS Q T (mkF m pc Ls (v :: rest)) := by
  refine DoneR.ret X hlk (fun h => by rw [hret] at h; cases h) (fun fs hl => ?_) hq hc hs
  have hm' : T.vm.method? m = some meth := X.method'
  show Steps p.tables e below (T.setTop { method := m, pc := pc, locals := Ls, stack := _ :: rest, locked := none }) _
  jvm_step X.here [X.here.top, hx, hd, hm', hret, ht, hv]
  first | (intro acts; rw [hl _ acts rfl rfl rfl]) | rw [hl _ _ rfl rfl rfl]
  exact Steps.refl _
theorem DoneR.retV (X : Stand p l e R bs m args below meth c T locs cells slots) (hx : p.tables.exec = Jvm.exec) (hlk : (meth.locks = false ∧ ∃ k, Sn s bs k ∧ k ≤ T.heap.size) ∧ P T.vm) {pc : Nat} {Ls : Array Slot} (hret : meth.sig.returnType = none) (hd : decode c.code pc = .ok (.return_, 1))
    (hq : Q none T.heap locs) (hc : cells ≤ CC) (hs : slots ≤ SS) : DoneR P p e s below CC SS Q T (mkF m pc Ls []) :=
  DoneR.ret X hlk (fun _ => rfl) (fun fs hl => X.returnOut hx hret hd hl) hq hc hs
theorem DoneR.retN (X : Stand p l e R bs m args below meth c T locs cells slots) (hx : p.tables.exec = Jvm.exec) (hlk : (meth.locks = false ∧ ∃ k, Sn s bs k ∧ k ≤ T.heap.size) ∧ P T.vm) {pc : Nat} {Ls : Array Slot} {z z' : Int32} {t : FieldType} {rest : List Value} (hret : meth.sig.returnType = some t) (ht : t = .boolean ∨ t = .byte ∨ t = .char ∨ t = .short) (hz : nar t z = z')
    (hd : decode c.code pc = .ok (.ireturn, 1)) (hq : Q (some (.int z')) T.heap locs) (hc : cells ≤ CC) (hs : slots ≤ SS) : DoneR P p e s below CC SS Q T (mkF m pc Ls (.int z :: rest)) := by
  subst hz
  exact DoneR.ret X hlk (fun h => by rw [hret] at h; cases h) (fun fs hl => Jvm.RoadKit.retN X hx hret ht hd hl) hq hc hs
end OwnRD
section OwnR
variable {p : Program} {l : Launch} {e : Env} {R : Room} {s bs : State} {m : MethodId} {args : Array Value} {below : List Frame} {meth : Method} {c : Code} {T T' : State} {locs : List Loc} {cells slots : Nat} {Z : State} {a0 : Array Value} {h : Heap} {g : JFrame} {P P0 : Vm → Prop}
theorem own_ldcR (X : Stand p l e R bs m args below meth c T locs cells slots) (hx : p.tables.exec = Jvm.exec) (hZ : Z.Warmed39 bs.vm) {own text : String} {index : Nat} (hown : bs.vm.findClass own = some m.cls) (w : (Cond.stringLink own index text).before a0 Z = true) (wS : ∀ a ∈ Bundle.stringAtoms, a.before a0 Z = true)
    (eT : T.heap = h) {k0 : Nat} (hS : Sn s bs k0) (hk : k0 ≤ h.size) (hg : g.method = m) (hd : decode c.code g.pc = .ok (.ldc index, 2)) {n : Nat} (hn : 4 * text.toList.length ≤ n) (hbig : n ≤ 536870912) (hc : cells + 2 ≤ R.cells) (hl : slots + (n + 4) ≤ R.slots) :
    ∃ (a : Addr) (T' : State) (h' : Heap) (b' : State) (k1 : Nat), Stand p l e R b' m args below meth c T' locs (cells + 2) (slots + (n + 4)) ∧ T'.heap = h' ∧ Ext h h' ∧ Sn s b' k1 ∧ k1 ≤ h'.size ∧ Z.Warmed39 b'.vm ∧ b'.vm.findClass own = some m.cls ∧ bs.Warmed39 b'.vm ∧ Rsd b'.vm own index ∧
      ∀ target, Steps p.tables e below (T'.setTop { g with pc := g.pc + 2, stack := .ref a :: g.stack }) target → Steps p.tables e below (T.setTop g) target := by
  subst eT
  obtain ⟨vm0, rfl, hS⟩ := hS
  obtain ⟨a, T', X', hS', ⟨k2, r1, r2⟩, hb, -, st⟩ := X.ldcStringCold hx (own := own) hown (mvS (s := s) hZ w) (fun d hd => by
    have q := wS d hd
    simp only [Bundle.stringAtoms, List.mem_cons, List.not_mem_nil, or_false] at hd
    rcases hd with rfl | rfl | rfl | rfl | rfl | rfl | rfl
    · exact mv (s := s.setVm vm0) hZ q
    · exact mv (s := s.setVm vm0) hZ q
    · exact mvA (s := s.setVm vm0) hZ q
    · exact mv (s := s.setVm vm0) hZ q
    · exact mv (s := s.setVm vm0) hZ q
    · exact mv (s := s.setVm vm0) hZ q
    · exact mv (s := s.setVm vm0) hZ q) hg hd hn hbig hc hl
  have E := ext_of hb
  have hf : T'.vm.findClass own = some m.cls := by rw [hS'.1.alike.findClass]; exact hown
  exact ⟨a, T', _, _, _, X', rfl, E, ⟨_, rfl, hS.trans hS' (Nat.le_trans hk E.1)⟩, Nat.le_refl _, State.Warmed39.trans (t := s.setVm vm0) hZ hS'.1, hf, hS'.1, ⟨_, _, _, hf, r1, r2⟩, st⟩
theorem own_ldcH (X : Stand p l e R bs m args below meth c T locs cells slots) (hx : p.tables.exec = Jvm.exec) (hZ : Z.Warmed39 bs.vm) {own text : String} {index : Nat} (hown : bs.vm.findClass own = some m.cls) (w : (Cond.stringLink own index text).before a0 Z = true) (hR : Rsd bs.vm own index)
    (hg : g.method = m) (hd : decode c.code g.pc = .ok (.ldc index, 2)) :
    ∃ a : Addr, ∀ target, Steps p.tables e below (T.setTop { g with pc := g.pc + 2, stack := .ref a :: g.stack }) target → Steps p.tables e below (T.setTop g) target := by
  obtain ⟨k, cf, i, units, hk, hcf, hc, -⟩ := Cond.stringLink_spec hown (mvS (s := bs) (args := args) hZ w)
  obtain ⟨c1, k1, a, r1, r2, r3⟩ := hR
  cases hown.symm.trans r1
  cases hk.symm.trans r2
  obtain ⟨k', hk', he⟩ := X.warmed.alike.2.2 _ _ hk
  have hr' : k'.resolved[index]? = some (some (.string a)) := by
    rcases X.warmed.entry hk hk' index with q | ⟨q, -⟩
    · rw [q]; exact r3
    · rw [r3] at q; cases q
  refine ⟨a, fun target hrest => ?_⟩
  subst hg
  jvm_step X.here [hx, hd, ldc.wp_string (e := e) (s := T) (f := g) X.here.top hk' (by rw [he]; exact hcf) hc hr']
  exact hrest
theorem own_backOfSR {y : MethodName} {bytes : ByteArray} {maxL : Nat} {ret : Option FieldType} {rm : Room} {len W : Nat} {as' : Array Value} {Q : Option Value → Heap → List Loc → Prop}
    (hM : MetFree l y (head1 [Cond.code y bytes maxL ret] rm) (fun a U => a = as' ∧ Z.Warmed39 U.vm ∧ U.heap = h ∧ P0 U.vm) (fun _ _ _ _ _ => True) (fun _ U o U' => ∃ v L, o = .returned v ∧ Q v U'.heap L ∧ P U'.vm ∧ ReturnedEndW U o U' L rm.cells rm.slots))
    (hZ : Z.Warmed39 s.vm) (wc : (Cond.code y bytes maxL ret).before a0 Z = true) (wz : (Cond.initialized y.cls).before a0 Z = true) (hf : rm.frames + 1 ≤ R.frames) (hl : W + (maxL + 11) + rm.locals ≤ R.locals) (hP : ∀ vm, s.Warmed39 vm → P0 vm) :
    BackS l R p e below s args y len W (fun A a => a = as' ∧ A.U.heap = h ∧ A.cells + rm.cells ≤ R.cells ∧ A.slots + rm.slots ≤ R.slots)
      (fun A _ v B => ∃ L, (Q v B.U.heap L ∧ P B.U.vm) ∧ B.locs = A.locs ++ L ∧ B.cells = A.cells + rm.cells ∧ B.slots = A.slots + rm.slots) :=
  BackS.of_freeW (bytes := bytes) (maxL := maxL) (ret := ret) (E := fun _ _ o t L k n => k = rm.cells ∧ n = rm.slots ∧ ∃ v, o = .returned v ∧ Q v t.heap L ∧ P t.vm) hM hf hl
    (fun m meth c A a Y hp => have hU : Z.Warmed39 A.U.vm := wtrans hZ Y.warmed
      ⟨by show (Cond.and _ .tt).before a A.U = true; rw [Cond.before_and, mv hU wc]; rfl, mv hU wc, mv hU wz, hp.2.2.1, hp.2.2.2⟩)
    (fun m meth c A a g mk Y hp => ⟨hp.1, wtrans hZ Y.warmed, hp.2.1, hP _ Y.warmed.wide⟩) (fun _ _ _ _ _ _ _ _ _ => trivial)
    (fun _ _ _ _ ⟨v, L, h1, h2, h3, h4⟩ => ⟨L, _, _, h4, rfl, rfl, v, h1, h2, h3⟩)
    (fun m meth c A a g mk v t L k n Y hp _ _ ⟨e1, e2, v', e3, e4⟩ => by cases e3; subst e1 e2; exact ⟨L, e4, rfl, rfl, rfl⟩)
theorem own_backWR {rc rs : Nat} {rest : List Value} {own : String} {k0 : Nat} {Q0 : Option Value → Heap → List Loc → Prop} (hZ : Z.Warmed39 bs.vm) (hown : bs.vm.findClass own = some m.cls) (hS : Sn s bs k0) (hk : k0 ≤ T.heap.size)
    (h : ∃ (v : Option Value) (vm₁ : Vm) (B : Pt), bs.WarmedH vm₁ ∧ Stand p l e R (bs.setVm B.U.vm) m args below meth c B.U B.locs B.cells B.slots ∧ bs.Since B.U.vm B.U.heap.size ∧ T.heap.size ≤ B.U.heap.size ∧ (∃ L, (Q0 v B.U.heap L ∧ P B.U.vm) ∧ B.locs = locs ++ L ∧ B.cells = cells + rc ∧ B.slots = slots + rs) ∧
      Steps p.tables e below (T.setTop g) (B.U.setTop { g with pc := g.pc + 3, stack := v.toList ++ rest })) :
    ∃ v T' Lc b', Stand p l e R b' m args below meth c T' (locs ++ Lc) (cells + rc) (slots + rs) ∧ Q0 v T'.heap Lc ∧ Sn s b' T'.heap.size ∧ Z.Warmed39 b'.vm ∧ b'.vm.findClass own = some m.cls ∧ bs.Warmed39 b'.vm ∧ P b'.vm ∧ ∀ target, Steps p.tables e below (T'.setTop { g with pc := g.pc + 3, stack := v.toList ++ rest }) target → Steps p.tables e below (T.setTop g) target := by
  obtain ⟨v, vm, ⟨U, L, k, n⟩, -, X, hS2, hgr, ⟨Lc, ⟨hQ, hP⟩, rfl, rfl, rfl⟩, st⟩ := h
  obtain ⟨vm0, rfl, hS⟩ := hS
  exact ⟨v, U, Lc, _, X, hQ, ⟨_, rfl, hS.trans hS2 (Nat.le_trans hk hgr)⟩, State.Warmed39.trans hZ hS2.1, by rw [show ((s.setVm vm0).setVm U.vm).vm = U.vm from rfl, hS2.1.alike.findClass]; exact hown, hS2.1, hP, fun _ k => st.trans k⟩
end OwnR
section OwnRX
variable {p : Program} {l : Launch} {e : Env} {R : Room} {s bs : State} {P : Vm → Prop} {m : MethodId} {args : Array Value} {below : List Frame} {meth : Method} {c : Code} {T : State} {locs : List Loc} {cells slots : Nat} {CC SS : Nat} {Q : Option Value → Heap → List Loc → Prop} {Z : State} {h h' : Heap} {a b : Addr} {ws : List Addr} {sl : Nat} {v w : Value} {n : Nat} {f f' : Nat → Int64}
theorem DoneR.retD (X : Stand p l e R bs m args below meth c T locs cells slots) (hx : p.tables.exec = Jvm.exec) (hlk : (meth.locks = false ∧ ∃ k, Sn s bs k ∧ k ≤ T.heap.size) ∧ P T.vm) {pc : Nat} {Ls : Array Slot} {z : UInt64} {rest : List Value} (hret : meth.sig.returnType = some .double) (hd : decode c.code pc = .ok (.dreturn, 1))
    (hq : Q (some (.double z)) T.heap locs) (hc : cells ≤ CC) (hs : slots ≤ SS) : DoneR P p e s below CC SS Q T (mkF m pc Ls (.double z :: rest)) := by
  refine DoneR.ret X hlk (fun h => by rw [hret] at h; cases h) (fun fs hl => ?_) hq hc hs
  have hm' : T.vm.method? m = some meth := X.method'
  show Steps p.tables e below (T.setTop { method := m, pc := pc, locals := Ls, stack := _ :: rest, locked := none }) _
  jvm_step X.here [X.here.top, hx, hd, hm', hret]
  first | (intro acts; rw [hl _ acts rfl rfl rfl]) | rw [hl _ _ rfl rfl rfl]
  exact Steps.refl _
end OwnRX
end Jvm.RoadKit
namespace Jvm.RoadKit
section OwnHalf
open Jvm Jvm.FP.Core
theorem own_half_z : zval b64 (val64 4602678819172646912) = ((2 ^ 1073 : Nat) : Int) := by decide +kernel
theorem own_half_f : ∃ t d r, val64 4602678819172646912 = .fin t d r := ⟨_, _, _, (by decide +kernel : val64 4602678819172646912 = .fin false 4503599627370496 (-53))⟩
theorem own_dhalf {a : Int64} (ha : Small53 a) (h2 : (2 * a.toInt + 1).natAbs < 2 ^ 53) : val64 (dadd (l2d a) 4602678819172646912) ≠ .nan ∧ zval b64 (val64 (dadd (l2d a) 4602678819172646912)) = (2 * a.toInt + 1) * ((2 ^ 1073 : Nat) : Int) := by
  have wa := l2d_whole ha
  have za := whole_zval good_b64 (val64_fits (l2d a)) wa
  obtain ⟨c, q, ea⟩ := l2d_shape a
  obtain ⟨t, d, r, eh⟩ := own_half_f
  have zh := own_half_z
  have fa := val64_fits (l2d a)
  have fh := val64_fits 4602678819172646912
  rw [val64_dadd]
  rw [ea] at za fa ⊢
  rw [eh] at zh fh ⊢
  obtain ⟨sg, n, e, es, he, hv⟩ := sum_units fa fh
  rw [es]
  rw [za, zh] at hv
  have eq1 : (-b64.qmin).toNat = 1074 := by decide
  rw [eq1] at hv
  have hpow : ((2 ^ 1074 : Nat) : Int) = 2 * ((2 ^ 1073 : Nat) : Int) := by decide +kernel
  have hv2 : signed sg (inUnits n e b64.qmin) = (2 * a.toInt + 1) * ((2 ^ 1073 : Nat) : Int) := by
    rw [hv, hpow]
    generalize ((2 ^ 1073 : Nat) : Int) = P
    rw [Int.add_mul, Int.one_mul, ← Int.mul_assoc, Int.mul_comm a.toInt 2]
  have hn : inUnits n e b64.qmin = inUnits (2 * a.toInt + 1).natAbs (-1) b64.qmin := by
    have q1 : (inUnits n e b64.qmin : Int).natAbs = (signed sg (inUnits n e b64.qmin)).natAbs := by cases sg <;> simp [signed]
    rw [hv2, Int.natAbs_mul] at q1
    have q2 : inUnits (2 * a.toInt + 1).natAbs (-1) b64.qmin = (2 * a.toInt + 1).natAbs * 2 ^ 1073 := by
      unfold inUnits
      rw [show (-1 - b64.qmin).toNat = 1073 by decide]
    rw [q2]
    simpa using q1
  rw [← round_inUnits sg n he, hn, round_inUnits sg _ (show b64.qmin ≤ -1 by decide)]
  obtain ⟨c', q', er, eu⟩ := round_exact good_b64 sg (c := (2 * a.toInt + 1).natAbs) (q := -1) (show _ < 2 ^ 53 from h2) (by decide) (by decide)
  rw [er]
  refine ⟨fun h => (nomatch h), ?_⟩
  show signed sg (inUnits c' q' b64.qmin) = _
  rw [eu, ← hn, hv2]
theorem own_dhalfF {a : Int64} (ha : Small53 a) (h2 : (2 * a.toInt + 1).natAbs < 2 ^ 53) : val64 (Jvm.FP.dadd (Jvm.FP.l2d a) 4602678819172646912) ≠ .nan ∧ zval b64 (val64 (Jvm.FP.dadd (Jvm.FP.l2d a) 4602678819172646912)) = (2 * a.toInt + 1) * ((2 ^ 1073 : Nat) : Int) := own_dhalf ha h2
theorem own_whole {a : Int64} (ha : Small53 a) : val64 (Jvm.FP.l2d a) ≠ .nan ∧ zval b64 (val64 (Jvm.FP.l2d a)) = (2 * a.toInt) * ((2 ^ 1073 : Nat) : Int) := by
  have wa : Whole a.toInt (val64 (l2d a)) := l2d_whole ha
  have za := whole_zval good_b64 (val64_fits (l2d a)) wa
  refine ⟨DInt_ne_nan (i := a.toInt) wa, ?_⟩
  show zval b64 (val64 (l2d a)) = _
  rw [za, show (-b64.qmin).toNat = 1074 by decide, show ((2 ^ 1074 : Nat) : Int) = 2 * ((2 ^ 1073 : Nat) : Int) by decide +kernel]
  generalize ((2 ^ 1073 : Nat) : Int) = P
  rw [← Int.mul_assoc, Int.mul_comm a.toInt 2]
theorem own_dcmp {x y : UInt64} {i j : Int} (hx : val64 x ≠ .nan ∧ zval b64 (val64 x) = i * ((2 ^ 1073 : Nat) : Int)) (hy : val64 y ≠ .nan ∧ zval b64 (val64 y) = j * ((2 ^ 1073 : Nat) : Int)) : Jvm.FP.dcmp x y = some (compare i j) := by
  have q : dcmp x y = some (compare (zval b64 (val64 x)) (zval b64 (val64 y))) := dcmp_zval hx.1 hy.1
  show dcmp x y = _
  rw [q, hx.2, hy.2]
  have hp : (0 : Int) < ((2 ^ 1073 : Nat) : Int) := by have := Nat.two_pow_pos 1073; omega
  generalize ((2 ^ 1073 : Nat) : Int) = P at hp
  congr 1
  rcases Int.lt_trichotomy i j with h | h | h
  · rw [(compare_lt_iff _ _).mpr h, (compare_lt_iff _ _).mpr (Int.mul_lt_mul_of_pos_right h hp)]
  · rw [h, (compare_eq_iff _ _).mpr rfl, (compare_eq_iff _ _).mpr rfl]
  · rw [(compare_gt_iff _ _).mpr h, (compare_gt_iff _ _).mpr (Int.mul_lt_mul_of_pos_right h hp)]
end OwnHalf
end Jvm.RoadKit
namespace Jvm.Pilot.@@N@@
open Jvm Jvm.ClassFile Sem Op Lib Jvm.Free Jvm.Stand Jvm.LawKit Jvm.RoadKit Bundle Jvm.Pilot.@@N@@.Jvm.D
theorem own_wS {Z : State} {a0 : Array Value} (hw : ∀ d ∈ tables_1, d.before a0 Z = true) : ∀ a ∈ Bundle.stringAtoms, a.before a0 Z = true := fun a ha => by
  simp only [Bundle.stringAtoms, List.mem_cons, List.not_mem_nil, or_false] at ha
  rcases ha with rfl | rfl | rfl | rfl | rfl | rfl | rfl
  · exact (hw _ (List.mem_of_getElem? (i := 11) rfl))
  · exact (hw _ (List.mem_of_getElem? (i := 12) rfl))
  · exact (hw _ (List.mem_of_getElem? (i := 13) rfl))
  · exact (hw _ (List.mem_of_getElem? (i := 14) rfl))
  · exact (hw _ (List.mem_of_getElem? (i := 15) rfl))
  · exact (hw _ (List.mem_of_getElem? (i := 16) rfl))
  · exact (hw _ (List.mem_of_getElem? (i := 17) rfl))
abbrev PT (_ : Vm) : Prop := True
abbrev PF (vm : Vm) : Prop := Rsd vm "com/example/citadel_hill/citadelhill/channel/ParameterChecks" 13
abbrev ZV (x : UInt64) (i : Int) : Prop := FP.Core.val64 x ≠ .nan ∧ FP.Core.zval FP.Core.b64 (FP.Core.val64 x) = i * ((2 ^ 1073 : Nat) : Int)
theorem own_i64r (p : Int32) : -2147483648 ≤ p.toInt64.toInt ∧ p.toInt64.toInt ≤ 2147483647 := by
  rw [Int32.toInt_toInt64]
  have h1 := p.toInt_lt
  have h2 := p.le_toInt
  omega
theorem own_b53 (p : Int32) : B53 p.toInt64 := by
  have q := own_i64r p
  exact ⟨by omega, by omega⟩
theorem own_du (p : Int32) : 0 ≤ (p &&& (2147483647 : Int32)).toInt64.toInt := by
  rw [Int32.toInt_toInt64]
  exact (c_and p 2147483647 (by decide)).1
theorem own_nnW (a : Int64) : Jvm.Free.Fl.NoNaN64 (FP.l2d a) := nn_w rfl
theorem own_maxZ : ZV (9218868437227405311 : UInt64) (9007199254740991 * ((2 ^ 972 : Nat) : Int)) := by
  refine ⟨by decide +kernel, by decide +kernel⟩
theorem own_abs (p : Int32) : ∃ b : Int64, (FP.l2d p.toInt64 &&& (0x7fffffffffffffff : UInt64)) = FP.l2d b ∧ 0 ≤ b.toInt ∧ b.toInt ≤ 2147483648 := by
  have q := own_i64r p
  by_cases h : p.toInt64 < 0
  · refine ⟨-p.toInt64, abs_n (own_b53 p) h, ?_⟩
    rw [Int64.lt_iff_toInt_lt] at h
    have e0 : (0 : Int64).toInt = 0 := by decide
    have e : (-p.toInt64).toInt = -p.toInt64.toInt := by rw [Int64.toInt_neg]; exact Int.bmod_eq_of_le (by omega) (by omega)
    omega
  · refine ⟨p.toInt64, abs_w h, ?_⟩
    rw [Int64.lt_iff_toInt_lt] at h
    have e0 : (0 : Int64).toInt = 0 := by decide
    omega
theorem own_cg (i j : Int) : (0 < cmpValue (some (compare i j)) .g ↔ j < i) ∧ (cmpValue (some (compare i j)) .g < 0 ↔ i < j) := by
  rcases Int.lt_trichotomy i j with h | h | h
  · rw [(FP.Core.compare_lt_iff _ _).mpr h]
    exact ⟨⟨fun q => absurd q (by decide), fun q => absurd q (by omega)⟩, ⟨fun _ => h, fun _ => by decide⟩⟩
  · rw [(FP.Core.compare_eq_iff _ _).mpr h]
    exact ⟨⟨fun q => absurd q (by decide), fun q => absurd q (by omega)⟩, ⟨fun q => absurd q (by decide), fun q => absurd q (by omega)⟩⟩
  · rw [(FP.Core.compare_gt_iff _ _).mpr h]
    exact ⟨⟨fun _ => h, fun _ => by decide⟩, ⟨fun q => absurd q (by decide), fun q => absurd q (by omega)⟩⟩
theorem own_fiW (p : Int32) : ¬ (0 : Int32) < cmpValue (FP.dcmp (FP.l2d p.toInt64 &&& (0x7fffffffffffffff : UInt64)) (9218868437227405311 : UInt64)) .g := by
  obtain ⟨b, e, h1, h2⟩ := own_abs p
  rw [e, own_dcmp (own_whole (a := b) ⟨by omega, by omega⟩) own_maxZ, (own_cg _ _).1]
  have : (4294967296 : Int) ≤ 9007199254740991 * ((2 ^ 972 : Nat) : Int) := by decide +kernel
  omega
theorem own_geW (p : Int32) : ¬ cmpValue (FP.dcmp (FP.l2d (p &&& (2147483647 : Int32)).toInt64) (FP.l2d (0 : Int64))) .l < (0 : Int32) := by
  rw [dcmpV_w (own_b53 _) ⟨by decide, by decide⟩, lw_lt, Int64.lt_iff_toInt_lt]
  have q := own_du p
  have e0 : (0 : Int64).toInt = 0 := by decide
  omega
theorem own_tH (p : Int32) : ZV (FP.dadd (FP.l2d p.toInt64) (4602678819172646912 : UInt64)) (2 * p.toInt64.toInt + 1) := by
  have q := own_i64r p
  exact own_dhalfF (own_b53 p) (by omega)
theorem own_2 {x : Int64} (h1 : -1099511627776 ≤ x.toInt) (h2 : x.toInt ≤ 1099511627776) : ((2 : Int64) * x).toInt = 2 * x.toInt := by
  rw [Int64.toInt_mul, show (2 : Int64).toInt = 2 from by decide]
  exact Int.bmod_eq_of_le (by omega) (by omega)
theorem own_ad {x y : Int64} (h1 : -4398046511104 ≤ x.toInt) (h2 : x.toInt ≤ 4398046511104) (h3 : -4398046511104 ≤ y.toInt) (h4 : y.toInt ≤ 4398046511104) : (x + y).toInt = x.toInt + y.toInt := by
  rw [Int64.toInt_add]
  exact Int.bmod_eq_of_le (by omega) (by omega)
theorem own_h {p : Int32} : ((p &&& (1 : Int32)) = (1 : Int32) → (p &&& (1 : Int32)).toInt64.toInt = 1) ∧ (¬ (p &&& (1 : Int32)) = (1 : Int32) → (p &&& (1 : Int32)).toInt64.toInt = 0) := by
  rw [Int32.toInt_toInt64]
  have q := c_and p 1 (by decide)
  have e1 : (1 : Int32).toInt = 1 := by decide
  refine ⟨fun h => by rw [h]; exact e1, fun h => ?_⟩
  by_cases u : (p &&& (1 : Int32)).toInt = 1
  · exact absurd (Int32.toInt_inj.mp (u.trans e1.symm)) h
  · omega
theorem own_s (p0 p3 : Int32) {hh : Int64} (h1 : 0 ≤ hh.toInt) (h2 : hh.toInt ≤ 1) : (0 : Int32) < lcmpW ((2 : Int64) * (p0.toInt64)) (((2 : Int64) * (p3.toInt64)) + hh) ↔ ¬ 2 * p0.toInt64.toInt ≤ 2 * p3.toInt64.toInt + hh.toInt := by
  have q0 := own_i64r p0
  have q3 := own_i64r p3
  have e0 := own_2 (x := p0.toInt64) (by omega) (by omega)
  have e3 := own_2 (x := p3.toInt64) (by omega) (by omega)
  have ea := own_ad (x := 2 * p3.toInt64) (y := hh) (by omega) (by omega) (by omega) (by omega)
  rw [lw_gt, Int64.lt_iff_toInt_lt, ea, e0, e3]
  omega
theorem own_e (p0 p3 : Int32) {hh q : Int64} (h1 : 0 ≤ hh.toInt) (h2 : hh.toInt ≤ 1) (hq : 0 ≤ q.toInt ∧ q.toInt ≤ 2147483647) : lcmpW (((2 : Int64) * (p3.toInt64)) + hh) ((2 : Int64) * ((p0.toInt64) + q)) < (0 : Int32) ↔ 2 * p3.toInt64.toInt + hh.toInt < 2 * (p0.toInt64 + q).toInt := by
  have q0 := own_i64r p0
  have q3 := own_i64r p3
  have e3 := own_2 (x := p3.toInt64) (by omega) (by omega)
  have ea := own_ad (x := 2 * p3.toInt64) (y := hh) (by omega) (by omega) (by omega) (by omega)
  have eb := own_ad (x := p0.toInt64) (y := q) (by omega) (by omega) (by omega) (by omega)
  have e0 := own_2 (x := p0.toInt64 + q) (by omega) (by omega)
  rw [lw_lt, Int64.lt_iff_toInt_lt, ea, e0, e3]
theorem own_pd0 : parseMethodDescriptor "(D)D" = some ⟨[.double], some .double⟩ := by decide +kernel
theorem own_pd1 : parseMethodDescriptor "(D)Z" = some ⟨[.double], some .boolean⟩ := by decide +kernel
theorem own_pd2 : parseMethodDescriptor "(ZLjava/lang/String;Ljava/lang/String;D)D" = some ⟨[.boolean, (.object "java/lang/String"), (.object "java/lang/String"), .double], some .double⟩ := by decide +kernel
theorem own_pd3 : parseMethodDescriptor "(Ljava/lang/String;D)D" = some ⟨[(.object "java/lang/String"), .double], some .double⟩ := by decide +kernel
theorem own_pd4 : parseMethodDescriptor "()D" = some ⟨[], some .double⟩ := by decide +kernel
theorem own_pd5 : parseMethodDescriptor "(DDD)V" = some ⟨[.double, .double, .double], none⟩ := by decide +kernel
def QI (r : Int32) (h0 : Heap) (n0 : Nat) (v : Option Value) (h : Heap) (L : List Loc) : Prop := v = some (.int r) ∧ Fr n0 L ∧ h = h0
def QD (r : UInt64) (h0 : Heap) (n0 : Nat) (v : Option Value) (h : Heap) (L : List Loc) : Prop := v = some (.double r) ∧ Fr n0 L ∧ h = h0
theorem d4_0 : decode jdk_117_method_8_code 0 = .ok (.dload_n 0, 1) := by decide +kernel
theorem d4_1 : decode jdk_117_method_8_code 1 = .ok (.invokestatic 38, 3) := by decide +kernel
theorem d4_4 : decode jdk_117_method_8_code 4 = .ok (.ldc2_w 111, 3) := by decide +kernel
theorem d4_7 : decode jdk_117_method_8_code 7 = .ok (.dcmp .g, 1) := by decide +kernel
theorem d4_8 : decode jdk_117_method_8_code 8 = .ok (.ifCond .gt 7, 3) := by decide +kernel
theorem d4_11 : decode jdk_117_method_8_code 11 = .ok (.iconst 1, 1) := by decide +kernel
theorem d4_12 : decode jdk_117_method_8_code 12 = .ok (.goto 4, 3) := by decide +kernel
theorem d4_15 : decode jdk_117_method_8_code 15 = .ok (.iconst 0, 1) := by decide +kernel
theorem d4_16 : decode jdk_117_method_8_code 16 = .ok (.ireturn, 1) := by decide +kernel
theorem own_pn0 : plainName "java/lang/Double" = true := by first | (simp [plainName, overriddenIn]; done) | decide +kernel
theorem ef_rm7 (m : MethodId) (d1 : UInt64) : entryFrame m #[(.double d1)] 2 = mkF m 0 #[.val (.double d1), .second] [] := by first | (simp [entryFrame, mkF, argsToLocals, Value.category]; done) | rfl
set_option maxRecDepth 65536 in
set_option maxHeartbeats 40000000 in
theorem rm7 (l : Launch) (Z : State) (a0 : Array Value) (hw : ∀ d ∈ tables_1, d.before a0 Z = true) (ws : List Jvm.Cond) (d1 : UInt64) (h0 : Heap) (n0 : Nat) (Z0 : n0 ≤ h0.size) (hn : Jvm.Free.Fl.NoNaN64 d1) (hf : ¬ (0 : Int32) < cmpValue (FP.dcmp (d1 &&& (0x7fffffffffffffff : UInt64)) (9218868437227405311 : UInt64)) .g) :
    MetFree l (⟨"java/lang/Double", "isFinite", "(D)Z"⟩ : MethodName) (head1 (Jvm.Cond.code (⟨"java/lang/Double", "isFinite", "(D)Z"⟩ : MethodName) jdk_117_method_8_code 2 (some .boolean) :: ws) ({ frames := 1, cells := 0, slots := 0, locals := 13 } : Room)) (fun a U => a = #[(.double d1)] ∧ Z.Warmed39 U.vm ∧ U.heap = h0) (fun _ _ _ _ _ => True) (fun _ U o U' => ∃ vr Lr, o = .returned vr ∧ QI 1 h0 n0 vr U'.heap Lr ∧ FrameEnd U o U' Lr 0 0) := by
  refine MetFree.of_bodySF (plainFor_of_name own_pn0) hisR ?_
  intro p e s m args below meth c s₁ Bd hml0 hP hK
  obtain ⟨rfl, hZ, hh⟩ := hP
  have hx := Bd.exec
  have hby := Bd.bytes
  have hml : c.maxLocals = 2 := hml0
  have hown : s.vm.findClass "java/lang/Double" = some m.cls := findClass_of_methodNamed Bd.named
  have hnm := (name_of_methodNamed Bd.named Bd.method).1
  have hlk : meth.locks = false := Bd.notSynchronized
  have hrt := Bd.returns
  have X0 : Stand p l e ({ frames := 1, cells := 0, slots := 0, locals := 13 } : Room) s m #[(.double d1)] below meth c s₁ [] 0 0 := Stand.of_body Bd
  have e0 : s₁.heap = h0 := by rw [← hh, Bd.state]; rfl
  have N0 := Fr.nil n0
  show Done p e s below 0 0 (QI 1 h0 n0) s₁ (entryFrame m #[(.double d1)] 2)
  rw [ef_rm7]
  show Done p e s below _ _ _ s₁ (mkF m 0 #[.val (.double d1), .second] [])
  refine Done.go (fun _ kt_ => XS.dloadN X0.here hx rfl (hb hby d4_0) rfl kt_) ?_
  show Done p e s below _ _ _ s₁ (mkF m 1 #[.val (.double d1), .second] [(.double d1)])
  obtain ⟨T1, X1, e1, st1⟩ := natS X0 hx hZ (y := (⟨"java/lang/Math", "abs", "(D)D"⟩ : MethodName)) hown (hw _ (List.mem_of_getElem? (i := 26) rfl)) (hw _ (List.mem_of_getElem? (i := 27) rfl)) (hw _ (List.mem_of_getElem? (i := 28) rfl)) (hw _ (List.mem_of_getElem? (i := 29) rfl)) (by decide) e0 (W := 0) (fun q_ => Jvm.Free.Fl.Abs.absD_pays d1 q_ (by decide) (by decide)) (g := (mkF m 1 #[.val (.double d1), .second] [(.double d1)])) rfl (by rw [hml]; rfl) (argsL := [.double d1]) (rest := []) (lenOf own_pd0 rfl) rfl (by show 2 * 0 + _ ≤ _; exact Nat.le_of_eq rfl) (hb hby d4_1) (by decide) (by decide) ⟨rfl, hn⟩ rfl
  refine Done.go st1 ?_
  clear st1
  show Done p e s below _ _ _ T1 (mkF m 4 #[.val (.double d1), .second] [(.double (d1 &&& (0x7fffffffffffffff : UInt64)))])
  refine Done.go (fun t_ kt_ => X1.ldc2DoubleC hx hown (mvT hZ (hw _ (List.mem_of_getElem? (i := 30) rfl))) (g := (mkF m 4 #[.val (.double d1), .second] [(.double (d1 &&& (0x7fffffffffffffff : UInt64)))])) rfl (hb hby d4_4) t_ kt_) ?_
  show Done p e s below _ _ _ T1 (mkF m 7 #[.val (.double d1), .second] [(.double (9218868437227405311 : UInt64)), (.double (d1 &&& (0x7fffffffffffffff : UInt64)))])
  refine Done.go (fun _ kt_ => XS.dcmpS X1.here hx rfl (hb hby d4_7) rfl rfl kt_) ?_
  show Done p e s below _ _ _ T1 (mkF m 8 #[.val (.double d1), .second] [(.int (cmpValue (FP.dcmp (d1 &&& (0x7fffffffffffffff : UInt64)) (9218868437227405311 : UInt64)) .g))])
  refine Done.go (fun _ kt_ => XS.ifNo X1.here hx rfl (hb hby d4_8) rfl ((if0 _ _).trans (flt hf).2.2.1) kt_) ?_
  show Done p e s below _ _ _ T1 (mkF m 11 #[.val (.double d1), .second] [])
  refine Done.go (fun _ kt_ => XS.iconst X1.here hx rfl (hb hby d4_11) kt_) ?_
  show Done p e s below _ _ _ T1 (mkF m 12 #[.val (.double d1), .second] [(.int (1 : Int32))])
  refine Done.go (fun _ kt_ => XS.goto X1.here hx rfl (pc0 := 12) (pc' := 16) rfl (hb hby d4_12) (by decide) (by decide) kt_) ?_
  show Done p e s below _ _ _ T1 (mkF m 16 #[.val (.double d1), .second] [(.int (1 : Int32))])
  refine Done.retN X1 hx hlk (t := .boolean) hrt (by simp) (z' := (1 : Int32)) rfl (hb hby d4_16) ?_ (by first | decide | omega) (by first | decide | omega)
  rw [e1]
  exact ⟨rfl, N0, rfl⟩
theorem d6_0 : decode prog_24_method_6_code 0 = .ok (.iload_n 0, 1) := by decide +kernel
theorem d6_1 : decode prog_24_method_6_code 1 = .ok (.ifCond .ne 35, 3) := by decide +kernel
theorem d6_4 : decode prog_24_method_6_code 4 = .ok (.new 27, 3) := by decide +kernel
theorem d6_7 : decode prog_24_method_6_code 7 = .ok (.dup, 1) := by decide +kernel
theorem d6_8 : decode prog_24_method_6_code 8 = .ok (.ldc 29, 2) := by decide +kernel
theorem d6_10 : decode prog_24_method_6_code 10 = .ok (.iconst 3, 1) := by decide +kernel
theorem d6_11 : decode prog_24_method_6_code 11 = .ok (.anewarray 2, 3) := by decide +kernel
theorem d6_14 : decode prog_24_method_6_code 14 = .ok (.dup, 1) := by decide +kernel
theorem d6_15 : decode prog_24_method_6_code 15 = .ok (.iconst 0, 1) := by decide +kernel
theorem d6_16 : decode prog_24_method_6_code 16 = .ok (.aload_n 1, 1) := by decide +kernel
theorem d6_17 : decode prog_24_method_6_code 17 = .ok (.aastore, 1) := by decide +kernel
theorem d6_18 : decode prog_24_method_6_code 18 = .ok (.dup, 1) := by decide +kernel
theorem d6_19 : decode prog_24_method_6_code 19 = .ok (.iconst 1, 1) := by decide +kernel
theorem d6_20 : decode prog_24_method_6_code 20 = .ok (.aload_n 2, 1) := by decide +kernel
theorem d6_21 : decode prog_24_method_6_code 21 = .ok (.aastore, 1) := by decide +kernel
theorem d6_22 : decode prog_24_method_6_code 22 = .ok (.dup, 1) := by decide +kernel
theorem d6_23 : decode prog_24_method_6_code 23 = .ok (.iconst 2, 1) := by decide +kernel
theorem d6_24 : decode prog_24_method_6_code 24 = .ok (.dload_n 3, 1) := by decide +kernel
theorem d6_25 : decode prog_24_method_6_code 25 = .ok (.invokestatic 31, 3) := by decide +kernel
theorem d6_28 : decode prog_24_method_6_code 28 = .ok (.aastore, 1) := by decide +kernel
theorem d6_29 : decode prog_24_method_6_code 29 = .ok (.invokestatic 35, 3) := by decide +kernel
theorem d6_32 : decode prog_24_method_6_code 32 = .ok (.invokespecial 41, 3) := by decide +kernel
theorem d6_35 : decode prog_24_method_6_code 35 = .ok (.athrow, 1) := by decide +kernel
theorem d6_36 : decode prog_24_method_6_code 36 = .ok (.dload_n 3, 1) := by decide +kernel
theorem d6_37 : decode prog_24_method_6_code 37 = .ok (.dreturn, 1) := by decide +kernel
theorem own_pn1 : plainName "com/example/citadel_hill/citadelhill/channel/ParameterChecks" = true := by first | (simp [plainName, overriddenIn]; done) | decide +kernel
theorem ef_rm9 (m : MethodId) (a1 : Addr) (a2 : Addr) (d1 : UInt64) : entryFrame m #[(.int (1 : Int32)), (.ref a1), (.ref a2), (.double d1)] 5 = mkF m 0 #[.val (.int (1 : Int32)), .val (.ref a1), .val (.ref a2), .val (.double d1), .second] [] := by first | (simp [entryFrame, mkF, argsToLocals, Value.category]; done) | rfl
set_option maxRecDepth 65536 in
set_option maxHeartbeats 40000000 in
theorem rm9 (l : Launch) (Z : State) (a0 : Array Value) (hw : ∀ d ∈ tables_1, d.before a0 Z = true) (ws : List Jvm.Cond) (a1 : Addr) (a2 : Addr) (d1 : UInt64) (h0 : Heap) (n0 : Nat) (Z0 : n0 ≤ h0.size) :
    MetFree l (⟨"com/example/citadel_hill/citadelhill/channel/ParameterChecks", "require", "(ZLjava/lang/String;Ljava/lang/String;D)D"⟩ : MethodName) (head1 (Jvm.Cond.code (⟨"com/example/citadel_hill/citadelhill/channel/ParameterChecks", "require", "(ZLjava/lang/String;Ljava/lang/String;D)D"⟩ : MethodName) prog_24_method_6_code 5 (some .double) :: ws) ({ frames := 0, cells := 0, slots := 0, locals := 0 } : Room)) (fun a U => a = #[(.int (1 : Int32)), (.ref a1), (.ref a2), (.double d1)] ∧ Z.Warmed39 U.vm ∧ U.heap = h0) (fun _ _ _ _ _ => True) (fun _ U o U' => ∃ vr Lr, o = .returned vr ∧ QD d1 h0 n0 vr U'.heap Lr ∧ FrameEnd U o U' Lr 0 0) := by
  refine MetFree.of_bodySF (plainFor_of_name own_pn1) hisR ?_
  intro p e s m args below meth c s₁ Bd hml0 hP hK
  obtain ⟨rfl, hZ, hh⟩ := hP
  have hx := Bd.exec
  have hby := Bd.bytes
  have hml : c.maxLocals = 5 := hml0
  have hown : s.vm.findClass "com/example/citadel_hill/citadelhill/channel/ParameterChecks" = some m.cls := findClass_of_methodNamed Bd.named
  have hnm := (name_of_methodNamed Bd.named Bd.method).1
  have hlk : meth.locks = false := Bd.notSynchronized
  have hrt := Bd.returns
  have X0 : Stand p l e ({ frames := 0, cells := 0, slots := 0, locals := 0 } : Room) s m #[(.int (1 : Int32)), (.ref a1), (.ref a2), (.double d1)] below meth c s₁ [] 0 0 := Stand.of_body Bd
  have e0 : s₁.heap = h0 := by rw [← hh, Bd.state]; rfl
  have N0 := Fr.nil n0
  show Done p e s below 0 0 (QD d1 h0 n0) s₁ (entryFrame m #[(.int (1 : Int32)), (.ref a1), (.ref a2), (.double d1)] 5)
  rw [ef_rm9]
  show Done p e s below _ _ _ s₁ (mkF m 0 #[.val (.int (1 : Int32)), .val (.ref a1), .val (.ref a2), .val (.double d1), .second] [])
  refine Done.go (fun _ kt_ => XS.iloadN X0.here hx rfl (hb hby d6_0) rfl kt_) ?_
  show Done p e s below _ _ _ s₁ (mkF m 1 #[.val (.int (1 : Int32)), .val (.ref a1), .val (.ref a2), .val (.double d1), .second] [(.int (1 : Int32))])
  refine Done.go (fun _ kt_ => XS.ifYes X0.here hx rfl (pc0 := 1) (pc' := 36) rfl (hb hby d6_1) rfl ((if0 _ _).trans (feq (by decide)).2) (by decide) (by decide) kt_) ?_
  show Done p e s below _ _ _ s₁ (mkF m 36 #[.val (.int (1 : Int32)), .val (.ref a1), .val (.ref a2), .val (.double d1), .second] [])
  refine Done.go (fun _ kt_ => XS.dloadN X0.here hx rfl (hb hby d6_36) rfl kt_) ?_
  show Done p e s below _ _ _ s₁ (mkF m 37 #[.val (.int (1 : Int32)), .val (.ref a1), .val (.ref a2), .val (.double d1), .second] [(.double d1)])
  refine Done.retD X0 hx hlk hrt (hb hby d6_37) ?_ (by first | decide | omega) (by first | decide | omega)
  rw [e0]
  exact ⟨rfl, N0, rfl⟩
def QS (r : UInt64) (h0 : Heap) (n0 : Nat) (v : Option Value) (h : Heap) (L : List Loc) : Prop := v = some (.double r) ∧ Fr n0 L ∧ Keep h0 h []
theorem d3_0 : decode prog_24_method_2_code 0 = .ok (.dload_n 1, 1) := by decide +kernel
theorem d3_1 : decode prog_24_method_2_code 1 = .ok (.invokestatic 7, 3) := by decide +kernel
theorem d3_4 : decode prog_24_method_2_code 4 = .ok (.aload_n 0, 1) := by decide +kernel
theorem d3_5 : decode prog_24_method_2_code 5 = .ok (.ldc 13, 2) := by decide +kernel
theorem d3_7 : decode prog_24_method_2_code 7 = .ok (.dload_n 1, 1) := by decide +kernel
theorem d3_8 : decode prog_24_method_2_code 8 = .ok (.invokestatic 15, 3) := by decide +kernel
theorem d3_11 : decode prog_24_method_2_code 11 = .ok (.dreturn, 1) := by decide +kernel
theorem ef_rm6c (m : MethodId) (a1 : Addr) (d1 : UInt64) : entryFrame m #[(.ref a1), (.double d1)] 3 = mkF m 0 #[.val (.ref a1), .val (.double d1), .second] [] := by first | (simp [entryFrame, mkF, argsToLocals, Value.category]; done) | rfl
set_option maxRecDepth 65536 in
set_option maxHeartbeats 40000000 in
theorem rm6c (l : Launch) (Z : State) (a0 : Array Value) (hw : ∀ d ∈ tables_1, d.before a0 Z = true) (ws : List Jvm.Cond) (a1 : Addr) (d1 : UInt64) (h0 : Heap) (n0 : Nat) (Z0 : n0 ≤ h0.size) (hn : Jvm.Free.Fl.NoNaN64 d1) (hf : ¬ (0 : Int32) < cmpValue (FP.dcmp (d1 &&& (0x7fffffffffffffff : UInt64)) (9218868437227405311 : UInt64)) .g) :
    MetFree l (⟨"com/example/citadel_hill/citadelhill/channel/ParameterChecks", "requireFinite", "(Ljava/lang/String;D)D"⟩ : MethodName) (head1 (Jvm.Cond.code (⟨"com/example/citadel_hill/citadelhill/channel/ParameterChecks", "requireFinite", "(Ljava/lang/String;D)D"⟩ : MethodName) prog_24_method_2_code 3 (some .double) :: ws) ({ frames := 2, cells := 2, slots := 28, locals := 30 } : Room)) (fun a U => a = #[(.ref a1), (.double d1)] ∧ Z.Warmed39 U.vm ∧ U.heap = h0 ∧ PT U.vm) (fun _ _ _ _ _ => True) (fun _ U o U' => ∃ vr Lr, o = .returned vr ∧ QS d1 h0 n0 vr U'.heap Lr ∧ PF U'.vm ∧ ReturnedEndW U o U' Lr 2 28) := by
  refine MetFree.of_bodySF (plainFor_of_name own_pn1) hisR ?_
  intro p e s m args below meth c s₁ Bd hml0 hP hK
  obtain ⟨rfl, hZ, hh, hR0⟩ := hP
  have hx := Bd.exec
  have hby := Bd.bytes
  have hml : c.maxLocals = 3 := hml0
  have hown : s.vm.findClass "com/example/citadel_hill/citadelhill/channel/ParameterChecks" = some m.cls := findClass_of_methodNamed Bd.named
  have hnm := (name_of_methodNamed Bd.named Bd.method).1
  have hlk : meth.locks = false := Bd.notSynchronized
  have hrt := Bd.returns
  have X0 : Stand p l e ({ frames := 2, cells := 2, slots := 28, locals := 30 } : Room) s m #[(.ref a1), (.double d1)] below meth c s₁ [] 0 0 := Stand.of_body Bd
  have e0 : s₁.heap = h0 := by rw [← hh, Bd.state]; rfl
  have N0 := Fr.nil n0
  have hS0 : Sn s s s.heap.size := Sn.start s _
  have HK0 : s.heap.size ≤ h0.size := by rw [hh]; exact Nat.le_refl _
  show DoneR PF p e s below 2 28 (QS d1 h0 n0) s₁ (entryFrame m #[(.ref a1), (.double d1)] 3)
  rw [ef_rm6c]
  show DoneR PF p e s below _ _ _ s₁ (mkF m 0 #[.val (.ref a1), .val (.double d1), .second] [])
  refine DoneR.go (fun _ kt_ => XS.dloadN X0.here hx rfl (hb hby d3_0) rfl kt_) ?_
  show DoneR PF p e s below _ _ _ s₁ (mkF m 1 #[.val (.ref a1), .val (.double d1), .second] [(.double d1)])
  obtain ⟨v2, T2, Lc2, X2, hQ2, st2⟩ := own_backG (Jvm.LawKit.callS X0 hx (y := (⟨"java/lang/Double", "isFinite", "(D)Z"⟩ : MethodName)) hown (mvT hZ (hw _ (List.mem_of_getElem? (i := 22) rfl))) (mvT hZ (hw _ (List.mem_of_getElem? (i := 23) rfl))) (mvT hZ (hw _ (List.mem_of_getElem? (i := 24) rfl))) (mvT hZ (hw _ (List.mem_of_getElem? (i := 25) rfl))) (by decide) (backOf (W := 0)  (rm7 l Z a0 hw [] d1 h0 n0 Z0 hn hf) hZ (hw _ (List.mem_of_getElem? (i := 25) rfl)) (hw _ (List.mem_of_getElem? (i := 24) rfl)) (by decide) (by decide)) (g := (mkF m 1 #[.val (.ref a1), .val (.double d1), .second] [(.double d1)])) rfl (by rw [hml]; rfl) (argsL := [(.double d1)]) (rest := []) (lenOf own_pd1 rfl) rfl (by show 2 * 0 + _ ≤ _; exact Nat.le_of_eq rfl) (hb hby d3_1) (fun _ _ => ⟨rfl, e0, (by first | decide | omega : 0 + 0 ≤ _), (by first | decide | omega : 0 + 0 ≤ _)⟩))
  obtain ⟨rfl, N2q, e2⟩ := hQ2
  refine DoneR.go st2 ?_
  clear st2
  have N2 := Fr.app N0 N2q
  clear N2q
  obtain ⟨Lh2, X2h, N2h⟩ : ∃ L, Stand p l e ({ frames := 2, cells := 2, slots := 28, locals := 30 } : Room) s m #[(.ref a1), (.double d1)] below meth c T2 L 0 0 ∧ Fr n0 L := ⟨_, X2, N2⟩
  clear X2 N2
  show DoneR PF p e s below _ _ _ T2 (mkF m 4 #[.val (.ref a1), .val (.double d1), .second] [(.int (1 : Int32))])
  refine DoneR.go (fun _ kt_ => XS.aloadN X2h.here hx rfl (hb hby d3_4) rfl rfl kt_) ?_
  show DoneR PF p e s below _ _ _ T2 (mkF m 5 #[.val (.ref a1), .val (.double d1), .second] [(.ref a1), (.int (1 : Int32))])
  obtain ⟨sa3, T3, h3, bs3, kk3, X3, e3, E3, hS3, HK3, hZ, hown, U3, R3, st3⟩ := own_ldcR X2h hx hZ hown (hw _ (List.mem_of_getElem? (i := 31) rfl)) (own_wS hw) e2 hS0 HK0 (g := (mkF m 5 #[.val (.ref a1), .val (.double d1), .second] [(.ref a1), (.int (1 : Int32))])) rfl (hb hby d3_5) (n := 24) (by decide) (by decide) (by decide) (by decide)
  have Z3 : n0 ≤ h3.size := Nat.le_trans Z0 E3.1
  have K3 : Keep h0 h3 [] := (Keep.refl h0 []).ext E3
  obtain ⟨Lh3, X3h, N3h⟩ : ∃ L, Stand p l e ({ frames := 2, cells := 2, slots := 28, locals := 30 } : Room) bs3 m #[(.ref a1), (.double d1)] below meth c T3 L 2 28 ∧ Fr n0 L := ⟨_, X3, N2h⟩
  clear X3 N2h X2h e2
  refine DoneR.go st3 ?_
  clear st3
  show DoneR PF p e s below _ _ _ T3 (mkF m 7 #[.val (.ref a1), .val (.double d1), .second] [(.ref sa3), (.ref a1), (.int (1 : Int32))])
  refine DoneR.go (fun _ kt_ => XS.dloadN X3h.here hx rfl (hb hby d3_7) rfl kt_) ?_
  show DoneR PF p e s below _ _ _ T3 (mkF m 8 #[.val (.ref a1), .val (.double d1), .second] [(.double d1), (.ref sa3), (.ref a1), (.int (1 : Int32))])
  obtain ⟨v4, T4, Lc4, X4, hQ4, st4⟩ := own_backG (Jvm.LawKit.callS X3h hx (y := (⟨"com/example/citadel_hill/citadelhill/channel/ParameterChecks", "require", "(ZLjava/lang/String;Ljava/lang/String;D)D"⟩ : MethodName)) hown (mvT hZ (hw _ (List.mem_of_getElem? (i := 32) rfl))) (mvT hZ (hw _ (List.mem_of_getElem? (i := 33) rfl))) (mvT hZ (hw _ (List.mem_of_getElem? (i := 20) rfl))) (mvT hZ (hw _ (List.mem_of_getElem? (i := 34) rfl))) (by decide) (backOf (W := 0)  (rm9 l Z a0 hw [] a1 sa3 d1 h3 n0 Z3) hZ (hw _ (List.mem_of_getElem? (i := 34) rfl)) (hw _ (List.mem_of_getElem? (i := 20) rfl)) (by decide) (by decide)) (g := (mkF m 8 #[.val (.ref a1), .val (.double d1), .second] [(.double d1), (.ref sa3), (.ref a1), (.int (1 : Int32))])) rfl (by rw [hml]; rfl) (argsL := [(.int (1 : Int32)), (.ref a1), (.ref sa3), (.double d1)]) (rest := []) (lenOf own_pd2 rfl) rfl (by show 2 * 0 + _ ≤ _; exact Nat.le_of_eq rfl) (hb hby d3_8) (fun _ _ => ⟨rfl, e3, (by first | decide | omega : 2 + 0 ≤ _), (by first | decide | omega : 28 + 0 ≤ _)⟩))
  obtain ⟨rfl, N4q, e4⟩ := hQ4
  refine DoneR.go st4 ?_
  clear st4
  have N4 := Fr.app N3h N4q
  clear N4q
  obtain ⟨Lh4, X4h, N4h⟩ : ∃ L, Stand p l e ({ frames := 2, cells := 2, slots := 28, locals := 30 } : Room) bs3 m #[(.ref a1), (.double d1)] below meth c T4 L 2 28 ∧ Fr n0 L := ⟨_, X4, N4⟩
  clear X4 N4 X3h e3 N3h
  show DoneR PF p e s below _ _ _ T4 (mkF m 11 #[.val (.ref a1), .val (.double d1), .second] [(.double d1)])
  refine DoneR.retD X4h hx ⟨⟨hlk, _, hS3, (by rw [e4]; exact HK3)⟩, (Rsd.up R3 X4h.warmed.wide)⟩ hrt (hb hby d3_11) ?_ (by first | decide | omega) (by first | decide | omega)
  rw [e4]
  exact ⟨rfl, N4h, K3⟩
theorem ef_rm6h (m : MethodId) (a1 : Addr) (d1 : UInt64) : entryFrame m #[(.ref a1), (.double d1)] 3 = mkF m 0 #[.val (.ref a1), .val (.double d1), .second] [] := by first | (simp [entryFrame, mkF, argsToLocals, Value.category]; done) | rfl
set_option maxRecDepth 65536 in
set_option maxHeartbeats 40000000 in
theorem rm6h (l : Launch) (Z : State) (a0 : Array Value) (hw : ∀ d ∈ tables_1, d.before a0 Z = true) (ws : List Jvm.Cond) (a1 : Addr) (d1 : UInt64) (h0 : Heap) (n0 : Nat) (Z0 : n0 ≤ h0.size) (hn : Jvm.Free.Fl.NoNaN64 d1) (hf : ¬ (0 : Int32) < cmpValue (FP.dcmp (d1 &&& (0x7fffffffffffffff : UInt64)) (9218868437227405311 : UInt64)) .g) :
    MetFree l (⟨"com/example/citadel_hill/citadelhill/channel/ParameterChecks", "requireFinite", "(Ljava/lang/String;D)D"⟩ : MethodName) (head1 (Jvm.Cond.code (⟨"com/example/citadel_hill/citadelhill/channel/ParameterChecks", "requireFinite", "(Ljava/lang/String;D)D"⟩ : MethodName) prog_24_method_2_code 3 (some .double) :: ws) ({ frames := 2, cells := 0, slots := 0, locals := 30 } : Room)) (fun a U => a = #[(.ref a1), (.double d1)] ∧ Z.Warmed39 U.vm ∧ U.heap = h0 ∧ PF U.vm) (fun _ _ _ _ _ => True) (fun _ U o U' => ∃ vr Lr, o = .returned vr ∧ QS d1 h0 n0 vr U'.heap Lr ∧ PF U'.vm ∧ ReturnedEndW U o U' Lr 0 0) := by
  refine MetFree.of_bodySF (plainFor_of_name own_pn1) hisR ?_
  intro p e s m args below meth c s₁ Bd hml0 hP hK
  obtain ⟨rfl, hZ, hh, hR0⟩ := hP
  have hx := Bd.exec
  have hby := Bd.bytes
  have hml : c.maxLocals = 3 := hml0
  have hown : s.vm.findClass "com/example/citadel_hill/citadelhill/channel/ParameterChecks" = some m.cls := findClass_of_methodNamed Bd.named
  have hnm := (name_of_methodNamed Bd.named Bd.method).1
  have hlk : meth.locks = false := Bd.notSynchronized
  have hrt := Bd.returns
  have X0 : Stand p l e ({ frames := 2, cells := 0, slots := 0, locals := 30 } : Room) s m #[(.ref a1), (.double d1)] below meth c s₁ [] 0 0 := Stand.of_body Bd
  have e0 : s₁.heap = h0 := by rw [← hh, Bd.state]; rfl
  have N0 := Fr.nil n0
  have hS0 : Sn s s s.heap.size := Sn.start s _
  have HK0 : s.heap.size ≤ h0.size := by rw [hh]; exact Nat.le_refl _
  show DoneR PF p e s below 0 0 (QS d1 h0 n0) s₁ (entryFrame m #[(.ref a1), (.double d1)] 3)
  rw [ef_rm6h]
  show DoneR PF p e s below _ _ _ s₁ (mkF m 0 #[.val (.ref a1), .val (.double d1), .second] [])
  refine DoneR.go (fun _ kt_ => XS.dloadN X0.here hx rfl (hb hby d3_0) rfl kt_) ?_
  show DoneR PF p e s below _ _ _ s₁ (mkF m 1 #[.val (.ref a1), .val (.double d1), .second] [(.double d1)])
  obtain ⟨v5, T5, Lc5, X5, hQ5, st5⟩ := own_backG (Jvm.LawKit.callS X0 hx (y := (⟨"java/lang/Double", "isFinite", "(D)Z"⟩ : MethodName)) hown (mvT hZ (hw _ (List.mem_of_getElem? (i := 22) rfl))) (mvT hZ (hw _ (List.mem_of_getElem? (i := 23) rfl))) (mvT hZ (hw _ (List.mem_of_getElem? (i := 24) rfl))) (mvT hZ (hw _ (List.mem_of_getElem? (i := 25) rfl))) (by decide) (backOf (W := 0)  (rm7 l Z a0 hw [] d1 h0 n0 Z0 hn hf) hZ (hw _ (List.mem_of_getElem? (i := 25) rfl)) (hw _ (List.mem_of_getElem? (i := 24) rfl)) (by decide) (by decide)) (g := (mkF m 1 #[.val (.ref a1), .val (.double d1), .second] [(.double d1)])) rfl (by rw [hml]; rfl) (argsL := [(.double d1)]) (rest := []) (lenOf own_pd1 rfl) rfl (by show 2 * 0 + _ ≤ _; exact Nat.le_of_eq rfl) (hb hby d3_1) (fun _ _ => ⟨rfl, e0, (by first | decide | omega : 0 + 0 ≤ _), (by first | decide | omega : 0 + 0 ≤ _)⟩))
  obtain ⟨rfl, N5q, e5⟩ := hQ5
  refine DoneR.go st5 ?_
  clear st5
  have N5 := Fr.app N0 N5q
  clear N5q
  obtain ⟨Lh5, X5h, N5h⟩ : ∃ L, Stand p l e ({ frames := 2, cells := 0, slots := 0, locals := 30 } : Room) s m #[(.ref a1), (.double d1)] below meth c T5 L 0 0 ∧ Fr n0 L := ⟨_, X5, N5⟩
  clear X5 N5
  show DoneR PF p e s below _ _ _ T5 (mkF m 4 #[.val (.ref a1), .val (.double d1), .second] [(.int (1 : Int32))])
  refine DoneR.go (fun _ kt_ => XS.aloadN X5h.here hx rfl (hb hby d3_4) rfl rfl kt_) ?_
  show DoneR PF p e s below _ _ _ T5 (mkF m 5 #[.val (.ref a1), .val (.double d1), .second] [(.ref a1), (.int (1 : Int32))])
  obtain ⟨sa6, st6⟩ := own_ldcH X5h hx hZ hown (hw _ (List.mem_of_getElem? (i := 31) rfl)) hR0 (g := (mkF m 5 #[.val (.ref a1), .val (.double d1), .second] [(.ref a1), (.int (1 : Int32))])) rfl (hb hby d3_5)
  refine DoneR.go st6 ?_
  clear st6
  show DoneR PF p e s below _ _ _ T5 (mkF m 7 #[.val (.ref a1), .val (.double d1), .second] [(.ref sa6), (.ref a1), (.int (1 : Int32))])
  refine DoneR.go (fun _ kt_ => XS.dloadN X5h.here hx rfl (hb hby d3_7) rfl kt_) ?_
  show DoneR PF p e s below _ _ _ T5 (mkF m 8 #[.val (.ref a1), .val (.double d1), .second] [(.double d1), (.ref sa6), (.ref a1), (.int (1 : Int32))])
  obtain ⟨v7, T7, Lc7, X7, hQ7, st7⟩ := own_backG (Jvm.LawKit.callS X5h hx (y := (⟨"com/example/citadel_hill/citadelhill/channel/ParameterChecks", "require", "(ZLjava/lang/String;Ljava/lang/String;D)D"⟩ : MethodName)) hown (mvT hZ (hw _ (List.mem_of_getElem? (i := 32) rfl))) (mvT hZ (hw _ (List.mem_of_getElem? (i := 33) rfl))) (mvT hZ (hw _ (List.mem_of_getElem? (i := 20) rfl))) (mvT hZ (hw _ (List.mem_of_getElem? (i := 34) rfl))) (by decide) (backOf (W := 0)  (rm9 l Z a0 hw [] a1 sa6 d1 h0 n0 Z0) hZ (hw _ (List.mem_of_getElem? (i := 34) rfl)) (hw _ (List.mem_of_getElem? (i := 20) rfl)) (by decide) (by decide)) (g := (mkF m 8 #[.val (.ref a1), .val (.double d1), .second] [(.double d1), (.ref sa6), (.ref a1), (.int (1 : Int32))])) rfl (by rw [hml]; rfl) (argsL := [(.int (1 : Int32)), (.ref a1), (.ref sa6), (.double d1)]) (rest := []) (lenOf own_pd2 rfl) rfl (by show 2 * 0 + _ ≤ _; exact Nat.le_of_eq rfl) (hb hby d3_8) (fun _ _ => ⟨rfl, e5, (by first | decide | omega : 0 + 0 ≤ _), (by first | decide | omega : 0 + 0 ≤ _)⟩))
  obtain ⟨rfl, N7q, e7⟩ := hQ7
  refine DoneR.go st7 ?_
  clear st7
  have N7 := Fr.app N5h N7q
  clear N7q
  obtain ⟨Lh7, X7h, N7h⟩ : ∃ L, Stand p l e ({ frames := 2, cells := 0, slots := 0, locals := 30 } : Room) s m #[(.ref a1), (.double d1)] below meth c T7 L 0 0 ∧ Fr n0 L := ⟨_, X7, N7⟩
  clear X7 N7 X5h e5 N5h
  show DoneR PF p e s below _ _ _ T7 (mkF m 11 #[.val (.ref a1), .val (.double d1), .second] [(.double d1)])
  refine DoneR.retD X7h hx ⟨⟨hlk, _, hS0, (by rw [e7]; exact HK0)⟩, (Rsd.up hR0 X7h.warmed.wide)⟩ hrt (hb hby d3_11) ?_ (by first | decide | omega) (by first | decide | omega)
  rw [e7]
  exact ⟨rfl, N7h, (Keep.refl h0 [])⟩
theorem d7_0 : decode prog_24_method_5_code 0 = .ok (.dload_n 1, 1) := by decide +kernel
theorem d7_1 : decode prog_24_method_5_code 1 = .ok (.invokestatic 7, 3) := by decide +kernel
theorem d7_4 : decode prog_24_method_5_code 4 = .ok (.ifCond .eq 13, 3) := by decide +kernel
theorem d7_7 : decode prog_24_method_5_code 7 = .ok (.dload_n 1, 1) := by decide +kernel
theorem d7_8 : decode prog_24_method_5_code 8 = .ok (.dconst 0, 1) := by decide +kernel
theorem d7_9 : decode prog_24_method_5_code 9 = .ok (.dcmp .l, 1) := by decide +kernel
theorem d7_10 : decode prog_24_method_5_code 10 = .ok (.ifCond .lt 7, 3) := by decide +kernel
theorem d7_13 : decode prog_24_method_5_code 13 = .ok (.iconst 1, 1) := by decide +kernel
theorem d7_14 : decode prog_24_method_5_code 14 = .ok (.goto 4, 3) := by decide +kernel
theorem d7_17 : decode prog_24_method_5_code 17 = .ok (.iconst 0, 1) := by decide +kernel
theorem d7_18 : decode prog_24_method_5_code 18 = .ok (.aload_n 0, 1) := by decide +kernel
theorem d7_19 : decode prog_24_method_5_code 19 = .ok (.ldc 25, 2) := by decide +kernel
theorem d7_21 : decode prog_24_method_5_code 21 = .ok (.dload_n 1, 1) := by decide +kernel
theorem d7_22 : decode prog_24_method_5_code 22 = .ok (.invokestatic 15, 3) := by decide +kernel
theorem d7_25 : decode prog_24_method_5_code 25 = .ok (.dreturn, 1) := by decide +kernel
theorem ef_rm10 (m : MethodId) (a1 : Addr) (d1 : UInt64) : entryFrame m #[(.ref a1), (.double d1)] 3 = mkF m 0 #[.val (.ref a1), .val (.double d1), .second] [] := by first | (simp [entryFrame, mkF, argsToLocals, Value.category]; done) | rfl
set_option maxRecDepth 65536 in
set_option maxHeartbeats 40000000 in
theorem rm10 (l : Launch) (Z : State) (a0 : Array Value) (hw : ∀ d ∈ tables_1, d.before a0 Z = true) (ws : List Jvm.Cond) (a1 : Addr) (d1 : UInt64) (h0 : Heap) (n0 : Nat) (Z0 : n0 ≤ h0.size) (hn : Jvm.Free.Fl.NoNaN64 d1) (hf : ¬ (0 : Int32) < cmpValue (FP.dcmp (d1 &&& (0x7fffffffffffffff : UInt64)) (9218868437227405311 : UInt64)) .g) (hg : ¬ cmpValue (FP.dcmp d1 (FP.l2d (0 : Int64))) .l < (0 : Int32)) :
    MetFree l (⟨"com/example/citadel_hill/citadelhill/channel/ParameterChecks", "requireNonNegative", "(Ljava/lang/String;D)D"⟩ : MethodName) (head1 (Jvm.Cond.code (⟨"com/example/citadel_hill/citadelhill/channel/ParameterChecks", "requireNonNegative", "(Ljava/lang/String;D)D"⟩ : MethodName) prog_24_method_5_code 3 (some .double) :: ws) ({ frames := 2, cells := 2, slots := 96, locals := 30 } : Room)) (fun a U => a = #[(.ref a1), (.double d1)] ∧ Z.Warmed39 U.vm ∧ U.heap = h0 ∧ PT U.vm) (fun _ _ _ _ _ => True) (fun _ U o U' => ∃ vr Lr, o = .returned vr ∧ QS d1 h0 n0 vr U'.heap Lr ∧ PT U'.vm ∧ ReturnedEndW U o U' Lr 2 96) := by
  refine MetFree.of_bodySF (plainFor_of_name own_pn1) hisR ?_
  intro p e s m args below meth c s₁ Bd hml0 hP hK
  obtain ⟨rfl, hZ, hh, hR0⟩ := hP
  have hx := Bd.exec
  have hby := Bd.bytes
  have hml : c.maxLocals = 3 := hml0
  have hown : s.vm.findClass "com/example/citadel_hill/citadelhill/channel/ParameterChecks" = some m.cls := findClass_of_methodNamed Bd.named
  have hnm := (name_of_methodNamed Bd.named Bd.method).1
  have hlk : meth.locks = false := Bd.notSynchronized
  have hrt := Bd.returns
  have X0 : Stand p l e ({ frames := 2, cells := 2, slots := 96, locals := 30 } : Room) s m #[(.ref a1), (.double d1)] below meth c s₁ [] 0 0 := Stand.of_body Bd
  have e0 : s₁.heap = h0 := by rw [← hh, Bd.state]; rfl
  have N0 := Fr.nil n0
  have hS0 : Sn s s s.heap.size := Sn.start s _
  have HK0 : s.heap.size ≤ h0.size := by rw [hh]; exact Nat.le_refl _
  show DoneR PT p e s below 2 96 (QS d1 h0 n0) s₁ (entryFrame m #[(.ref a1), (.double d1)] 3)
  rw [ef_rm10]
  show DoneR PT p e s below _ _ _ s₁ (mkF m 0 #[.val (.ref a1), .val (.double d1), .second] [])
  refine DoneR.go (fun _ kt_ => XS.dloadN X0.here hx rfl (hb hby d7_0) rfl kt_) ?_
  show DoneR PT p e s below _ _ _ s₁ (mkF m 1 #[.val (.ref a1), .val (.double d1), .second] [(.double d1)])
  obtain ⟨v8, T8, Lc8, X8, hQ8, st8⟩ := own_backG (Jvm.LawKit.callS X0 hx (y := (⟨"java/lang/Double", "isFinite", "(D)Z"⟩ : MethodName)) hown (mvT hZ (hw _ (List.mem_of_getElem? (i := 22) rfl))) (mvT hZ (hw _ (List.mem_of_getElem? (i := 23) rfl))) (mvT hZ (hw _ (List.mem_of_getElem? (i := 24) rfl))) (mvT hZ (hw _ (List.mem_of_getElem? (i := 25) rfl))) (by decide) (backOf (W := 0)  (rm7 l Z a0 hw [] d1 h0 n0 Z0 hn hf) hZ (hw _ (List.mem_of_getElem? (i := 25) rfl)) (hw _ (List.mem_of_getElem? (i := 24) rfl)) (by decide) (by decide)) (g := (mkF m 1 #[.val (.ref a1), .val (.double d1), .second] [(.double d1)])) rfl (by rw [hml]; rfl) (argsL := [(.double d1)]) (rest := []) (lenOf own_pd1 rfl) rfl (by show 2 * 0 + _ ≤ _; exact Nat.le_of_eq rfl) (hb hby d7_1) (fun _ _ => ⟨rfl, e0, (by first | decide | omega : 0 + 0 ≤ _), (by first | decide | omega : 0 + 0 ≤ _)⟩))
  obtain ⟨rfl, N8q, e8⟩ := hQ8
  refine DoneR.go st8 ?_
  clear st8
  have N8 := Fr.app N0 N8q
  clear N8q
  obtain ⟨Lh8, X8h, N8h⟩ : ∃ L, Stand p l e ({ frames := 2, cells := 2, slots := 96, locals := 30 } : Room) s m #[(.ref a1), (.double d1)] below meth c T8 L 0 0 ∧ Fr n0 L := ⟨_, X8, N8⟩
  clear X8 N8
  show DoneR PT p e s below _ _ _ T8 (mkF m 4 #[.val (.ref a1), .val (.double d1), .second] [(.int (1 : Int32))])
  refine DoneR.go (fun _ kt_ => XS.ifNo X8h.here hx rfl (hb hby d7_4) rfl ((if0 _ _).trans (feq (by decide)).1) kt_) ?_
  show DoneR PT p e s below _ _ _ T8 (mkF m 7 #[.val (.ref a1), .val (.double d1), .second] [])
  refine DoneR.go (fun _ kt_ => XS.dloadN X8h.here hx rfl (hb hby d7_7) rfl kt_) ?_
  show DoneR PT p e s below _ _ _ T8 (mkF m 8 #[.val (.ref a1), .val (.double d1), .second] [(.double d1)])
  refine DoneR.go (fun _ kt_ => XS.dconst0 X8h.here hx rfl (hb hby d7_8) own_d0 kt_) ?_
  show DoneR PT p e s below _ _ _ T8 (mkF m 9 #[.val (.ref a1), .val (.double d1), .second] [(.double (FP.l2d (0 : Int64))), (.double d1)])
  refine DoneR.go (fun _ kt_ => XS.dcmpS X8h.here hx rfl (hb hby d7_9) rfl rfl kt_) ?_
  show DoneR PT p e s below _ _ _ T8 (mkF m 10 #[.val (.ref a1), .val (.double d1), .second] [(.int (cmpValue (FP.dcmp d1 (FP.l2d (0 : Int64))) .l))])
  refine DoneR.go (fun _ kt_ => XS.ifNo X8h.here hx rfl (hb hby d7_10) rfl ((if0 _ _).trans (flt hg).1) kt_) ?_
  show DoneR PT p e s below _ _ _ T8 (mkF m 13 #[.val (.ref a1), .val (.double d1), .second] [])
  refine DoneR.go (fun _ kt_ => XS.iconst X8h.here hx rfl (hb hby d7_13) kt_) ?_
  show DoneR PT p e s below _ _ _ T8 (mkF m 14 #[.val (.ref a1), .val (.double d1), .second] [(.int (1 : Int32))])
  refine DoneR.go (fun _ kt_ => XS.goto X8h.here hx rfl (pc0 := 14) (pc' := 18) rfl (hb hby d7_14) (by decide) (by decide) kt_) ?_
  show DoneR PT p e s below _ _ _ T8 (mkF m 18 #[.val (.ref a1), .val (.double d1), .second] [(.int (1 : Int32))])
  refine DoneR.go (fun _ kt_ => XS.aloadN X8h.here hx rfl (hb hby d7_18) rfl rfl kt_) ?_
  show DoneR PT p e s below _ _ _ T8 (mkF m 19 #[.val (.ref a1), .val (.double d1), .second] [(.ref a1), (.int (1 : Int32))])
  obtain ⟨sa9, T9, h9, bs9, kk9, X9, e9, E9, hS9, HK9, hZ, hown, U9, R9, st9⟩ := own_ldcR X8h hx hZ hown (hw _ (List.mem_of_getElem? (i := 39) rfl)) (own_wS hw) e8 hS0 HK0 (g := (mkF m 19 #[.val (.ref a1), .val (.double d1), .second] [(.ref a1), (.int (1 : Int32))])) rfl (hb hby d7_19) (n := 92) (by decide) (by decide) (by decide) (by decide)
  have Z9 : n0 ≤ h9.size := Nat.le_trans Z0 E9.1
  have K9 : Keep h0 h9 [] := (Keep.refl h0 []).ext E9
  obtain ⟨Lh9, X9h, N9h⟩ : ∃ L, Stand p l e ({ frames := 2, cells := 2, slots := 96, locals := 30 } : Room) bs9 m #[(.ref a1), (.double d1)] below meth c T9 L 2 96 ∧ Fr n0 L := ⟨_, X9, N8h⟩
  clear X9 N8h X8h e8
  refine DoneR.go st9 ?_
  clear st9
  show DoneR PT p e s below _ _ _ T9 (mkF m 21 #[.val (.ref a1), .val (.double d1), .second] [(.ref sa9), (.ref a1), (.int (1 : Int32))])
  refine DoneR.go (fun _ kt_ => XS.dloadN X9h.here hx rfl (hb hby d7_21) rfl kt_) ?_
  show DoneR PT p e s below _ _ _ T9 (mkF m 22 #[.val (.ref a1), .val (.double d1), .second] [(.double d1), (.ref sa9), (.ref a1), (.int (1 : Int32))])
  obtain ⟨v10, T10, Lc10, X10, hQ10, st10⟩ := own_backG (Jvm.LawKit.callS X9h hx (y := (⟨"com/example/citadel_hill/citadelhill/channel/ParameterChecks", "require", "(ZLjava/lang/String;Ljava/lang/String;D)D"⟩ : MethodName)) hown (mvT hZ (hw _ (List.mem_of_getElem? (i := 32) rfl))) (mvT hZ (hw _ (List.mem_of_getElem? (i := 33) rfl))) (mvT hZ (hw _ (List.mem_of_getElem? (i := 20) rfl))) (mvT hZ (hw _ (List.mem_of_getElem? (i := 34) rfl))) (by decide) (backOf (W := 0)  (rm9 l Z a0 hw [] a1 sa9 d1 h9 n0 Z9) hZ (hw _ (List.mem_of_getElem? (i := 34) rfl)) (hw _ (List.mem_of_getElem? (i := 20) rfl)) (by decide) (by decide)) (g := (mkF m 22 #[.val (.ref a1), .val (.double d1), .second] [(.double d1), (.ref sa9), (.ref a1), (.int (1 : Int32))])) rfl (by rw [hml]; rfl) (argsL := [(.int (1 : Int32)), (.ref a1), (.ref sa9), (.double d1)]) (rest := []) (lenOf own_pd2 rfl) rfl (by show 2 * 0 + _ ≤ _; exact Nat.le_of_eq rfl) (hb hby d7_22) (fun _ _ => ⟨rfl, e9, (by first | decide | omega : 2 + 0 ≤ _), (by first | decide | omega : 96 + 0 ≤ _)⟩))
  obtain ⟨rfl, N10q, e10⟩ := hQ10
  refine DoneR.go st10 ?_
  clear st10
  have N10 := Fr.app N9h N10q
  clear N10q
  obtain ⟨Lh10, X10h, N10h⟩ : ∃ L, Stand p l e ({ frames := 2, cells := 2, slots := 96, locals := 30 } : Room) bs9 m #[(.ref a1), (.double d1)] below meth c T10 L 2 96 ∧ Fr n0 L := ⟨_, X10, N10⟩
  clear X10 N10 X9h e9 N9h
  show DoneR PT p e s below _ _ _ T10 (mkF m 25 #[.val (.ref a1), .val (.double d1), .second] [(.double d1)])
  refine DoneR.retD X10h hx ⟨⟨hlk, _, hS9, (by rw [e10]; exact HK9)⟩, trivial⟩ hrt (hb hby d7_25) ?_ (by first | decide | omega) (by first | decide | omega)
  rw [e10]
  exact ⟨rfl, N10h, K9⟩
def Q4 (Z : State) (a1 : Addr) (d1 d2 d3 : UInt64) (h0 : Heap) (n0 : Nat) (v : Option Value) (h : Heap) (L : List Loc) : Prop := v = none ∧ Fr n0 L ∧ Keep h0 h [a1] ∧ Exa Z h a1 "com/example/citadel_hill/citadelhill/cell/CurrentPulse" ∧ Fld Z h a1 "com/example/citadel_hill/citadelhill/cell/CurrentPulse" "delay" "D" (.double d1) ∧ Fld Z h a1 "com/example/citadel_hill/citadelhill/cell/CurrentPulse" "duration" "D" (.double d2) ∧ Fld Z h a1 "com/example/citadel_hill/citadelhill/cell/CurrentPulse" "amplitude" "D" (.double d3)
theorem d1_0 : decode prog_4_method_1_code 0 = .ok (.aload_n 0, 1) := by decide +kernel
theorem d1_1 : decode prog_4_method_1_code 1 = .ok (.invokespecial 1, 3) := by decide +kernel
theorem d1_4 : decode prog_4_method_1_code 4 = .ok (.ldc 7, 2) := by decide +kernel
theorem d1_6 : decode prog_4_method_1_code 6 = .ok (.dload_n 1, 1) := by decide +kernel
theorem d1_7 : decode prog_4_method_1_code 7 = .ok (.invokestatic 9, 3) := by decide +kernel
theorem d1_10 : decode prog_4_method_1_code 10 = .ok (.pop2, 1) := by decide +kernel
theorem d1_11 : decode prog_4_method_1_code 11 = .ok (.ldc 15, 2) := by decide +kernel
theorem d1_13 : decode prog_4_method_1_code 13 = .ok (.dload_n 3, 1) := by decide +kernel
theorem d1_14 : decode prog_4_method_1_code 14 = .ok (.invokestatic 17, 3) := by decide +kernel
theorem d1_17 : decode prog_4_method_1_code 17 = .ok (.pop2, 1) := by decide +kernel
theorem d1_18 : decode prog_4_method_1_code 18 = .ok (.ldc 20, 2) := by decide +kernel
theorem d1_20 : decode prog_4_method_1_code 20 = .ok (.dload 5, 2) := by decide +kernel
theorem d1_22 : decode prog_4_method_1_code 22 = .ok (.invokestatic 9, 3) := by decide +kernel
theorem d1_25 : decode prog_4_method_1_code 25 = .ok (.pop2, 1) := by decide +kernel
theorem d1_26 : decode prog_4_method_1_code 26 = .ok (.aload_n 0, 1) := by decide +kernel
theorem d1_27 : decode prog_4_method_1_code 27 = .ok (.dload_n 1, 1) := by decide +kernel
theorem d1_28 : decode prog_4_method_1_code 28 = .ok (.putfield 22, 3) := by decide +kernel
theorem d1_31 : decode prog_4_method_1_code 31 = .ok (.aload_n 0, 1) := by decide +kernel
theorem d1_32 : decode prog_4_method_1_code 32 = .ok (.dload_n 3, 1) := by decide +kernel
theorem d1_33 : decode prog_4_method_1_code 33 = .ok (.putfield 27, 3) := by decide +kernel
theorem d1_36 : decode prog_4_method_1_code 36 = .ok (.aload_n 0, 1) := by decide +kernel
theorem d1_37 : decode prog_4_method_1_code 37 = .ok (.dload 5, 2) := by decide +kernel
theorem d1_39 : decode prog_4_method_1_code 39 = .ok (.putfield 29, 3) := by decide +kernel
theorem d1_42 : decode prog_4_method_1_code 42 = .ok (.return_, 1) := by decide +kernel
theorem own_pn2 : plainName "com/example/citadel_hill/citadelhill/cell/CurrentPulse" = true := by first | (simp [plainName, overriddenIn]; done) | decide +kernel
theorem ef_rm4 (m : MethodId) (a1 : Addr) (d1 : UInt64) (d2 : UInt64) (d3 : UInt64) : entryFrame m #[(.ref a1), (.double d1), (.double d2), (.double d3)] 7 = mkF m 0 #[.val (.ref a1), .val (.double d1), .second, .val (.double d2), .second, .val (.double d3), .second] [] := by first | (simp [entryFrame, mkF, argsToLocals, Value.category]; done) | rfl
set_option maxRecDepth 65536 in
set_option maxHeartbeats 40000000 in
theorem rm4 (l : Launch) (Z : State) (a0 : Array Value) (hw : ∀ d ∈ tables_1, d.before a0 Z = true) (ws : List Jvm.Cond) (a1 : Addr) (d1 : UInt64) (d2 : UInt64) (d3 : UInt64) (h0 : Heap) (n0 : Nat) (Z0 : n0 ≤ h0.size) (E1 : Exa Z h0 a1 "com/example/citadel_hill/citadelhill/cell/CurrentPulse") (g1 : n0 ≤ a1) (F_delay : Fld Z h0 a1 "com/example/citadel_hill/citadelhill/cell/CurrentPulse" "delay" "D" (.double (0 : UInt64))) (F_duration : Fld Z h0 a1 "com/example/citadel_hill/citadelhill/cell/CurrentPulse" "duration" "D" (.double (0 : UInt64))) (F_amplitude : Fld Z h0 a1 "com/example/citadel_hill/citadelhill/cell/CurrentPulse" "amplitude" "D" (.double (0 : UInt64))) (hn1 : Jvm.Free.Fl.NoNaN64 d1) (hf1 : ¬ (0 : Int32) < cmpValue (FP.dcmp (d1 &&& (0x7fffffffffffffff : UInt64)) (9218868437227405311 : UInt64)) .g) (hn2 : Jvm.Free.Fl.NoNaN64 d2) (hf2 : ¬ (0 : Int32) < cmpValue (FP.dcmp (d2 &&& (0x7fffffffffffffff : UInt64)) (9218868437227405311 : UInt64)) .g) (hn3 : Jvm.Free.Fl.NoNaN64 d3) (hf3 : ¬ (0 : Int32) < cmpValue (FP.dcmp (d3 &&& (0x7fffffffffffffff : UInt64)) (9218868437227405311 : UInt64)) .g) (hg2 : ¬ cmpValue (FP.dcmp d2 (FP.l2d (0 : Int64))) .l < (0 : Int32)) :
    MetFree l (⟨"com/example/citadel_hill/citadelhill/cell/CurrentPulse", "<init>", "(DDD)V"⟩ : MethodName) (head1 (Jvm.Cond.code (⟨"com/example/citadel_hill/citadelhill/cell/CurrentPulse", "<init>", "(DDD)V"⟩ : MethodName) prog_4_method_1_code 7 none :: ws) ({ frames := 3, cells := 10, slots := 224, locals := 50 } : Room)) (fun a U => a = #[(.ref a1), (.double d1), (.double d2), (.double d3)] ∧ Z.Warmed39 U.vm ∧ U.heap = h0 ∧ PT U.vm) (fun _ _ _ _ _ => True) (fun _ U o U' => ∃ vr Lr, o = .returned vr ∧ Q4 Z a1 d1 d2 d3 h0 n0 vr U'.heap Lr ∧ PT U'.vm ∧ ReturnedEndW U o U' Lr 10 224) := by
  refine MetFree.of_bodySF (plainFor_of_name own_pn2) hisR ?_
  intro p e s m args below meth c s₁ Bd hml0 hP hK
  obtain ⟨rfl, hZ, hh, hR0⟩ := hP
  have hx := Bd.exec
  have hby := Bd.bytes
  have hml : c.maxLocals = 7 := hml0
  have hown : s.vm.findClass "com/example/citadel_hill/citadelhill/cell/CurrentPulse" = some m.cls := findClass_of_methodNamed Bd.named
  have hnm := (name_of_methodNamed Bd.named Bd.method).1
  have hlk : meth.locks = false := Bd.notSynchronized
  have hrt := Bd.returns
  have X0 : Stand p l e ({ frames := 3, cells := 10, slots := 224, locals := 50 } : Room) s m #[(.ref a1), (.double d1), (.double d2), (.double d3)] below meth c s₁ [] 0 0 := Stand.of_body Bd
  have e0 : s₁.heap = h0 := by rw [← hh, Bd.state]; rfl
  have N0 := Fr.nil n0
  have hS0 : Sn s s s.heap.size := Sn.start s _
  have HK0 : s.heap.size ≤ h0.size := by rw [hh]; exact Nat.le_refl _
  show DoneR PT p e s below 10 224 (Q4 Z a1 d1 d2 d3 h0 n0) s₁ (entryFrame m #[(.ref a1), (.double d1), (.double d2), (.double d3)] 7)
  rw [ef_rm4]
  show DoneR PT p e s below _ _ _ s₁ (mkF m 0 #[.val (.ref a1), .val (.double d1), .second, .val (.double d2), .second, .val (.double d3), .second] [])
  refine DoneR.go (fun _ kt_ => XS.aloadN X0.here hx rfl (hb hby d1_0) rfl rfl kt_) ?_
  show DoneR PT p e s below _ _ _ s₁ (mkF m 1 #[.val (.ref a1), .val (.double d1), .second, .val (.double d2), .second, .val (.double d3), .second] [(.ref a1)])
  obtain ⟨T11, X11, e11, st11⟩ := initO X0 hx hZ hown (hw _ (List.mem_of_getElem? (i := 7) rfl)) (hw _ (List.mem_of_getElem? (i := 8) rfl)) (hw _ (List.mem_of_getElem? (i := 9) rfl)) e0 (g := (mkF m 1 #[.val (.ref a1), .val (.double d1), .second, .val (.double d2), .second, .val (.double d3), .second] [(.ref a1)])) rfl (by rw [hml]; rfl) rfl (hb hby d1_1) (by decide) (W := 0) (by show 2 * 0 + _ ≤ _; exact Nat.le_of_eq rfl) (by decide)
  refine DoneR.go st11 ?_
  clear st11
  show DoneR PT p e s below _ _ _ T11 (mkF m 4 #[.val (.ref a1), .val (.double d1), .second, .val (.double d2), .second, .val (.double d3), .second] [])
  obtain ⟨sa12, T12, h12, bs12, kk12, X12, e12, E12, hS12, HK12, hZ, hown, U12, R12, st12⟩ := own_ldcR X11 hx hZ hown (hw _ (List.mem_of_getElem? (i := 10) rfl)) (own_wS hw) e11 hS0 HK0 (g := (mkF m 4 #[.val (.ref a1), .val (.double d1), .second, .val (.double d2), .second, .val (.double d3), .second] [])) rfl (hb hby d1_4) (n := 20) (by decide) (by decide) (by decide) (by decide)
  have Z12 : n0 ≤ h12.size := Nat.le_trans Z0 E12.1
  have K12 : Keep h0 h12 [a1] := (Keep.refl h0 [a1]).ext E12
  obtain ⟨Lh12, X12h, N12h⟩ : ∃ L, Stand p l e ({ frames := 3, cells := 10, slots := 224, locals := 50 } : Room) bs12 m #[(.ref a1), (.double d1), (.double d2), (.double d3)] below meth c T12 L 2 24 ∧ Fr n0 L := ⟨_, X12, N0⟩
  clear X12 X11 e11
  refine DoneR.go st12 ?_
  clear st12
  show DoneR PT p e s below _ _ _ T12 (mkF m 6 #[.val (.ref a1), .val (.double d1), .second, .val (.double d2), .second, .val (.double d3), .second] [(.ref sa12)])
  refine DoneR.go (fun _ kt_ => XS.dloadN X12h.here hx rfl (hb hby d1_6) rfl kt_) ?_
  show DoneR PT p e s below _ _ _ T12 (mkF m 7 #[.val (.ref a1), .val (.double d1), .second, .val (.double d2), .second, .val (.double d3), .second] [(.double d1), (.ref sa12)])
  obtain ⟨v13, T13, Lc13, bs13, X13, hQ13, hS13, hZ, hown, U13, R13, st13⟩ := own_backWR hZ hown hS12 (by rw [e12]; exact HK12) (callSS X12h hx (y := (⟨"com/example/citadel_hill/citadelhill/channel/ParameterChecks", "requireFinite", "(Ljava/lang/String;D)D"⟩ : MethodName)) hown (mvT hZ (hw _ (List.mem_of_getElem? (i := 18) rfl))) (mvT hZ (hw _ (List.mem_of_getElem? (i := 19) rfl))) (mvT hZ (hw _ (List.mem_of_getElem? (i := 20) rfl))) (mvT hZ (hw _ (List.mem_of_getElem? (i := 21) rfl))) (by decide) (own_backOfSR (W := 0) (rm6c l Z a0 hw [] sa12 d1 h12 n0 Z12 hn1 hf1) hZ (hw _ (List.mem_of_getElem? (i := 21) rfl)) (hw _ (List.mem_of_getElem? (i := 20) rfl)) (by decide) (by decide) (fun _ _ => trivial)) (g := (mkF m 7 #[.val (.ref a1), .val (.double d1), .second, .val (.double d2), .second, .val (.double d3), .second] [(.double d1), (.ref sa12)])) rfl (by rw [hml]; rfl) (argsL := [(.ref sa12), (.double d1)]) (rest := []) (lenOf own_pd3 rfl) rfl (by show 2 * 0 + _ ≤ _; exact Nat.le_of_eq rfl) (hb hby d1_7) (fun _ _ => ⟨rfl, e12, (by first | decide | omega : 2 + 2 ≤ _), (by first | decide | omega : 24 + 28 ≤ _)⟩))
  obtain ⟨rfl, N13q, K13k⟩ := hQ13
  refine DoneR.go st13 ?_
  clear st13
  have N13 := Fr.app N12h N13q
  clear N13q
  have HK13 := Nat.le_refl T13.heap.size
  have Z13 : n0 ≤ T13.heap.size := Nat.le_trans Z12 K13k.1
  have KK13 : Keep h0 T13.heap [a1] := K12.trans K13k all0
  obtain ⟨Lh13, X13h, N13h⟩ : ∃ L, Stand p l e ({ frames := 3, cells := 10, slots := 224, locals := 50 } : Room) bs13 m #[(.ref a1), (.double d1), (.double d2), (.double d3)] below meth c T13 L 4 52 ∧ Fr n0 L := ⟨_, X13, N13⟩
  clear X13 N13 X12h e12 N12h Z12 K12
  show DoneR PT p e s below _ _ _ T13 (mkF m 10 #[.val (.ref a1), .val (.double d1), .second, .val (.double d2), .second, .val (.double d3), .second] [(.double d1)])
  refine DoneR.go (fun t_ kt_ => by jvm_step X13h.here [X13h.here.top, hx, (hb hby d1_10), Value.category]; exact kt_) ?_
  show DoneR PT p e s below _ _ _ T13 (mkF m 11 #[.val (.ref a1), .val (.double d1), .second, .val (.double d2), .second, .val (.double d3), .second] [])
  obtain ⟨sa14, T14, h14, bs14, kk14, X14, e14, E14, hS14, HK14, hZ, hown, U14, R14, st14⟩ := own_ldcR X13h hx hZ hown (hw _ (List.mem_of_getElem? (i := 35) rfl)) (own_wS hw) rfl hS13 HK13 (g := (mkF m 11 #[.val (.ref a1), .val (.double d1), .second, .val (.double d2), .second, .val (.double d3), .second] [])) rfl (hb hby d1_11) (n := 32) (by decide) (by decide) (by decide) (by decide)
  have hR14 := Rsd.up R13 U14
  have Z14 : n0 ≤ h14.size := Nat.le_trans Z13 E14.1
  have K14 : Keep h0 h14 [a1] := KK13.ext E14
  obtain ⟨Lh14, X14h, N14h⟩ : ∃ L, Stand p l e ({ frames := 3, cells := 10, slots := 224, locals := 50 } : Room) bs14 m #[(.ref a1), (.double d1), (.double d2), (.double d3)] below meth c T14 L 6 88 ∧ Fr n0 L := ⟨_, X14, N13h⟩
  clear X14 N13h X13h Z13 KK13
  refine DoneR.go st14 ?_
  clear st14
  show DoneR PT p e s below _ _ _ T14 (mkF m 13 #[.val (.ref a1), .val (.double d1), .second, .val (.double d2), .second, .val (.double d3), .second] [(.ref sa14)])
  refine DoneR.go (fun _ kt_ => XS.dloadN X14h.here hx rfl (hb hby d1_13) rfl kt_) ?_
  show DoneR PT p e s below _ _ _ T14 (mkF m 14 #[.val (.ref a1), .val (.double d1), .second, .val (.double d2), .second, .val (.double d3), .second] [(.double d2), (.ref sa14)])
  obtain ⟨v15, T15, Lc15, bs15, X15, hQ15, hS15, hZ, hown, U15, R15, st15⟩ := own_backWR hZ hown hS14 (by rw [e14]; exact HK14) (callSS X14h hx (y := (⟨"com/example/citadel_hill/citadelhill/channel/ParameterChecks", "requireNonNegative", "(Ljava/lang/String;D)D"⟩ : MethodName)) hown (mvT hZ (hw _ (List.mem_of_getElem? (i := 36) rfl))) (mvT hZ (hw _ (List.mem_of_getElem? (i := 37) rfl))) (mvT hZ (hw _ (List.mem_of_getElem? (i := 20) rfl))) (mvT hZ (hw _ (List.mem_of_getElem? (i := 38) rfl))) (by decide) (own_backOfSR (W := 0) (rm10 l Z a0 hw [] sa14 d2 h14 n0 Z14 hn2 hf2 hg2) hZ (hw _ (List.mem_of_getElem? (i := 38) rfl)) (hw _ (List.mem_of_getElem? (i := 20) rfl)) (by decide) (by decide) (fun _ _ => trivial)) (g := (mkF m 14 #[.val (.ref a1), .val (.double d1), .second, .val (.double d2), .second, .val (.double d3), .second] [(.double d2), (.ref sa14)])) rfl (by rw [hml]; rfl) (argsL := [(.ref sa14), (.double d2)]) (rest := []) (lenOf own_pd3 rfl) rfl (by show 2 * 0 + _ ≤ _; exact Nat.le_of_eq rfl) (hb hby d1_14) (fun _ _ => ⟨rfl, e14, (by first | decide | omega : 6 + 2 ≤ _), (by first | decide | omega : 88 + 96 ≤ _)⟩))
  obtain ⟨rfl, N15q, K15k⟩ := hQ15
  refine DoneR.go st15 ?_
  clear st15
  have N15 := Fr.app N14h N15q
  clear N15q
  have hR15 := Rsd.up hR14 U15
  have HK15 := Nat.le_refl T15.heap.size
  have Z15 : n0 ≤ T15.heap.size := Nat.le_trans Z14 K15k.1
  have KK15 : Keep h0 T15.heap [a1] := K14.trans K15k all0
  obtain ⟨Lh15, X15h, N15h⟩ : ∃ L, Stand p l e ({ frames := 3, cells := 10, slots := 224, locals := 50 } : Room) bs15 m #[(.ref a1), (.double d1), (.double d2), (.double d3)] below meth c T15 L 8 184 ∧ Fr n0 L := ⟨_, X15, N15⟩
  clear X15 N15 X14h e14 N14h Z14 K14
  show DoneR PT p e s below _ _ _ T15 (mkF m 17 #[.val (.ref a1), .val (.double d1), .second, .val (.double d2), .second, .val (.double d3), .second] [(.double d2)])
  refine DoneR.go (fun t_ kt_ => by jvm_step X15h.here [X15h.here.top, hx, (hb hby d1_17), Value.category]; exact kt_) ?_
  show DoneR PT p e s below _ _ _ T15 (mkF m 18 #[.val (.ref a1), .val (.double d1), .second, .val (.double d2), .second, .val (.double d3), .second] [])
  obtain ⟨sa16, T16, h16, bs16, kk16, X16, e16, E16, hS16, HK16, hZ, hown, U16, R16, st16⟩ := own_ldcR X15h hx hZ hown (hw _ (List.mem_of_getElem? (i := 40) rfl)) (own_wS hw) rfl hS15 HK15 (g := (mkF m 18 #[.val (.ref a1), .val (.double d1), .second, .val (.double d2), .second, .val (.double d3), .second] [])) rfl (hb hby d1_18) (n := 36) (by decide) (by decide) (by decide) (by decide)
  have hR16 := Rsd.up hR15 U16
  have Z16 : n0 ≤ h16.size := Nat.le_trans Z15 E16.1
  have K16 : Keep h0 h16 [a1] := KK15.ext E16
  obtain ⟨Lh16, X16h, N16h⟩ : ∃ L, Stand p l e ({ frames := 3, cells := 10, slots := 224, locals := 50 } : Room) bs16 m #[(.ref a1), (.double d1), (.double d2), (.double d3)] below meth c T16 L 10 224 ∧ Fr n0 L := ⟨_, X16, N15h⟩
  clear X16 N15h X15h Z15 KK15
  refine DoneR.go st16 ?_
  clear st16
  show DoneR PT p e s below _ _ _ T16 (mkF m 20 #[.val (.ref a1), .val (.double d1), .second, .val (.double d2), .second, .val (.double d3), .second] [(.ref sa16)])
  refine DoneR.go (fun _ kt_ => XS.dload X16h.here hx rfl (hb hby d1_20) rfl kt_) ?_
  show DoneR PT p e s below _ _ _ T16 (mkF m 22 #[.val (.ref a1), .val (.double d1), .second, .val (.double d2), .second, .val (.double d3), .second] [(.double d3), (.ref sa16)])
  obtain ⟨v17, T17, Lc17, bs17, X17, hQ17, hS17, hZ, hown, U17, R17, st17⟩ := own_backWR hZ hown hS16 (by rw [e16]; exact HK16) (callSS X16h hx (y := (⟨"com/example/citadel_hill/citadelhill/channel/ParameterChecks", "requireFinite", "(Ljava/lang/String;D)D"⟩ : MethodName)) hown (mvT hZ (hw _ (List.mem_of_getElem? (i := 18) rfl))) (mvT hZ (hw _ (List.mem_of_getElem? (i := 19) rfl))) (mvT hZ (hw _ (List.mem_of_getElem? (i := 20) rfl))) (mvT hZ (hw _ (List.mem_of_getElem? (i := 21) rfl))) (by decide) (own_backOfSR (W := 0) (rm6h l Z a0 hw [] sa16 d3 h16 n0 Z16 hn3 hf3) hZ (hw _ (List.mem_of_getElem? (i := 21) rfl)) (hw _ (List.mem_of_getElem? (i := 20) rfl)) (by decide) (by decide) (fun _ q_ => Rsd.up hR16 q_)) (g := (mkF m 22 #[.val (.ref a1), .val (.double d1), .second, .val (.double d2), .second, .val (.double d3), .second] [(.double d3), (.ref sa16)])) rfl (by rw [hml]; rfl) (argsL := [(.ref sa16), (.double d3)]) (rest := []) (lenOf own_pd3 rfl) rfl (by show 2 * 0 + _ ≤ _; exact Nat.le_of_eq rfl) (hb hby d1_22) (fun _ _ => ⟨rfl, e16, (by first | decide | omega : 10 + 0 ≤ _), (by first | decide | omega : 224 + 0 ≤ _)⟩))
  obtain ⟨rfl, N17q, K17k⟩ := hQ17
  refine DoneR.go st17 ?_
  clear st17
  have N17 := Fr.app N16h N17q
  clear N17q
  have HK17 := Nat.le_refl T17.heap.size
  have Z17 : n0 ≤ T17.heap.size := Nat.le_trans Z16 K17k.1
  have KK17 : Keep h0 T17.heap [a1] := K16.trans K17k all0
  obtain ⟨Lh17, X17h, N17h⟩ : ∃ L, Stand p l e ({ frames := 3, cells := 10, slots := 224, locals := 50 } : Room) bs17 m #[(.ref a1), (.double d1), (.double d2), (.double d3)] below meth c T17 L 10 224 ∧ Fr n0 L := ⟨_, X17, N17⟩
  clear X17 N17 X16h e16 N16h Z16 K16
  show DoneR PT p e s below _ _ _ T17 (mkF m 25 #[.val (.ref a1), .val (.double d1), .second, .val (.double d2), .second, .val (.double d3), .second] [(.double d3)])
  refine DoneR.go (fun t_ kt_ => by jvm_step X17h.here [X17h.here.top, hx, (hb hby d1_25), Value.category]; exact kt_) ?_
  show DoneR PT p e s below _ _ _ T17 (mkF m 26 #[.val (.ref a1), .val (.double d1), .second, .val (.double d2), .second, .val (.double d3), .second] [])
  refine DoneR.go (fun _ kt_ => XS.aloadN X17h.here hx rfl (hb hby d1_26) rfl rfl kt_) ?_
  show DoneR PT p e s below _ _ _ T17 (mkF m 27 #[.val (.ref a1), .val (.double d1), .second, .val (.double d2), .second, .val (.double d3), .second] [(.ref a1)])
  refine DoneR.go (fun _ kt_ => XS.dloadN X17h.here hx rfl (hb hby d1_27) rfl kt_) ?_
  show DoneR PT p e s below _ _ _ T17 (mkF m 28 #[.val (.ref a1), .val (.double d1), .second, .val (.double d2), .second, .val (.double d3), .second] [(.double d1), (.ref a1)])
  have f18 := ((((((E1.ext E12).keep K13k).ext E14).keep K15k).ext E16).keep K17k)
  have f19 := ((((((F_delay.ext E12).keep K13k nin0).ext E14).keep K15k nin0).ext E16).keep K17k nin0)
  obtain ⟨T20, h20, X20, e20, W20, st20⟩ := putF X17h hx hZ hown (host := "") (Or.inl (hw _ (List.mem_of_getElem? (i := 41) rfl))) Via.refl rfl f19 f18 (Or.inr ⟨(hw _ (List.mem_of_getElem? (i := 42) rfl)), rfl, hnm⟩) (hw _ (List.mem_of_getElem? (i := 2) rfl)) (ty := .double) (by decide) rfl rfl (g := (mkF m 28 #[.val (.ref a1), .val (.double d1), .second, .val (.double d2), .second, .val (.double d3), .second] [(.double d1), (.ref a1)])) rfl rfl (hb hby d1_28)
  have Fw20 : Fld Z h20 a1 "com/example/citadel_hill/citadelhill/cell/CurrentPulse" "delay" "D" (.double d1) := f19.same W20
  have N20 := Fr.snoc X20 N17h g1
  have Z20 : n0 ≤ h20.size := by rw [W20.size]; exact Z17
  have HK20 := Nat.le_trans HK17 (Nat.le_of_eq W20.size.symm)
  have K20 : Keep h0 h20 [a1] := KK17.wr W20 (Or.inl (List.mem_of_getElem? (i := 0) rfl))
  obtain ⟨Lh20, X20h, N20h⟩ : ∃ L, Stand p l e ({ frames := 3, cells := 10, slots := 224, locals := 50 } : Room) bs17 m #[(.ref a1), (.double d1), (.double d2), (.double d3)] below meth c T20 L 10 224 ∧ Fr n0 L := ⟨_, X20, N20⟩
  clear X20 N20 X17h N17h Z17 KK17
  refine DoneR.go st20 ?_
  clear st20
  show DoneR PT p e s below _ _ _ T20 (mkF m 31 #[.val (.ref a1), .val (.double d1), .second, .val (.double d2), .second, .val (.double d3), .second] [])
  refine DoneR.go (fun _ kt_ => XS.aloadN X20h.here hx rfl (hb hby d1_31) rfl rfl kt_) ?_
  show DoneR PT p e s below _ _ _ T20 (mkF m 32 #[.val (.ref a1), .val (.double d1), .second, .val (.double d2), .second, .val (.double d3), .second] [(.ref a1)])
  refine DoneR.go (fun _ kt_ => XS.dloadN X20h.here hx rfl (hb hby d1_32) rfl kt_) ?_
  show DoneR PT p e s below _ _ _ T20 (mkF m 33 #[.val (.ref a1), .val (.double d1), .second, .val (.double d2), .second, .val (.double d3), .second] [(.double d2), (.ref a1)])
  have f21 := (f18.wr W20)
  have f22 := (((((((F_duration.ext E12).keep K13k nin0).ext E14).keep K15k nin0).ext E16).keep K17k nin0).other W20 (Or.inr (slot_ne (Or.inr (hw _ (List.mem_of_getElem? (i := 44) rfl))) (Or.inr (hw _ (List.mem_of_getElem? (i := 42) rfl))) (by decide) (t := .double) (t' := .double) (by decide) (by decide))))
  obtain ⟨T23, h23, X23, e23, W23, st23⟩ := putF X20h hx hZ hown (host := "") (Or.inl (hw _ (List.mem_of_getElem? (i := 43) rfl))) Via.refl e20 f22 f21 (Or.inr ⟨(hw _ (List.mem_of_getElem? (i := 44) rfl)), rfl, hnm⟩) (hw _ (List.mem_of_getElem? (i := 2) rfl)) (ty := .double) (by decide) rfl rfl (g := (mkF m 33 #[.val (.ref a1), .val (.double d1), .second, .val (.double d2), .second, .val (.double d3), .second] [(.double d2), (.ref a1)])) rfl rfl (hb hby d1_33)
  have Fw23 : Fld Z h23 a1 "com/example/citadel_hill/citadelhill/cell/CurrentPulse" "duration" "D" (.double d2) := f22.same W23
  have N23 := Fr.snoc X23 N20h g1
  have Z23 : n0 ≤ h23.size := by rw [W23.size]; exact Z20
  have HK23 := Nat.le_trans HK20 (Nat.le_of_eq W23.size.symm)
  have K23 : Keep h0 h23 [a1] := K20.wr W23 (Or.inl (List.mem_of_getElem? (i := 0) rfl))
  obtain ⟨Lh23, X23h, N23h⟩ : ∃ L, Stand p l e ({ frames := 3, cells := 10, slots := 224, locals := 50 } : Room) bs17 m #[(.ref a1), (.double d1), (.double d2), (.double d3)] below meth c T23 L 10 224 ∧ Fr n0 L := ⟨_, X23, N23⟩
  clear X23 N23 X20h e20 N20h Z20 K20
  refine DoneR.go st23 ?_
  clear st23
  show DoneR PT p e s below _ _ _ T23 (mkF m 36 #[.val (.ref a1), .val (.double d1), .second, .val (.double d2), .second, .val (.double d3), .second] [])
  refine DoneR.go (fun _ kt_ => XS.aloadN X23h.here hx rfl (hb hby d1_36) rfl rfl kt_) ?_
  show DoneR PT p e s below _ _ _ T23 (mkF m 37 #[.val (.ref a1), .val (.double d1), .second, .val (.double d2), .second, .val (.double d3), .second] [(.ref a1)])
  refine DoneR.go (fun _ kt_ => XS.dload X23h.here hx rfl (hb hby d1_37) rfl kt_) ?_
  show DoneR PT p e s below _ _ _ T23 (mkF m 39 #[.val (.ref a1), .val (.double d1), .second, .val (.double d2), .second, .val (.double d3), .second] [(.double d3), (.ref a1)])
  have f24 := (f21.wr W23)
  have f25 := ((((((((F_amplitude.ext E12).keep K13k nin0).ext E14).keep K15k nin0).ext E16).keep K17k nin0).other W20 (Or.inr (slot_ne (Or.inr (hw _ (List.mem_of_getElem? (i := 46) rfl))) (Or.inr (hw _ (List.mem_of_getElem? (i := 42) rfl))) (by decide) (t := .double) (t' := .double) (by decide) (by decide)))).other W23 (Or.inr (slot_ne (Or.inr (hw _ (List.mem_of_getElem? (i := 46) rfl))) (Or.inr (hw _ (List.mem_of_getElem? (i := 44) rfl))) (by decide) (t := .double) (t' := .double) (by decide) (by decide))))
  obtain ⟨T26, h26, X26, e26, W26, st26⟩ := putF X23h hx hZ hown (host := "") (Or.inl (hw _ (List.mem_of_getElem? (i := 45) rfl))) Via.refl e23 f25 f24 (Or.inr ⟨(hw _ (List.mem_of_getElem? (i := 46) rfl)), rfl, hnm⟩) (hw _ (List.mem_of_getElem? (i := 2) rfl)) (ty := .double) (by decide) rfl rfl (g := (mkF m 39 #[.val (.ref a1), .val (.double d1), .second, .val (.double d2), .second, .val (.double d3), .second] [(.double d3), (.ref a1)])) rfl rfl (hb hby d1_39)
  have Fw26 : Fld Z h26 a1 "com/example/citadel_hill/citadelhill/cell/CurrentPulse" "amplitude" "D" (.double d3) := f25.same W26
  have N26 := Fr.snoc X26 N23h g1
  have Z26 : n0 ≤ h26.size := by rw [W26.size]; exact Z23
  have HK26 := Nat.le_trans HK23 (Nat.le_of_eq W26.size.symm)
  have K26 : Keep h0 h26 [a1] := K23.wr W26 (Or.inl (List.mem_of_getElem? (i := 0) rfl))
  obtain ⟨Lh26, X26h, N26h⟩ : ∃ L, Stand p l e ({ frames := 3, cells := 10, slots := 224, locals := 50 } : Room) bs17 m #[(.ref a1), (.double d1), (.double d2), (.double d3)] below meth c T26 L 10 224 ∧ Fr n0 L := ⟨_, X26, N26⟩
  clear X26 N26 X23h e23 N23h Z23 K23
  refine DoneR.go st26 ?_
  clear st26
  show DoneR PT p e s below _ _ _ T26 (mkF m 42 #[.val (.ref a1), .val (.double d1), .second, .val (.double d2), .second, .val (.double d3), .second] [])
  refine DoneR.retV X26h hx ⟨⟨hlk, _, hS17, (by rw [e26]; exact HK26)⟩, trivial⟩ hrt (hb hby d1_42) ?_ (by first | decide | omega) (by first | decide | omega)
  rw [e26]
  have f27 := (f24.wr W26)
  have f28 := ((Fw20.other W23 (Or.inr (slot_ne (Or.inr (hw _ (List.mem_of_getElem? (i := 42) rfl))) (Or.inr (hw _ (List.mem_of_getElem? (i := 44) rfl))) (by decide) (t := .double) (t' := .double) (by decide) (by decide)))).other W26 (Or.inr (slot_ne (Or.inr (hw _ (List.mem_of_getElem? (i := 42) rfl))) (Or.inr (hw _ (List.mem_of_getElem? (i := 46) rfl))) (by decide) (t := .double) (t' := .double) (by decide) (by decide))))
  have f29 := (Fw23.other W26 (Or.inr (slot_ne (Or.inr (hw _ (List.mem_of_getElem? (i := 44) rfl))) (Or.inr (hw _ (List.mem_of_getElem? (i := 46) rfl))) (by decide) (t := .double) (t' := .double) (by decide) (by decide))))
  exact ⟨rfl, N26h, K26, f27, f28, f29, Fw26⟩
theorem d9_0 : decode prog_4_method_2_code 0 = .ok (.aload_n 0, 1) := by decide +kernel
theorem d9_1 : decode prog_4_method_2_code 1 = .ok (.getfield 22, 3) := by decide +kernel
theorem d9_4 : decode prog_4_method_2_code 4 = .ok (.dreturn, 1) := by decide +kernel
theorem ef_rmS (m : MethodId) (a1 : Addr) : entryFrame m #[(.ref a1)] 1 = mkF m 0 #[.val (.ref a1)] [] := by first | (simp [entryFrame, mkF, argsToLocals, Value.category]; done) | rfl
set_option maxRecDepth 65536 in
set_option maxHeartbeats 40000000 in
theorem rmS (l : Launch) (Z : State) (a0 : Array Value) (hw : ∀ d ∈ tables_1, d.before a0 Z = true) (ws : List Jvm.Cond) (a1 : Addr) (d1 : UInt64) (h0 : Heap) (n0 : Nat) (Z0 : n0 ≤ h0.size) (F1 : Fld Z h0 a1 "com/example/citadel_hill/citadelhill/cell/CurrentPulse" "delay" "D" (.double d1)) :
    MetFree l (⟨"com/example/citadel_hill/citadelhill/cell/CurrentPulse", "start", "()D"⟩ : MethodName) (head1 (Jvm.Cond.code (⟨"com/example/citadel_hill/citadelhill/cell/CurrentPulse", "start", "()D"⟩ : MethodName) prog_4_method_2_code 1 (some .double) :: ws) ({ frames := 0, cells := 0, slots := 0, locals := 0 } : Room)) (fun a U => a = #[(.ref a1)] ∧ Z.Warmed39 U.vm ∧ U.heap = h0) (fun _ _ _ _ _ => True) (fun _ U o U' => ∃ vr Lr, o = .returned vr ∧ QD d1 h0 n0 vr U'.heap Lr ∧ FrameEnd U o U' Lr 0 0) := by
  refine MetFree.of_bodySF (plainFor_of_name own_pn2) hisR ?_
  intro p e s m args below meth c s₁ Bd hml0 hP hK
  obtain ⟨rfl, hZ, hh⟩ := hP
  have hx := Bd.exec
  have hby := Bd.bytes
  have hml : c.maxLocals = 1 := hml0
  have hown : s.vm.findClass "com/example/citadel_hill/citadelhill/cell/CurrentPulse" = some m.cls := findClass_of_methodNamed Bd.named
  have hnm := (name_of_methodNamed Bd.named Bd.method).1
  have hlk : meth.locks = false := Bd.notSynchronized
  have hrt := Bd.returns
  have X0 : Stand p l e ({ frames := 0, cells := 0, slots := 0, locals := 0 } : Room) s m #[(.ref a1)] below meth c s₁ [] 0 0 := Stand.of_body Bd
  have e0 : s₁.heap = h0 := by rw [← hh, Bd.state]; rfl
  have N0 := Fr.nil n0
  show Done p e s below 0 0 (QD d1 h0 n0) s₁ (entryFrame m #[(.ref a1)] 1)
  rw [ef_rmS]
  show Done p e s below _ _ _ s₁ (mkF m 0 #[.val (.ref a1)] [])
  refine Done.go (fun _ kt_ => XS.aloadN X0.here hx rfl (hb hby d9_0) rfl rfl kt_) ?_
  show Done p e s below _ _ _ s₁ (mkF m 1 #[.val (.ref a1)] [(.ref a1)])
  obtain ⟨T30, X30, e30, st30⟩ := getF X0 hx hZ hown (host := "") (Or.inl (hw _ (List.mem_of_getElem? (i := 41) rfl))) Via.refl e0 F1 (g := (mkF m 1 #[.val (.ref a1)] [(.ref a1)])) rfl rfl (hb hby d9_1)
  refine Done.go st30 ?_
  clear st30
  show Done p e s below _ _ _ T30 (mkF m 4 #[.val (.ref a1)] [(.double d1)])
  refine Done.retD X30 hx hlk hrt (hb hby d9_4) ?_ (by first | decide | omega) (by first | decide | omega)
  rw [e30]
  exact ⟨rfl, N0, rfl⟩
theorem d10_0 : decode prog_4_method_3_code 0 = .ok (.aload_n 0, 1) := by decide +kernel
theorem d10_1 : decode prog_4_method_3_code 1 = .ok (.getfield 22, 3) := by decide +kernel
theorem d10_4 : decode prog_4_method_3_code 4 = .ok (.aload_n 0, 1) := by decide +kernel
theorem d10_5 : decode prog_4_method_3_code 5 = .ok (.getfield 27, 3) := by decide +kernel
theorem d10_8 : decode prog_4_method_3_code 8 = .ok (.dadd, 1) := by decide +kernel
theorem d10_9 : decode prog_4_method_3_code 9 = .ok (.dreturn, 1) := by decide +kernel
theorem ef_rmE (m : MethodId) (a1 : Addr) : entryFrame m #[(.ref a1)] 1 = mkF m 0 #[.val (.ref a1)] [] := by first | (simp [entryFrame, mkF, argsToLocals, Value.category]; done) | rfl
set_option maxRecDepth 65536 in
set_option maxHeartbeats 40000000 in
theorem rmE (l : Launch) (Z : State) (a0 : Array Value) (hw : ∀ d ∈ tables_1, d.before a0 Z = true) (ws : List Jvm.Cond) (a1 : Addr) (a : Int64) (b : Int64) (h0 : Heap) (n0 : Nat) (Z0 : n0 ≤ h0.size) (F1 : Fld Z h0 a1 "com/example/citadel_hill/citadelhill/cell/CurrentPulse" "delay" "D" (.double (FP.l2d a))) (F2 : Fld Z h0 a1 "com/example/citadel_hill/citadelhill/cell/CurrentPulse" "duration" "D" (.double (FP.l2d b))) (ba : B53 a) (bb : B53 b) :
    MetFree l (⟨"com/example/citadel_hill/citadelhill/cell/CurrentPulse", "end", "()D"⟩ : MethodName) (head1 (Jvm.Cond.code (⟨"com/example/citadel_hill/citadelhill/cell/CurrentPulse", "end", "()D"⟩ : MethodName) prog_4_method_3_code 1 (some .double) :: ws) ({ frames := 0, cells := 0, slots := 0, locals := 0 } : Room)) (fun a U => a = #[(.ref a1)] ∧ Z.Warmed39 U.vm ∧ U.heap = h0) (fun _ _ _ _ _ => True) (fun _ U o U' => ∃ vr Lr, o = .returned vr ∧ QD (FP.l2d (a + b)) h0 n0 vr U'.heap Lr ∧ FrameEnd U o U' Lr 0 0) := by
  refine MetFree.of_bodySF (plainFor_of_name own_pn2) hisR ?_
  intro p e s m args below meth c s₁ Bd hml0 hP hK
  obtain ⟨rfl, hZ, hh⟩ := hP
  have hx := Bd.exec
  have hby := Bd.bytes
  have hml : c.maxLocals = 1 := hml0
  have hown : s.vm.findClass "com/example/citadel_hill/citadelhill/cell/CurrentPulse" = some m.cls := findClass_of_methodNamed Bd.named
  have hnm := (name_of_methodNamed Bd.named Bd.method).1
  have hlk : meth.locks = false := Bd.notSynchronized
  have hrt := Bd.returns
  have X0 : Stand p l e ({ frames := 0, cells := 0, slots := 0, locals := 0 } : Room) s m #[(.ref a1)] below meth c s₁ [] 0 0 := Stand.of_body Bd
  have e0 : s₁.heap = h0 := by rw [← hh, Bd.state]; rfl
  have N0 := Fr.nil n0
  show Done p e s below 0 0 (QD (FP.l2d (a + b)) h0 n0) s₁ (entryFrame m #[(.ref a1)] 1)
  rw [ef_rmE]
  show Done p e s below _ _ _ s₁ (mkF m 0 #[.val (.ref a1)] [])
  refine Done.go (fun _ kt_ => XS.aloadN X0.here hx rfl (hb hby d10_0) rfl rfl kt_) ?_
  show Done p e s below _ _ _ s₁ (mkF m 1 #[.val (.ref a1)] [(.ref a1)])
  obtain ⟨T31, X31, e31, st31⟩ := getF X0 hx hZ hown (host := "") (Or.inl (hw _ (List.mem_of_getElem? (i := 41) rfl))) Via.refl e0 F1 (g := (mkF m 1 #[.val (.ref a1)] [(.ref a1)])) rfl rfl (hb hby d10_1)
  refine Done.go st31 ?_
  clear st31
  show Done p e s below _ _ _ T31 (mkF m 4 #[.val (.ref a1)] [(.double (FP.l2d a))])
  refine Done.go (fun _ kt_ => XS.aloadN X31.here hx rfl (hb hby d10_4) rfl rfl kt_) ?_
  show Done p e s below _ _ _ T31 (mkF m 5 #[.val (.ref a1)] [(.ref a1), (.double (FP.l2d a))])
  obtain ⟨T32, X32, e32, st32⟩ := getF X31 hx hZ hown (host := "") (Or.inl (hw _ (List.mem_of_getElem? (i := 43) rfl))) Via.refl e31 F2 (g := (mkF m 5 #[.val (.ref a1)] [(.ref a1), (.double (FP.l2d a))])) rfl rfl (hb hby d10_5)
  refine Done.go st32 ?_
  clear st32 X31 e31
  show Done p e s below _ _ _ T32 (mkF m 8 #[.val (.ref a1)] [(.double (FP.l2d b)), (.double (FP.l2d a))])
  refine Done.go (fun _ kt_ => XS.daddS X32.here hx rfl (hb hby d10_8) rfl (nn_w (dadd_w ba bb)) (dadd_w ba bb) kt_) ?_
  show Done p e s below _ _ _ T32 (mkF m 9 #[.val (.ref a1)] [(.double (FP.l2d (a + b)))])
  refine Done.retD X32 hx hlk hrt (hb hby d10_9) ?_ (by first | decide | omega) (by first | decide | omega)
  rw [e32]
  exact ⟨rfl, N0, rfl⟩
def QC (a e c : Int64) (it : Int) (h0 : Heap) (n0 : Nat) (v : Option Value) (h : Heap) (L : List Loc) : Prop := ∃ x : UInt64, v = some (.double x) ∧ Fr n0 L ∧ h = h0 ∧ ((x = FP.l2d c ∧ 2 * a.toInt ≤ it ∧ it < 2 * e.toInt) ∨ (x = FP.l2d 0 ∧ ¬ (2 * a.toInt ≤ it ∧ it < 2 * e.toInt)))
theorem d8_0 : decode prog_4_method_4_code 0 = .ok (.aload_n 0, 1) := by decide +kernel
theorem d8_1 : decode prog_4_method_4_code 1 = .ok (.invokevirtual 31, 3) := by decide +kernel
theorem d8_4 : decode prog_4_method_4_code 4 = .ok (.dload_n 1, 1) := by decide +kernel
theorem d8_5 : decode prog_4_method_4_code 5 = .ok (.dcmp .g, 1) := by decide +kernel
theorem d8_6 : decode prog_4_method_4_code 6 = .ok (.ifCond .gt 19, 3) := by decide +kernel
theorem d8_9 : decode prog_4_method_4_code 9 = .ok (.dload_n 1, 1) := by decide +kernel
theorem d8_10 : decode prog_4_method_4_code 10 = .ok (.aload_n 0, 1) := by decide +kernel
theorem d8_11 : decode prog_4_method_4_code 11 = .ok (.invokevirtual 35, 3) := by decide +kernel
theorem d8_14 : decode prog_4_method_4_code 14 = .ok (.dcmp .g, 1) := by decide +kernel
theorem d8_15 : decode prog_4_method_4_code 15 = .ok (.ifCond .ge 10, 3) := by decide +kernel
theorem d8_18 : decode prog_4_method_4_code 18 = .ok (.aload_n 0, 1) := by decide +kernel
theorem d8_19 : decode prog_4_method_4_code 19 = .ok (.getfield 29, 3) := by decide +kernel
theorem d8_22 : decode prog_4_method_4_code 22 = .ok (.goto 4, 3) := by decide +kernel
theorem d8_25 : decode prog_4_method_4_code 25 = .ok (.dconst 0, 1) := by decide +kernel
theorem d8_26 : decode prog_4_method_4_code 26 = .ok (.dreturn, 1) := by decide +kernel
theorem ef_rmC (m : MethodId) (a1 : Addr) (t1 : UInt64) : entryFrame m #[(.ref a1), (.double t1)] 3 = mkF m 0 #[.val (.ref a1), .val (.double t1), .second] [] := by first | (simp [entryFrame, mkF, argsToLocals, Value.category]; done) | rfl
set_option maxRecDepth 65536 in
set_option maxHeartbeats 40000000 in
theorem rmC (l : Launch) (Z : State) (a0 : Array Value) (hw : ∀ d ∈ tables_1, d.before a0 Z = true) (ws : List Jvm.Cond) (a1 : Addr) (t1 : UInt64) (a : Int64) (b : Int64) (cw : Int64) (it : Int) (h0 : Heap) (n0 : Nat) (Z0 : n0 ≤ h0.size) (E1 : Exa Z h0 a1 "com/example/citadel_hill/citadelhill/cell/CurrentPulse") (F0 : Fld Z h0 a1 "com/example/citadel_hill/citadelhill/cell/CurrentPulse" "delay" "D" (.double (FP.l2d a))) (F1 : Fld Z h0 a1 "com/example/citadel_hill/citadelhill/cell/CurrentPulse" "duration" "D" (.double (FP.l2d b))) (F2 : Fld Z h0 a1 "com/example/citadel_hill/citadelhill/cell/CurrentPulse" "amplitude" "D" (.double (FP.l2d cw))) (ba : B53 a) (bb : B53 b) (bab : B53 (a + b)) (hz : ZV t1 it) :
    MetFree l (⟨"com/example/citadel_hill/citadelhill/cell/CurrentPulse", "current", "(D)D"⟩ : MethodName) (head1 (Jvm.Cond.code (⟨"com/example/citadel_hill/citadelhill/cell/CurrentPulse", "current", "(D)D"⟩ : MethodName) prog_4_method_4_code 3 (some .double) :: ws) ({ frames := 1, cells := 0, slots := 0, locals := 20 } : Room)) (fun a U => a = #[(.ref a1), (.double t1)] ∧ Z.Warmed39 U.vm ∧ U.heap = h0) (fun _ _ _ _ _ => True) (fun _ U o U' => ∃ vr Lr, o = .returned vr ∧ QC a (a + b) cw it h0 n0 vr U'.heap Lr ∧ FrameEnd U o U' Lr 0 0) := by
  refine MetFree.of_bodySF (plainFor_of_name own_pn2) hisR ?_
  intro p e s m args below meth c s₁ Bd hml0 hP hK
  obtain ⟨rfl, hZ, hh⟩ := hP
  have hx := Bd.exec
  have hby := Bd.bytes
  have hml : c.maxLocals = 3 := hml0
  have hown : s.vm.findClass "com/example/citadel_hill/citadelhill/cell/CurrentPulse" = some m.cls := findClass_of_methodNamed Bd.named
  have hnm := (name_of_methodNamed Bd.named Bd.method).1
  have hlk : meth.locks = false := Bd.notSynchronized
  have hrt := Bd.returns
  have X0 : Stand p l e ({ frames := 1, cells := 0, slots := 0, locals := 20 } : Room) s m #[(.ref a1), (.double t1)] below meth c s₁ [] 0 0 := Stand.of_body Bd
  have e0 : s₁.heap = h0 := by rw [← hh, Bd.state]; rfl
  have N0 := Fr.nil n0
  show Done p e s below 0 0 (QC a (a + b) cw it h0 n0) s₁ (entryFrame m #[(.ref a1), (.double t1)] 3)
  rw [ef_rmC]
  show Done p e s below _ _ _ s₁ (mkF m 0 #[.val (.ref a1), .val (.double t1), .second] [])
  refine Done.go (fun _ kt_ => XS.aloadN X0.here hx rfl (hb hby d8_0) rfl rfl kt_) ?_
  show Done p e s below _ _ _ s₁ (mkF m 1 #[.val (.ref a1), .val (.double t1), .second] [(.ref a1)])
  obtain ⟨cq33, kq33, q33a, q33b, q33c⟩ := isOf hZ e0 E1
  obtain ⟨v33, T33, Lc33, X33, hQ33, st33⟩ := own_backV (X0.virtualBack hx (y := (⟨"com/example/citadel_hill/citadelhill/cell/CurrentPulse", "start", "()D"⟩ : MethodName)) (z := (⟨"com/example/citadel_hill/citadelhill/cell/CurrentPulse", "start", "()D"⟩ : MethodName)) hown (mvT hZ (hw _ (List.mem_of_getElem? (i := 52) rfl))) (mvT hZ (hw _ (List.mem_of_getElem? (i := 53) rfl))) (notFace_of_selects (args := #[]) (mvT hZ (hw _ (List.mem_of_getElem? (i := 55) rfl)))) (mvT hZ (hw _ (List.mem_of_getElem? (i := 55) rfl))) (mvT hZ (hw _ (List.mem_of_getElem? (i := 54) rfl))) (by decide) (backOf (W := 0)  (rmS l Z a0 hw [] a1 (FP.l2d a) h0 n0 Z0 F0) hZ (hw _ (List.mem_of_getElem? (i := 56) rfl)) (hw _ (List.mem_of_getElem? (i := 3) rfl)) (by decide) (by decide)) q33a q33c (g := (mkF m 1 #[.val (.ref a1), .val (.double t1), .second] [(.ref a1)])) rfl (by rw [hml]; rfl) (Steps.refl _) (argsL := []) (rest := []) (lenOf own_pd4 rfl) rfl (by show 2 * 0 + _ ≤ _; exact Nat.le_of_eq rfl) (hb hby d8_1) (fun _ _ => ⟨rfl, e0, (by first | decide | omega : 0 + 0 ≤ _), (by first | decide | omega : 0 + 0 ≤ _)⟩))
  obtain ⟨rfl, N33q, e33⟩ := hQ33
  refine Done.go st33 ?_
  clear st33
  have N33 := Fr.app N0 N33q
  clear N33q
  obtain ⟨Lh33, X33h, N33h⟩ : ∃ L, Stand p l e ({ frames := 1, cells := 0, slots := 0, locals := 20 } : Room) s m #[(.ref a1), (.double t1)] below meth c T33 L 0 0 ∧ Fr n0 L := ⟨_, X33, N33⟩
  clear X33 N33
  show Done p e s below _ _ _ T33 (mkF m 4 #[.val (.ref a1), .val (.double t1), .second] [(.double (FP.l2d a))])
  refine Done.go (fun _ kt_ => XS.dloadN X33h.here hx rfl (hb hby d8_4) rfl kt_) ?_
  show Done p e s below _ _ _ T33 (mkF m 5 #[.val (.ref a1), .val (.double t1), .second] [(.double t1), (.double (FP.l2d a))])
  refine Done.go (fun _ kt_ => XS.dcmpS X33h.here hx rfl (hb hby d8_5) rfl (by rw [own_dcmp (own_whole ba) hz]) kt_) ?_
  show Done p e s below _ _ _ T33 (mkF m 6 #[.val (.ref a1), .val (.double t1), .second] [(.int (cmpValue (some (compare (2 * a.toInt : Int) (it : Int))) .g))])
  by_cases hc6 : (0 : Int32) < (cmpValue (some (compare (2 * a.toInt : Int) (it : Int))) .g)
  · skip
    refine Done.go (fun _ kt_ => XS.ifYes X33h.here hx rfl (pc0 := 6) (pc' := 25) rfl (hb hby d8_6) rfl ((if0 _ _).trans (tlt hc6).2.2.1) (by decide) (by decide) kt_) ?_
    show Done p e s below _ _ _ T33 (mkF m 25 #[.val (.ref a1), .val (.double t1), .second] [])
    refine Done.go (fun _ kt_ => XS.dconst0 X33h.here hx rfl (hb hby d8_25) own_d0 kt_) ?_
    show Done p e s below _ _ _ T33 (mkF m 26 #[.val (.ref a1), .val (.double t1), .second] [(.double (FP.l2d (0 : Int64)))])
    refine Done.retD X33h hx hlk hrt (hb hby d8_26) ?_ (by first | decide | omega) (by first | decide | omega)
    rw [e33]
    exact ⟨_, rfl, N33h, rfl, Or.inr ⟨rfl, fun q => by have := (own_cg _ _).1.mp hc6; omega⟩⟩
  · skip
    refine Done.go (fun _ kt_ => XS.ifNo X33h.here hx rfl (hb hby d8_6) rfl ((if0 _ _).trans (flt hc6).2.2.1) kt_) ?_
    show Done p e s below _ _ _ T33 (mkF m 9 #[.val (.ref a1), .val (.double t1), .second] [])
    refine Done.go (fun _ kt_ => XS.dloadN X33h.here hx rfl (hb hby d8_9) rfl kt_) ?_
    show Done p e s below _ _ _ T33 (mkF m 10 #[.val (.ref a1), .val (.double t1), .second] [(.double t1)])
    refine Done.go (fun _ kt_ => XS.aloadN X33h.here hx rfl (hb hby d8_10) rfl rfl kt_) ?_
    show Done p e s below _ _ _ T33 (mkF m 11 #[.val (.ref a1), .val (.double t1), .second] [(.ref a1), (.double t1)])
    obtain ⟨cq34, kq34, q34a, q34b, q34c⟩ := isOf hZ e33 E1
    obtain ⟨v34, T34, Lc34, X34, hQ34, st34⟩ := own_backV (X33h.virtualBack hx (y := (⟨"com/example/citadel_hill/citadelhill/cell/CurrentPulse", "end", "()D"⟩ : MethodName)) (z := (⟨"com/example/citadel_hill/citadelhill/cell/CurrentPulse", "end", "()D"⟩ : MethodName)) hown (mvT hZ (hw _ (List.mem_of_getElem? (i := 57) rfl))) (mvT hZ (hw _ (List.mem_of_getElem? (i := 58) rfl))) (notFace_of_selects (args := #[]) (mvT hZ (hw _ (List.mem_of_getElem? (i := 60) rfl)))) (mvT hZ (hw _ (List.mem_of_getElem? (i := 60) rfl))) (mvT hZ (hw _ (List.mem_of_getElem? (i := 59) rfl))) (by decide) (backOf (W := 2)  (rmE l Z a0 hw [] a1 a b h0 n0 Z0 F0 F1 ba bb) hZ (hw _ (List.mem_of_getElem? (i := 61) rfl)) (hw _ (List.mem_of_getElem? (i := 3) rfl)) (by decide) (by decide)) q34a q34c (g := (mkF m 11 #[.val (.ref a1), .val (.double t1), .second] [(.ref a1), (.double t1)])) rfl (by rw [hml]; rfl) (Steps.refl _) (argsL := []) (rest := [(.double t1)]) (lenOf own_pd4 rfl) rfl (by show 2 * 0 + _ ≤ _; exact Nat.le_of_eq rfl) (hb hby d8_11) (fun _ _ => ⟨rfl, e33, (by first | decide | omega : 0 + 0 ≤ _), (by first | decide | omega : 0 + 0 ≤ _)⟩))
    obtain ⟨rfl, N34q, e34⟩ := hQ34
    refine Done.go st34 ?_
    clear st34
    have N34 := Fr.app N33h N34q
    clear N34q
    obtain ⟨Lh34, X34h, N34h⟩ : ∃ L, Stand p l e ({ frames := 1, cells := 0, slots := 0, locals := 20 } : Room) s m #[(.ref a1), (.double t1)] below meth c T34 L 0 0 ∧ Fr n0 L := ⟨_, X34, N34⟩
    clear X34 N34 X33h e33 N33h
    show Done p e s below _ _ _ T34 (mkF m 14 #[.val (.ref a1), .val (.double t1), .second] [(.double (FP.l2d (a + b))), (.double t1)])
    refine Done.go (fun _ kt_ => XS.dcmpS X34h.here hx rfl (hb hby d8_14) rfl (by rw [own_dcmp hz (own_whole bab)]) kt_) ?_
    show Done p e s below _ _ _ T34 (mkF m 15 #[.val (.ref a1), .val (.double t1), .second] [(.int (cmpValue (some (compare (it : Int) (2 * (a + b).toInt : Int))) .g))])
    by_cases hc15 : (cmpValue (some (compare (it : Int) (2 * (a + b).toInt : Int))) .g) < (0 : Int32)
    · skip
      refine Done.go (fun _ kt_ => XS.ifNo X34h.here hx rfl (hb hby d8_15) rfl ((if0 _ _).trans (tlt hc15).2.1) kt_) ?_
      show Done p e s below _ _ _ T34 (mkF m 18 #[.val (.ref a1), .val (.double t1), .second] [])
      refine Done.go (fun _ kt_ => XS.aloadN X34h.here hx rfl (hb hby d8_18) rfl rfl kt_) ?_
      show Done p e s below _ _ _ T34 (mkF m 19 #[.val (.ref a1), .val (.double t1), .second] [(.ref a1)])
      obtain ⟨T35, X35, e35, st35⟩ := getF X34h hx hZ hown (host := "") (Or.inl (hw _ (List.mem_of_getElem? (i := 45) rfl))) Via.refl e34 F2 (g := (mkF m 19 #[.val (.ref a1), .val (.double t1), .second] [(.ref a1)])) rfl rfl (hb hby d8_19)
      refine Done.go st35 ?_
      clear st35 X34h e34
      show Done p e s below _ _ _ T35 (mkF m 22 #[.val (.ref a1), .val (.double t1), .second] [(.double (FP.l2d cw))])
      refine Done.go (fun _ kt_ => XS.goto X35.here hx rfl (pc0 := 22) (pc' := 26) rfl (hb hby d8_22) (by decide) (by decide) kt_) ?_
      show Done p e s below _ _ _ T35 (mkF m 26 #[.val (.ref a1), .val (.double t1), .second] [(.double (FP.l2d cw))])
      refine Done.retD X35 hx hlk hrt (hb hby d8_26) ?_ (by first | decide | omega) (by first | decide | omega)
      rw [e35]
      exact ⟨_, rfl, N34h, rfl, Or.inl ⟨rfl, Int.not_lt.mp (fun q => hc6 ((own_cg _ _).1.mpr q)), (own_cg _ _).2.mp hc15⟩⟩
    · skip
      refine Done.go (fun _ kt_ => XS.ifYes X34h.here hx rfl (pc0 := 15) (pc' := 25) rfl (hb hby d8_15) rfl ((if0 _ _).trans (flt hc15).2.1) (by decide) (by decide) kt_) ?_
      show Done p e s below _ _ _ T34 (mkF m 25 #[.val (.ref a1), .val (.double t1), .second] [])
      refine Done.go (fun _ kt_ => XS.dconst0 X34h.here hx rfl (hb hby d8_25) own_d0 kt_) ?_
      show Done p e s below _ _ _ T34 (mkF m 26 #[.val (.ref a1), .val (.double t1), .second] [(.double (FP.l2d (0 : Int64)))])
      refine Done.retD X34h hx hlk hrt (hb hby d8_26) ?_ (by first | decide | omega) (by first | decide | omega)
      rw [e34]
      exact ⟨_, rfl, N34h, rfl, Or.inr ⟨rfl, fun q => hc15 ((own_cg _ _).2.mpr q.2)⟩⟩
def Q0 (n0 : Nat) (v : Option Value) (h : Heap) (L : List Loc) : Prop := v = some (.int 1) ∧ Fr n0 L
theorem own_pn3 : plainName "com/example/citadel_hill/citadelhill/cell/CurrentPulseCurrentPinLaw" = true := by first | (simp [plainName, overriddenIn]; done) | decide +kernel
theorem ef_rm0 (m : MethodId) (p0 : Int32) (p1 : Int32) (p2 : Int32) (p3 : Int32) (p4 : Int32) : entryFrame m #[(.int p0), (.int p1), (.int p2), (.int p3), (.int p4)] maxLocals = mkF m 0 #[.val (.int p0), .val (.int p1), .val (.int p2), .val (.int p3), .val (.int p4), .unset, .unset, .unset, .unset, .unset, .unset, .unset, .unset, .unset, .unset, .unset, .unset, .unset, .unset, .unset, .unset] [] := by first | (simp [entryFrame, mkF, argsToLocals, Value.category, maxLocals]; done) | rfl
set_option maxRecDepth 65536 in
set_option maxHeartbeats 40000000 in
theorem rm0 (l : Launch) (Z : State) (a0 : Array Value) (hw : ∀ d ∈ tables_1, d.before a0 Z = true) (ws : List Jvm.Cond) (p0 : Int32) (p1 : Int32) (p2 : Int32) (p3 : Int32) (p4 : Int32) (h0 : Heap) (n0 : Nat) (Z0 : n0 ≤ h0.size) :
    MetFree l x (head1 (Jvm.Cond.code x code maxLocals ret :: ws) room_1) (fun a U => a = #[(.int p0), (.int p1), (.int p2), (.int p3), (.int p4)] ∧ Z.Warmed39 U.vm ∧ U.heap = h0) (fun _ _ _ _ _ => True) (fun _ U o U' => ∃ vr Lr, o = .returned vr ∧ Q0 n0 vr U'.heap Lr ∧ ReturnedEndW U o U' Lr 24 5248) := by
  refine MetFree.of_bodySF (plainFor_of_name own_pn3) hisR ?_
  intro p e s m args below meth c s₁ Bd hml0 hP hK
  obtain ⟨rfl, hZ, hh⟩ := hP
  have hx := Bd.exec
  have hby := Bd.bytes
  have hml : c.maxLocals = 21 := hml0
  have hown : s.vm.findClass "com/example/citadel_hill/citadelhill/cell/CurrentPulseCurrentPinLaw" = some m.cls := findClass_of_methodNamed Bd.named
  have hnm := (name_of_methodNamed Bd.named Bd.method).1
  have hlk : meth.locks = false := Bd.notSynchronized
  have hrt := Bd.returns
  have X0 : Stand p l e room_1 s m #[(.int p0), (.int p1), (.int p2), (.int p3), (.int p4)] below meth c s₁ [] 0 0 := Stand.of_body Bd
  have e0 : s₁.heap = h0 := by rw [← hh, Bd.state]; rfl
  have N0 := Fr.nil n0
  have hS0 : Sn s s s.heap.size := Sn.start s _
  have HK0 : s.heap.size ≤ h0.size := by rw [hh]; exact Nat.le_refl _
  show DoneW p e s below 24 5248 (Q0 n0) s₁ (entryFrame m #[(.int p0), (.int p1), (.int p2), (.int p3), (.int p4)] maxLocals)
  rw [ef_rm0]
  show DoneW p e s below _ _ _ s₁ (mkF m 0 #[.val (.int p0), .val (.int p1), .val (.int p2), .val (.int p3), .val (.int p4), .unset, .unset, .unset, .unset, .unset, .unset, .unset, .unset, .unset, .unset, .unset, .unset, .unset, .unset, .unset, .unset] [])
  refine DoneW.go (fun _ kt_ => XS.iloadN X0.here hx rfl (hb hby at_0) rfl kt_) ?_
  show DoneW p e s below _ _ _ s₁ (mkF m 1 #[.val (.int p0), .val (.int p1), .val (.int p2), .val (.int p3), .val (.int p4), .unset, .unset, .unset, .unset, .unset, .unset, .unset, .unset, .unset, .unset, .unset, .unset, .unset, .unset, .unset, .unset] [(.int p1)])
  refine DoneW.go (fun t_ kt_ => X0.ldcInt hx hown (mvT hZ (hw _ (List.mem_of_getElem? (i := 0) rfl))) (g := (mkF m 1 #[.val (.int p0), .val (.int p1), .val (.int p2), .val (.int p3), .val (.int p4), .unset, .unset, .unset, .unset, .unset, .unset, .unset, .unset, .unset, .unset, .unset, .unset, .unset, .unset, .unset, .unset] [(.int p1)])) rfl (hb hby at_1) t_ kt_) ?_
  show DoneW p e s below _ _ _ s₁ (mkF m 3 #[.val (.int p0), .val (.int p1), .val (.int p2), .val (.int p3), .val (.int p4), .unset, .unset, .unset, .unset, .unset, .unset, .unset, .unset, .unset, .unset, .unset, .unset, .unset, .unset, .unset, .unset] [(.int (2147483647 : Int32)), (.int p1)])
  refine DoneW.go (fun _ kt_ => XS.iand X0.here hx rfl (hb hby at_3) rfl kt_) ?_
  show DoneW p e s below _ _ _ s₁ (mkF m 4 #[.val (.int p0), .val (.int p1), .val (.int p2), .val (.int p3), .val (.int p4), .unset, .unset, .unset, .unset, .unset, .unset, .unset, .unset, .unset, .unset, .unset, .unset, .unset, .unset, .unset, .unset] [(.int (p1 &&& (2147483647 : Int32)))])
  refine DoneW.go (fun _ kt_ => XS.istore X0.here hx rfl (hb hby at_4) rfl (l' := #[.val (.int p0), .val (.int p1), .val (.int p2), .val (.int p3), .val (.int p4), .val (.int (p1 &&& (2147483647 : Int32))), .unset, .unset, .unset, .unset, .unset, .unset, .unset, .unset, .unset, .unset, .unset, .unset, .unset, .unset, .unset]) rfl kt_) ?_
  show DoneW p e s below _ _ _ s₁ (mkF m 6 #[.val (.int p0), .val (.int p1), .val (.int p2), .val (.int p3), .val (.int p4), .val (.int (p1 &&& (2147483647 : Int32))), .unset, .unset, .unset, .unset, .unset, .unset, .unset, .unset, .unset, .unset, .unset, .unset, .unset, .unset, .unset] [])
  refine DoneW.go (fun _ kt_ => XS.iload X0.here hx rfl (hb hby at_6) rfl kt_) ?_
  show DoneW p e s below _ _ _ s₁ (mkF m 8 #[.val (.int p0), .val (.int p1), .val (.int p2), .val (.int p3), .val (.int p4), .val (.int (p1 &&& (2147483647 : Int32))), .unset, .unset, .unset, .unset, .unset, .unset, .unset, .unset, .unset, .unset, .unset, .unset, .unset, .unset, .unset] [(.int p4)])
  refine DoneW.go (fun _ kt_ => XS.iconst X0.here hx rfl (hb hby at_8) kt_) ?_
  show DoneW p e s below _ _ _ s₁ (mkF m 9 #[.val (.int p0), .val (.int p1), .val (.int p2), .val (.int p3), .val (.int p4), .val (.int (p1 &&& (2147483647 : Int32))), .unset, .unset, .unset, .unset, .unset, .unset, .unset, .unset, .unset, .unset, .unset, .unset, .unset, .unset, .unset] [(.int (1 : Int32)), (.int p4)])
  refine DoneW.go (fun _ kt_ => XS.iand X0.here hx rfl (hb hby at_9) rfl kt_) ?_
  show DoneW p e s below _ _ _ s₁ (mkF m 10 #[.val (.int p0), .val (.int p1), .val (.int p2), .val (.int p3), .val (.int p4), .val (.int (p1 &&& (2147483647 : Int32))), .unset, .unset, .unset, .unset, .unset, .unset, .unset, .unset, .unset, .unset, .unset, .unset, .unset, .unset, .unset] [(.int (p4 &&& (1 : Int32)))])
  refine DoneW.go (fun _ kt_ => XS.istore X0.here hx rfl (hb hby at_10) rfl (l' := #[.val (.int p0), .val (.int p1), .val (.int p2), .val (.int p3), .val (.int p4), .val (.int (p1 &&& (2147483647 : Int32))), .val (.int (p4 &&& (1 : Int32))), .unset, .unset, .unset, .unset, .unset, .unset, .unset, .unset, .unset, .unset, .unset, .unset, .unset, .unset]) rfl kt_) ?_
  show DoneW p e s below _ _ _ s₁ (mkF m 12 #[.val (.int p0), .val (.int p1), .val (.int p2), .val (.int p3), .val (.int p4), .val (.int (p1 &&& (2147483647 : Int32))), .val (.int (p4 &&& (1 : Int32))), .unset, .unset, .unset, .unset, .unset, .unset, .unset, .unset, .unset, .unset, .unset, .unset, .unset, .unset] [])
  obtain ⟨T36, h36, X36, e36, E36, A36, D36, -, st36⟩ := newO X0 hx hZ hown (hw _ (List.mem_of_getElem? (i := 1) rfl)) (hw _ (List.mem_of_getElem? (i := 2) rfl)) (hw _ (List.mem_of_getElem? (i := 3) rfl)) e0 (g := (mkF m 12 #[.val (.int p0), .val (.int p1), .val (.int p2), .val (.int p3), .val (.int p4), .val (.int (p1 &&& (2147483647 : Int32))), .val (.int (p4 &&& (1 : Int32))), .unset, .unset, .unset, .unset, .unset, .unset, .unset, .unset, .unset, .unset, .unset, .unset, .unset, .unset] [])) rfl (hb hby at_12) (by first | decide | omega) (by first | decide | omega)
  obtain ⟨b36, g36⟩ : ∃ z, z = h0.size := ⟨_, rfl⟩
  rw [← g36] at A36 D36 st36
  have gz_b36 : n0 ≤ b36 := Nat.le_trans Z0 (Nat.le_of_eq g36.symm)
  have Z36 : n0 ≤ h36.size := Nat.le_trans Z0 E36.1
  have HK36 := Nat.le_trans HK0 E36.1
  obtain ⟨Lh36, X36h, N36h⟩ : ∃ L, Stand p l e room_1 s m #[(.int p0), (.int p1), (.int p2), (.int p3), (.int p4)] below meth c T36 L 1 3 ∧ Fr n0 L := ⟨_, X36, N0⟩
  clear X36
  have F36_delay : Fld Z h36 b36 "com/example/citadel_hill/citadelhill/cell/CurrentPulse" "delay" "D" (.double (0 : UInt64)) := D36 (Or.inr (hw _ (List.mem_of_getElem? (i := 42) rfl))) (ty := .double) (by decide)
  have F36_duration : Fld Z h36 b36 "com/example/citadel_hill/citadelhill/cell/CurrentPulse" "duration" "D" (.double (0 : UInt64)) := D36 (Or.inr (hw _ (List.mem_of_getElem? (i := 44) rfl))) (ty := .double) (by decide)
  have F36_amplitude : Fld Z h36 b36 "com/example/citadel_hill/citadelhill/cell/CurrentPulse" "amplitude" "D" (.double (0 : UInt64)) := D36 (Or.inr (hw _ (List.mem_of_getElem? (i := 46) rfl))) (ty := .double) (by decide)
  refine DoneW.go st36 ?_
  clear st36
  show DoneW p e s below _ _ _ T36 (mkF m 15 #[.val (.int p0), .val (.int p1), .val (.int p2), .val (.int p3), .val (.int p4), .val (.int (p1 &&& (2147483647 : Int32))), .val (.int (p4 &&& (1 : Int32))), .unset, .unset, .unset, .unset, .unset, .unset, .unset, .unset, .unset, .unset, .unset, .unset, .unset, .unset] [(.ref b36)])
  refine DoneW.go (fun _ kt_ => XS.dup X36h.here hx rfl (hb hby at_15) rfl rfl kt_) ?_
  show DoneW p e s below _ _ _ T36 (mkF m 16 #[.val (.int p0), .val (.int p1), .val (.int p2), .val (.int p3), .val (.int p4), .val (.int (p1 &&& (2147483647 : Int32))), .val (.int (p4 &&& (1 : Int32))), .unset, .unset, .unset, .unset, .unset, .unset, .unset, .unset, .unset, .unset, .unset, .unset, .unset, .unset] [(.ref b36), (.ref b36)])
  refine DoneW.go (fun _ kt_ => XS.iloadN X36h.here hx rfl (hb hby at_16) rfl kt_) ?_
  show DoneW p e s below _ _ _ T36 (mkF m 17 #[.val (.int p0), .val (.int p1), .val (.int p2), .val (.int p3), .val (.int p4), .val (.int (p1 &&& (2147483647 : Int32))), .val (.int (p4 &&& (1 : Int32))), .unset, .unset, .unset, .unset, .unset, .unset, .unset, .unset, .unset, .unset, .unset, .unset, .unset, .unset] [(.int p0), (.ref b36), (.ref b36)])
  refine DoneW.go (fun _ kt_ => XS.i2dS X36h.here hx rfl (hb hby at_17) rfl (i2d_w p0) kt_) ?_
  show DoneW p e s below _ _ _ T36 (mkF m 18 #[.val (.int p0), .val (.int p1), .val (.int p2), .val (.int p3), .val (.int p4), .val (.int (p1 &&& (2147483647 : Int32))), .val (.int (p4 &&& (1 : Int32))), .unset, .unset, .unset, .unset, .unset, .unset, .unset, .unset, .unset, .unset, .unset, .unset, .unset, .unset] [(.double (FP.l2d (p0.toInt64))), (.ref b36), (.ref b36)])
  refine DoneW.go (fun _ kt_ => XS.iload X36h.here hx rfl (hb hby at_18) rfl kt_) ?_
  show DoneW p e s below _ _ _ T36 (mkF m 20 #[.val (.int p0), .val (.int p1), .val (.int p2), .val (.int p3), .val (.int p4), .val (.int (p1 &&& (2147483647 : Int32))), .val (.int (p4 &&& (1 : Int32))), .unset, .unset, .unset, .unset, .unset, .unset, .unset, .unset, .unset, .unset, .unset, .unset, .unset, .unset] [(.int (p1 &&& (2147483647 : Int32))), (.double (FP.l2d (p0.toInt64))), (.ref b36), (.ref b36)])
  refine DoneW.go (fun _ kt_ => XS.i2dS X36h.here hx rfl (hb hby at_20) rfl (i2d_w (p1 &&& (2147483647 : Int32))) kt_) ?_
  show DoneW p e s below _ _ _ T36 (mkF m 21 #[.val (.int p0), .val (.int p1), .val (.int p2), .val (.int p3), .val (.int p4), .val (.int (p1 &&& (2147483647 : Int32))), .val (.int (p4 &&& (1 : Int32))), .unset, .unset, .unset, .unset, .unset, .unset, .unset, .unset, .unset, .unset, .unset, .unset, .unset, .unset] [(.double (FP.l2d ((p1 &&& (2147483647 : Int32)).toInt64))), (.double (FP.l2d (p0.toInt64))), (.ref b36), (.ref b36)])
  refine DoneW.go (fun _ kt_ => XS.iloadN X36h.here hx rfl (hb hby at_21) rfl kt_) ?_
  show DoneW p e s below _ _ _ T36 (mkF m 22 #[.val (.int p0), .val (.int p1), .val (.int p2), .val (.int p3), .val (.int p4), .val (.int (p1 &&& (2147483647 : Int32))), .val (.int (p4 &&& (1 : Int32))), .unset, .unset, .unset, .unset, .unset, .unset, .unset, .unset, .unset, .unset, .unset, .unset, .unset, .unset] [(.int p2), (.double (FP.l2d ((p1 &&& (2147483647 : Int32)).toInt64))), (.double (FP.l2d (p0.toInt64))), (.ref b36), (.ref b36)])
  refine DoneW.go (fun _ kt_ => XS.i2dS X36h.here hx rfl (hb hby at_22) rfl (i2d_w p2) kt_) ?_
  show DoneW p e s below _ _ _ T36 (mkF m 23 #[.val (.int p0), .val (.int p1), .val (.int p2), .val (.int p3), .val (.int p4), .val (.int (p1 &&& (2147483647 : Int32))), .val (.int (p4 &&& (1 : Int32))), .unset, .unset, .unset, .unset, .unset, .unset, .unset, .unset, .unset, .unset, .unset, .unset, .unset, .unset] [(.double (FP.l2d (p2.toInt64))), (.double (FP.l2d ((p1 &&& (2147483647 : Int32)).toInt64))), (.double (FP.l2d (p0.toInt64))), (.ref b36), (.ref b36)])
  obtain ⟨v37, T37, Lc37, bs37, X37, hQ37, hS37, hZ, hown, U37, R37, st37⟩ := own_backWR hZ hown hS0 (by rw [e36]; exact HK36) (X36h.specialBackS hx (y := (⟨"com/example/citadel_hill/citadelhill/cell/CurrentPulse", "<init>", "(DDD)V"⟩ : MethodName)) rfl hown (mvT hZ (hw _ (List.mem_of_getElem? (i := 4) rfl))) (mvT hZ (hw _ (List.mem_of_getElem? (i := 5) rfl))) (mvT hZ (hw _ (List.mem_of_getElem? (i := 6) rfl))) (by decide) (own_backOfSR (W := 1) (rm4 l Z a0 hw [] b36 (FP.l2d (p0.toInt64)) (FP.l2d ((p1 &&& (2147483647 : Int32)).toInt64)) (FP.l2d (p2.toInt64)) h36 n0 Z36 A36 gz_b36 F36_delay F36_duration F36_amplitude (own_nnW _) (own_fiW p0) (own_nnW _) (own_fiW (p1 &&& (2147483647 : Int32))) (own_nnW _) (own_fiW p2) (own_geW p1)) hZ (hw _ (List.mem_of_getElem? (i := 6) rfl)) (hw _ (List.mem_of_getElem? (i := 3) rfl)) (by decide) (by decide) (fun _ _ => trivial)) (g := (mkF m 23 #[.val (.int p0), .val (.int p1), .val (.int p2), .val (.int p3), .val (.int p4), .val (.int (p1 &&& (2147483647 : Int32))), .val (.int (p4 &&& (1 : Int32))), .unset, .unset, .unset, .unset, .unset, .unset, .unset, .unset, .unset, .unset, .unset, .unset, .unset, .unset] [(.double (FP.l2d (p2.toInt64))), (.double (FP.l2d ((p1 &&& (2147483647 : Int32)).toInt64))), (.double (FP.l2d (p0.toInt64))), (.ref b36), (.ref b36)])) rfl (by rw [hml]; rfl) (Steps.refl _) (a := b36) (argsL := [(.double (FP.l2d (p0.toInt64))), (.double (FP.l2d ((p1 &&& (2147483647 : Int32)).toInt64))), (.double (FP.l2d (p2.toInt64)))]) (rest := [(.ref b36)]) (lenOf own_pd5 rfl) rfl (by show 2 * 0 + _ ≤ _; exact Nat.le_of_eq rfl) (hb hby at_23) (fun _ _ => ⟨rfl, e36, (by first | decide | omega : 1 + 10 ≤ _), (by first | decide | omega : 3 + 224 ≤ _)⟩))
  obtain ⟨rfl, N37q, K37k, E37k, F37a, F37b, F37c⟩ := hQ37
  refine DoneW.go st37 ?_
  clear st37
  have N37 := Fr.app N36h N37q
  clear N37q
  have HK37 := Nat.le_refl T37.heap.size
  have Z37 : n0 ≤ T37.heap.size := Nat.le_trans Z36 K37k.1
  obtain ⟨Lh37, X37h, N37h⟩ : ∃ L, Stand p l e room_1 bs37 m #[(.int p0), (.int p1), (.int p2), (.int p3), (.int p4)] below meth c T37 L 11 227 ∧ Fr n0 L := ⟨_, X37, N37⟩
  clear X37 N37 X36h e36 N36h Z36
  show DoneW p e s below _ _ _ T37 (mkF m 26 #[.val (.int p0), .val (.int p1), .val (.int p2), .val (.int p3), .val (.int p4), .val (.int (p1 &&& (2147483647 : Int32))), .val (.int (p4 &&& (1 : Int32))), .unset, .unset, .unset, .unset, .unset, .unset, .unset, .unset, .unset, .unset, .unset, .unset, .unset, .unset] [(.ref b36)])
  refine DoneW.go (fun _ kt_ => XS.astore X37h.here hx rfl (hb hby at_26) rfl rfl (l' := #[.val (.int p0), .val (.int p1), .val (.int p2), .val (.int p3), .val (.int p4), .val (.int (p1 &&& (2147483647 : Int32))), .val (.int (p4 &&& (1 : Int32))), .val (.ref b36), .unset, .unset, .unset, .unset, .unset, .unset, .unset, .unset, .unset, .unset, .unset, .unset, .unset]) rfl kt_) ?_
  show DoneW p e s below _ _ _ T37 (mkF m 28 #[.val (.int p0), .val (.int p1), .val (.int p2), .val (.int p3), .val (.int p4), .val (.int (p1 &&& (2147483647 : Int32))), .val (.int (p4 &&& (1 : Int32))), .val (.ref b36), .unset, .unset, .unset, .unset, .unset, .unset, .unset, .unset, .unset, .unset, .unset, .unset, .unset] [])
  refine DoneW.go (fun _ kt_ => XS.iloadN X37h.here hx rfl (hb hby at_28) rfl kt_) ?_
  show DoneW p e s below _ _ _ T37 (mkF m 29 #[.val (.int p0), .val (.int p1), .val (.int p2), .val (.int p3), .val (.int p4), .val (.int (p1 &&& (2147483647 : Int32))), .val (.int (p4 &&& (1 : Int32))), .val (.ref b36), .unset, .unset, .unset, .unset, .unset, .unset, .unset, .unset, .unset, .unset, .unset, .unset, .unset] [(.int p3)])
  refine DoneW.go (fun _ kt_ => XS.i2dS X37h.here hx rfl (hb hby at_29) rfl (i2d_w p3) kt_) ?_
  show DoneW p e s below _ _ _ T37 (mkF m 30 #[.val (.int p0), .val (.int p1), .val (.int p2), .val (.int p3), .val (.int p4), .val (.int (p1 &&& (2147483647 : Int32))), .val (.int (p4 &&& (1 : Int32))), .val (.ref b36), .unset, .unset, .unset, .unset, .unset, .unset, .unset, .unset, .unset, .unset, .unset, .unset, .unset] [(.double (FP.l2d (p3.toInt64)))])
  refine DoneW.go (fun _ kt_ => XS.iload X37h.here hx rfl (hb hby at_30) rfl kt_) ?_
  show DoneW p e s below _ _ _ T37 (mkF m 32 #[.val (.int p0), .val (.int p1), .val (.int p2), .val (.int p3), .val (.int p4), .val (.int (p1 &&& (2147483647 : Int32))), .val (.int (p4 &&& (1 : Int32))), .val (.ref b36), .unset, .unset, .unset, .unset, .unset, .unset, .unset, .unset, .unset, .unset, .unset, .unset, .unset] [(.int (p4 &&& (1 : Int32))), (.double (FP.l2d (p3.toInt64)))])
  refine DoneW.go (fun _ kt_ => XS.iconst X37h.here hx rfl (hb hby at_32) kt_) ?_
  show DoneW p e s below _ _ _ T37 (mkF m 33 #[.val (.int p0), .val (.int p1), .val (.int p2), .val (.int p3), .val (.int p4), .val (.int (p1 &&& (2147483647 : Int32))), .val (.int (p4 &&& (1 : Int32))), .val (.ref b36), .unset, .unset, .unset, .unset, .unset, .unset, .unset, .unset, .unset, .unset, .unset, .unset, .unset] [(.int (1 : Int32)), (.int (p4 &&& (1 : Int32))), (.double (FP.l2d (p3.toInt64)))])
  by_cases hc33 : (p4 &&& (1 : Int32)) = (1 : Int32)
  · skip
    refine DoneW.go (fun _ kt_ => XS.icmpNo X37h.here hx rfl (hb hby at_33) rfl (teq hc33).2 kt_) ?_
    show DoneW p e s below _ _ _ T37 (mkF m 36 #[.val (.int p0), .val (.int p1), .val (.int p2), .val (.int p3), .val (.int p4), .val (.int (p1 &&& (2147483647 : Int32))), .val (.int (p4 &&& (1 : Int32))), .val (.ref b36), .unset, .unset, .unset, .unset, .unset, .unset, .unset, .unset, .unset, .unset, .unset, .unset, .unset] [(.double (FP.l2d (p3.toInt64)))])
    refine DoneW.go (fun t_ kt_ => X37h.ldc2DoubleC hx hown (mvT hZ (hw _ (List.mem_of_getElem? (i := 63) rfl))) (g := (mkF m 36 #[.val (.int p0), .val (.int p1), .val (.int p2), .val (.int p3), .val (.int p4), .val (.int (p1 &&& (2147483647 : Int32))), .val (.int (p4 &&& (1 : Int32))), .val (.ref b36), .unset, .unset, .unset, .unset, .unset, .unset, .unset, .unset, .unset, .unset, .unset, .unset, .unset] [(.double (FP.l2d (p3.toInt64)))])) rfl (hb hby at_36) t_ kt_) ?_
    show DoneW p e s below _ _ _ T37 (mkF m 39 #[.val (.int p0), .val (.int p1), .val (.int p2), .val (.int p3), .val (.int p4), .val (.int (p1 &&& (2147483647 : Int32))), .val (.int (p4 &&& (1 : Int32))), .val (.ref b36), .unset, .unset, .unset, .unset, .unset, .unset, .unset, .unset, .unset, .unset, .unset, .unset, .unset] [(.double (4602678819172646912 : UInt64)), (.double (FP.l2d (p3.toInt64)))])
    refine DoneW.go (fun _ kt_ => XS.goto X37h.here hx rfl (pc0 := 39) (pc' := 43) rfl (hb hby at_39) (by decide) (by decide) kt_) ?_
    show DoneW p e s below _ _ _ T37 (mkF m 43 #[.val (.int p0), .val (.int p1), .val (.int p2), .val (.int p3), .val (.int p4), .val (.int (p1 &&& (2147483647 : Int32))), .val (.int (p4 &&& (1 : Int32))), .val (.ref b36), .unset, .unset, .unset, .unset, .unset, .unset, .unset, .unset, .unset, .unset, .unset, .unset, .unset] [(.double (4602678819172646912 : UInt64)), (.double (FP.l2d (p3.toInt64)))])
    refine DoneW.go (fun _ kt_ => XS.daddS X37h.here hx rfl (hb hby at_43) rfl (Jvm.Free.Fl.val64_no.mpr (own_tH p3).1) rfl kt_) ?_
    show DoneW p e s below _ _ _ T37 (mkF m 44 #[.val (.int p0), .val (.int p1), .val (.int p2), .val (.int p3), .val (.int p4), .val (.int (p1 &&& (2147483647 : Int32))), .val (.int (p4 &&& (1 : Int32))), .val (.ref b36), .unset, .unset, .unset, .unset, .unset, .unset, .unset, .unset, .unset, .unset, .unset, .unset, .unset] [(.double (FP.dadd (FP.l2d (p3.toInt64)) (4602678819172646912 : UInt64)))])
    refine DoneW.go (fun _ kt_ => XS.dstore X37h.here hx rfl (hb hby at_44) rfl (l' := #[.val (.int p0), .val (.int p1), .val (.int p2), .val (.int p3), .val (.int p4), .val (.int (p1 &&& (2147483647 : Int32))), .val (.int (p4 &&& (1 : Int32))), .val (.ref b36), .val (.double (FP.dadd (FP.l2d (p3.toInt64)) (4602678819172646912 : UInt64))), .second, .unset, .unset, .unset, .unset, .unset, .unset, .unset, .unset, .unset, .unset, .unset]) rfl kt_) ?_
    show DoneW p e s below _ _ _ T37 (mkF m 46 #[.val (.int p0), .val (.int p1), .val (.int p2), .val (.int p3), .val (.int p4), .val (.int (p1 &&& (2147483647 : Int32))), .val (.int (p4 &&& (1 : Int32))), .val (.ref b36), .val (.double (FP.dadd (FP.l2d (p3.toInt64)) (4602678819172646912 : UInt64))), .second, .unset, .unset, .unset, .unset, .unset, .unset, .unset, .unset, .unset, .unset, .unset] [])
    refine DoneW.go (fun _ kt_ => XS.aload X37h.here hx rfl (hb hby at_46) rfl rfl kt_) ?_
    show DoneW p e s below _ _ _ T37 (mkF m 48 #[.val (.int p0), .val (.int p1), .val (.int p2), .val (.int p3), .val (.int p4), .val (.int (p1 &&& (2147483647 : Int32))), .val (.int (p4 &&& (1 : Int32))), .val (.ref b36), .val (.double (FP.dadd (FP.l2d (p3.toInt64)) (4602678819172646912 : UInt64))), .second, .unset, .unset, .unset, .unset, .unset, .unset, .unset, .unset, .unset, .unset, .unset] [(.ref b36)])
    refine DoneW.go (fun _ kt_ => XS.dload X37h.here hx rfl (hb hby at_48) rfl kt_) ?_
    show DoneW p e s below _ _ _ T37 (mkF m 50 #[.val (.int p0), .val (.int p1), .val (.int p2), .val (.int p3), .val (.int p4), .val (.int (p1 &&& (2147483647 : Int32))), .val (.int (p4 &&& (1 : Int32))), .val (.ref b36), .val (.double (FP.dadd (FP.l2d (p3.toInt64)) (4602678819172646912 : UInt64))), .second, .unset, .unset, .unset, .unset, .unset, .unset, .unset, .unset, .unset, .unset, .unset] [(.double (FP.dadd (FP.l2d (p3.toInt64)) (4602678819172646912 : UInt64))), (.ref b36)])
    have q0 := own_i64r p0
    have q1 := own_i64r (p1 &&& (2147483647 : Int32))
    have qd := own_du p1
    have q3 := own_i64r p3
    have eab := own_ad (x := p0.toInt64) (y := (p1 &&& (2147483647 : Int32)).toInt64) (by omega) (by omega) (by omega) (by omega)
    have hk : (p4 &&& (1 : Int32)).toInt64.toInt = 1 := own_h.1 hc33
    have hzt : ZV (FP.dadd (FP.l2d (p3.toInt64)) (4602678819172646912 : UInt64)) (2 * p3.toInt64.toInt + (p4 &&& (1 : Int32)).toInt64.toInt) := by rw [hk]; exact own_tH p3
    obtain ⟨cq38, kq38, q38a, q38b, q38c⟩ := isOf hZ rfl E37k
    obtain ⟨v38, T38, Lc38, X38, hQ38, st38⟩ := own_backV (X37h.virtualBack hx (y := (⟨"com/example/citadel_hill/citadelhill/cell/CurrentPulse", "current", "(D)D"⟩ : MethodName)) (z := (⟨"com/example/citadel_hill/citadelhill/cell/CurrentPulse", "current", "(D)D"⟩ : MethodName)) hown (mvT hZ (hw _ (List.mem_of_getElem? (i := 47) rfl))) (mvT hZ (hw _ (List.mem_of_getElem? (i := 48) rfl))) (notFace_of_selects (args := #[]) (mvT hZ (hw _ (List.mem_of_getElem? (i := 50) rfl)))) (mvT hZ (hw _ (List.mem_of_getElem? (i := 50) rfl))) (mvT hZ (hw _ (List.mem_of_getElem? (i := 49) rfl))) (by decide) (backOf (W := 0)  (rmC l Z a0 hw [] b36 (FP.dadd (FP.l2d (p3.toInt64)) (4602678819172646912 : UInt64)) p0.toInt64 (p1 &&& (2147483647 : Int32)).toInt64 p2.toInt64 (2 * p3.toInt64.toInt + (p4 &&& (1 : Int32)).toInt64.toInt) T37.heap n0 Z37 E37k F37a F37b F37c (own_b53 p0) (own_b53 _) ⟨by omega, by omega⟩ hzt) hZ (hw _ (List.mem_of_getElem? (i := 51) rfl)) (hw _ (List.mem_of_getElem? (i := 3) rfl)) (by decide) (by decide)) q38a q38c (g := (mkF m 50 #[.val (.int p0), .val (.int p1), .val (.int p2), .val (.int p3), .val (.int p4), .val (.int (p1 &&& (2147483647 : Int32))), .val (.int (p4 &&& (1 : Int32))), .val (.ref b36), .val (.double (FP.dadd (FP.l2d (p3.toInt64)) (4602678819172646912 : UInt64))), .second, .unset, .unset, .unset, .unset, .unset, .unset, .unset, .unset, .unset, .unset, .unset] [(.double (FP.dadd (FP.l2d (p3.toInt64)) (4602678819172646912 : UInt64))), (.ref b36)])) rfl (by rw [hml]; rfl) (Steps.refl _) (argsL := [(.double (FP.dadd (FP.l2d (p3.toInt64)) (4602678819172646912 : UInt64)))]) (rest := []) (lenOf own_pd0 rfl) rfl (by show 2 * 0 + _ ≤ _; exact Nat.le_of_eq rfl) (hb hby at_50) (fun _ _ => ⟨rfl, rfl, (by first | decide | omega : 11 + 0 ≤ _), (by first | decide | omega : 227 + 0 ≤ _)⟩))
    obtain ⟨xg, rfl, N38q, e38, Dg⟩ := hQ38
    refine DoneW.go st38 ?_
    clear st38
    have N38 := Fr.app N37h N38q
    clear N38q
    obtain ⟨Lh38, X38h, N38h⟩ : ∃ L, Stand p l e room_1 bs37 m #[(.int p0), (.int p1), (.int p2), (.int p3), (.int p4)] below meth c T38 L 11 227 ∧ Fr n0 L := ⟨_, X38, N38⟩
    clear X38 N38 X37h N37h
    show DoneW p e s below _ _ _ T38 (mkF m 53 #[.val (.int p0), .val (.int p1), .val (.int p2), .val (.int p3), .val (.int p4), .val (.int (p1 &&& (2147483647 : Int32))), .val (.int (p4 &&& (1 : Int32))), .val (.ref b36), .val (.double (FP.dadd (FP.l2d (p3.toInt64)) (4602678819172646912 : UInt64))), .second, .unset, .unset, .unset, .unset, .unset, .unset, .unset, .unset, .unset, .unset, .unset] [(.double xg)])
    refine DoneW.go (fun _ kt_ => XS.dstore X38h.here hx rfl (hb hby at_53) rfl (l' := #[.val (.int p0), .val (.int p1), .val (.int p2), .val (.int p3), .val (.int p4), .val (.int (p1 &&& (2147483647 : Int32))), .val (.int (p4 &&& (1 : Int32))), .val (.ref b36), .val (.double (FP.dadd (FP.l2d (p3.toInt64)) (4602678819172646912 : UInt64))), .second, .val (.double xg), .second, .unset, .unset, .unset, .unset, .unset, .unset, .unset, .unset, .unset]) rfl kt_) ?_
    show DoneW p e s below _ _ _ T38 (mkF m 55 #[.val (.int p0), .val (.int p1), .val (.int p2), .val (.int p3), .val (.int p4), .val (.int (p1 &&& (2147483647 : Int32))), .val (.int (p4 &&& (1 : Int32))), .val (.ref b36), .val (.double (FP.dadd (FP.l2d (p3.toInt64)) (4602678819172646912 : UInt64))), .second, .val (.double xg), .second, .unset, .unset, .unset, .unset, .unset, .unset, .unset, .unset, .unset] [])
    refine DoneW.go (fun t_ kt_ => X38h.ldc2Long hx hown (mvT hZ (hw _ (List.mem_of_getElem? (i := 62) rfl))) (g := (mkF m 55 #[.val (.int p0), .val (.int p1), .val (.int p2), .val (.int p3), .val (.int p4), .val (.int (p1 &&& (2147483647 : Int32))), .val (.int (p4 &&& (1 : Int32))), .val (.ref b36), .val (.double (FP.dadd (FP.l2d (p3.toInt64)) (4602678819172646912 : UInt64))), .second, .val (.double xg), .second, .unset, .unset, .unset, .unset, .unset, .unset, .unset, .unset, .unset] [])) rfl (hb hby at_55) t_ kt_) ?_
    show DoneW p e s below _ _ _ T38 (mkF m 58 #[.val (.int p0), .val (.int p1), .val (.int p2), .val (.int p3), .val (.int p4), .val (.int (p1 &&& (2147483647 : Int32))), .val (.int (p4 &&& (1 : Int32))), .val (.ref b36), .val (.double (FP.dadd (FP.l2d (p3.toInt64)) (4602678819172646912 : UInt64))), .second, .val (.double xg), .second, .unset, .unset, .unset, .unset, .unset, .unset, .unset, .unset, .unset] [(.long (2 : Int64))])
    refine DoneW.go (fun _ kt_ => XS.iloadN X38h.here hx rfl (hb hby at_58) rfl kt_) ?_
    show DoneW p e s below _ _ _ T38 (mkF m 59 #[.val (.int p0), .val (.int p1), .val (.int p2), .val (.int p3), .val (.int p4), .val (.int (p1 &&& (2147483647 : Int32))), .val (.int (p4 &&& (1 : Int32))), .val (.ref b36), .val (.double (FP.dadd (FP.l2d (p3.toInt64)) (4602678819172646912 : UInt64))), .second, .val (.double xg), .second, .unset, .unset, .unset, .unset, .unset, .unset, .unset, .unset, .unset] [(.int p3), (.long (2 : Int64))])
    refine DoneW.go (fun _ kt_ => XS.i2l X38h.here hx rfl (hb hby at_59) rfl kt_) ?_
    show DoneW p e s below _ _ _ T38 (mkF m 60 #[.val (.int p0), .val (.int p1), .val (.int p2), .val (.int p3), .val (.int p4), .val (.int (p1 &&& (2147483647 : Int32))), .val (.int (p4 &&& (1 : Int32))), .val (.ref b36), .val (.double (FP.dadd (FP.l2d (p3.toInt64)) (4602678819172646912 : UInt64))), .second, .val (.double xg), .second, .unset, .unset, .unset, .unset, .unset, .unset, .unset, .unset, .unset] [(.long (p3.toInt64)), (.long (2 : Int64))])
    refine DoneW.go (fun _ kt_ => XS.lmul X38h.here hx rfl (hb hby at_60) rfl kt_) ?_
    show DoneW p e s below _ _ _ T38 (mkF m 61 #[.val (.int p0), .val (.int p1), .val (.int p2), .val (.int p3), .val (.int p4), .val (.int (p1 &&& (2147483647 : Int32))), .val (.int (p4 &&& (1 : Int32))), .val (.ref b36), .val (.double (FP.dadd (FP.l2d (p3.toInt64)) (4602678819172646912 : UInt64))), .second, .val (.double xg), .second, .unset, .unset, .unset, .unset, .unset, .unset, .unset, .unset, .unset] [(.long ((2 : Int64) * (p3.toInt64)))])
    refine DoneW.go (fun _ kt_ => XS.iload X38h.here hx rfl (hb hby at_61) rfl kt_) ?_
    show DoneW p e s below _ _ _ T38 (mkF m 63 #[.val (.int p0), .val (.int p1), .val (.int p2), .val (.int p3), .val (.int p4), .val (.int (p1 &&& (2147483647 : Int32))), .val (.int (p4 &&& (1 : Int32))), .val (.ref b36), .val (.double (FP.dadd (FP.l2d (p3.toInt64)) (4602678819172646912 : UInt64))), .second, .val (.double xg), .second, .unset, .unset, .unset, .unset, .unset, .unset, .unset, .unset, .unset] [(.int (p4 &&& (1 : Int32))), (.long ((2 : Int64) * (p3.toInt64)))])
    refine DoneW.go (fun _ kt_ => XS.i2l X38h.here hx rfl (hb hby at_63) rfl kt_) ?_
    show DoneW p e s below _ _ _ T38 (mkF m 64 #[.val (.int p0), .val (.int p1), .val (.int p2), .val (.int p3), .val (.int p4), .val (.int (p1 &&& (2147483647 : Int32))), .val (.int (p4 &&& (1 : Int32))), .val (.ref b36), .val (.double (FP.dadd (FP.l2d (p3.toInt64)) (4602678819172646912 : UInt64))), .second, .val (.double xg), .second, .unset, .unset, .unset, .unset, .unset, .unset, .unset, .unset, .unset] [(.long ((p4 &&& (1 : Int32)).toInt64)), (.long ((2 : Int64) * (p3.toInt64)))])
    refine DoneW.go (fun _ kt_ => XS.ladd X38h.here hx rfl (hb hby at_64) rfl kt_) ?_
    show DoneW p e s below _ _ _ T38 (mkF m 65 #[.val (.int p0), .val (.int p1), .val (.int p2), .val (.int p3), .val (.int p4), .val (.int (p1 &&& (2147483647 : Int32))), .val (.int (p4 &&& (1 : Int32))), .val (.ref b36), .val (.double (FP.dadd (FP.l2d (p3.toInt64)) (4602678819172646912 : UInt64))), .second, .val (.double xg), .second, .unset, .unset, .unset, .unset, .unset, .unset, .unset, .unset, .unset] [(.long (((2 : Int64) * (p3.toInt64)) + ((p4 &&& (1 : Int32)).toInt64)))])
    refine DoneW.go (fun _ kt_ => XS.lstore X38h.here hx rfl (hb hby at_65) rfl (l' := #[.val (.int p0), .val (.int p1), .val (.int p2), .val (.int p3), .val (.int p4), .val (.int (p1 &&& (2147483647 : Int32))), .val (.int (p4 &&& (1 : Int32))), .val (.ref b36), .val (.double (FP.dadd (FP.l2d (p3.toInt64)) (4602678819172646912 : UInt64))), .second, .val (.double xg), .second, .val (.long (((2 : Int64) * (p3.toInt64)) + ((p4 &&& (1 : Int32)).toInt64))), .second, .unset, .unset, .unset, .unset, .unset, .unset, .unset]) rfl kt_) ?_
    show DoneW p e s below _ _ _ T38 (mkF m 67 #[.val (.int p0), .val (.int p1), .val (.int p2), .val (.int p3), .val (.int p4), .val (.int (p1 &&& (2147483647 : Int32))), .val (.int (p4 &&& (1 : Int32))), .val (.ref b36), .val (.double (FP.dadd (FP.l2d (p3.toInt64)) (4602678819172646912 : UInt64))), .second, .val (.double xg), .second, .val (.long (((2 : Int64) * (p3.toInt64)) + ((p4 &&& (1 : Int32)).toInt64))), .second, .unset, .unset, .unset, .unset, .unset, .unset, .unset] [])
    refine DoneW.go (fun t_ kt_ => X38h.ldc2Long hx hown (mvT hZ (hw _ (List.mem_of_getElem? (i := 62) rfl))) (g := (mkF m 67 #[.val (.int p0), .val (.int p1), .val (.int p2), .val (.int p3), .val (.int p4), .val (.int (p1 &&& (2147483647 : Int32))), .val (.int (p4 &&& (1 : Int32))), .val (.ref b36), .val (.double (FP.dadd (FP.l2d (p3.toInt64)) (4602678819172646912 : UInt64))), .second, .val (.double xg), .second, .val (.long (((2 : Int64) * (p3.toInt64)) + ((p4 &&& (1 : Int32)).toInt64))), .second, .unset, .unset, .unset, .unset, .unset, .unset, .unset] [])) rfl (hb hby at_67) t_ kt_) ?_
    show DoneW p e s below _ _ _ T38 (mkF m 70 #[.val (.int p0), .val (.int p1), .val (.int p2), .val (.int p3), .val (.int p4), .val (.int (p1 &&& (2147483647 : Int32))), .val (.int (p4 &&& (1 : Int32))), .val (.ref b36), .val (.double (FP.dadd (FP.l2d (p3.toInt64)) (4602678819172646912 : UInt64))), .second, .val (.double xg), .second, .val (.long (((2 : Int64) * (p3.toInt64)) + ((p4 &&& (1 : Int32)).toInt64))), .second, .unset, .unset, .unset, .unset, .unset, .unset, .unset] [(.long (2 : Int64))])
    refine DoneW.go (fun _ kt_ => XS.iloadN X38h.here hx rfl (hb hby at_70) rfl kt_) ?_
    show DoneW p e s below _ _ _ T38 (mkF m 71 #[.val (.int p0), .val (.int p1), .val (.int p2), .val (.int p3), .val (.int p4), .val (.int (p1 &&& (2147483647 : Int32))), .val (.int (p4 &&& (1 : Int32))), .val (.ref b36), .val (.double (FP.dadd (FP.l2d (p3.toInt64)) (4602678819172646912 : UInt64))), .second, .val (.double xg), .second, .val (.long (((2 : Int64) * (p3.toInt64)) + ((p4 &&& (1 : Int32)).toInt64))), .second, .unset, .unset, .unset, .unset, .unset, .unset, .unset] [(.int p0), (.long (2 : Int64))])
    refine DoneW.go (fun _ kt_ => XS.i2l X38h.here hx rfl (hb hby at_71) rfl kt_) ?_
    show DoneW p e s below _ _ _ T38 (mkF m 72 #[.val (.int p0), .val (.int p1), .val (.int p2), .val (.int p3), .val (.int p4), .val (.int (p1 &&& (2147483647 : Int32))), .val (.int (p4 &&& (1 : Int32))), .val (.ref b36), .val (.double (FP.dadd (FP.l2d (p3.toInt64)) (4602678819172646912 : UInt64))), .second, .val (.double xg), .second, .val (.long (((2 : Int64) * (p3.toInt64)) + ((p4 &&& (1 : Int32)).toInt64))), .second, .unset, .unset, .unset, .unset, .unset, .unset, .unset] [(.long (p0.toInt64)), (.long (2 : Int64))])
    refine DoneW.go (fun _ kt_ => XS.lmul X38h.here hx rfl (hb hby at_72) rfl kt_) ?_
    show DoneW p e s below _ _ _ T38 (mkF m 73 #[.val (.int p0), .val (.int p1), .val (.int p2), .val (.int p3), .val (.int p4), .val (.int (p1 &&& (2147483647 : Int32))), .val (.int (p4 &&& (1 : Int32))), .val (.ref b36), .val (.double (FP.dadd (FP.l2d (p3.toInt64)) (4602678819172646912 : UInt64))), .second, .val (.double xg), .second, .val (.long (((2 : Int64) * (p3.toInt64)) + ((p4 &&& (1 : Int32)).toInt64))), .second, .unset, .unset, .unset, .unset, .unset, .unset, .unset] [(.long ((2 : Int64) * (p0.toInt64)))])
    refine DoneW.go (fun _ kt_ => XS.lstore X38h.here hx rfl (hb hby at_73) rfl (l' := #[.val (.int p0), .val (.int p1), .val (.int p2), .val (.int p3), .val (.int p4), .val (.int (p1 &&& (2147483647 : Int32))), .val (.int (p4 &&& (1 : Int32))), .val (.ref b36), .val (.double (FP.dadd (FP.l2d (p3.toInt64)) (4602678819172646912 : UInt64))), .second, .val (.double xg), .second, .val (.long (((2 : Int64) * (p3.toInt64)) + ((p4 &&& (1 : Int32)).toInt64))), .second, .val (.long ((2 : Int64) * (p0.toInt64))), .second, .unset, .unset, .unset, .unset, .unset]) rfl kt_) ?_
    show DoneW p e s below _ _ _ T38 (mkF m 75 #[.val (.int p0), .val (.int p1), .val (.int p2), .val (.int p3), .val (.int p4), .val (.int (p1 &&& (2147483647 : Int32))), .val (.int (p4 &&& (1 : Int32))), .val (.ref b36), .val (.double (FP.dadd (FP.l2d (p3.toInt64)) (4602678819172646912 : UInt64))), .second, .val (.double xg), .second, .val (.long (((2 : Int64) * (p3.toInt64)) + ((p4 &&& (1 : Int32)).toInt64))), .second, .val (.long ((2 : Int64) * (p0.toInt64))), .second, .unset, .unset, .unset, .unset, .unset] [])
    refine DoneW.go (fun t_ kt_ => X38h.ldc2Long hx hown (mvT hZ (hw _ (List.mem_of_getElem? (i := 62) rfl))) (g := (mkF m 75 #[.val (.int p0), .val (.int p1), .val (.int p2), .val (.int p3), .val (.int p4), .val (.int (p1 &&& (2147483647 : Int32))), .val (.int (p4 &&& (1 : Int32))), .val (.ref b36), .val (.double (FP.dadd (FP.l2d (p3.toInt64)) (4602678819172646912 : UInt64))), .second, .val (.double xg), .second, .val (.long (((2 : Int64) * (p3.toInt64)) + ((p4 &&& (1 : Int32)).toInt64))), .second, .val (.long ((2 : Int64) * (p0.toInt64))), .second, .unset, .unset, .unset, .unset, .unset] [])) rfl (hb hby at_75) t_ kt_) ?_
    show DoneW p e s below _ _ _ T38 (mkF m 78 #[.val (.int p0), .val (.int p1), .val (.int p2), .val (.int p3), .val (.int p4), .val (.int (p1 &&& (2147483647 : Int32))), .val (.int (p4 &&& (1 : Int32))), .val (.ref b36), .val (.double (FP.dadd (FP.l2d (p3.toInt64)) (4602678819172646912 : UInt64))), .second, .val (.double xg), .second, .val (.long (((2 : Int64) * (p3.toInt64)) + ((p4 &&& (1 : Int32)).toInt64))), .second, .val (.long ((2 : Int64) * (p0.toInt64))), .second, .unset, .unset, .unset, .unset, .unset] [(.long (2 : Int64))])
    refine DoneW.go (fun _ kt_ => XS.iloadN X38h.here hx rfl (hb hby at_78) rfl kt_) ?_
    show DoneW p e s below _ _ _ T38 (mkF m 79 #[.val (.int p0), .val (.int p1), .val (.int p2), .val (.int p3), .val (.int p4), .val (.int (p1 &&& (2147483647 : Int32))), .val (.int (p4 &&& (1 : Int32))), .val (.ref b36), .val (.double (FP.dadd (FP.l2d (p3.toInt64)) (4602678819172646912 : UInt64))), .second, .val (.double xg), .second, .val (.long (((2 : Int64) * (p3.toInt64)) + ((p4 &&& (1 : Int32)).toInt64))), .second, .val (.long ((2 : Int64) * (p0.toInt64))), .second, .unset, .unset, .unset, .unset, .unset] [(.int p0), (.long (2 : Int64))])
    refine DoneW.go (fun _ kt_ => XS.i2l X38h.here hx rfl (hb hby at_79) rfl kt_) ?_
    show DoneW p e s below _ _ _ T38 (mkF m 80 #[.val (.int p0), .val (.int p1), .val (.int p2), .val (.int p3), .val (.int p4), .val (.int (p1 &&& (2147483647 : Int32))), .val (.int (p4 &&& (1 : Int32))), .val (.ref b36), .val (.double (FP.dadd (FP.l2d (p3.toInt64)) (4602678819172646912 : UInt64))), .second, .val (.double xg), .second, .val (.long (((2 : Int64) * (p3.toInt64)) + ((p4 &&& (1 : Int32)).toInt64))), .second, .val (.long ((2 : Int64) * (p0.toInt64))), .second, .unset, .unset, .unset, .unset, .unset] [(.long (p0.toInt64)), (.long (2 : Int64))])
    refine DoneW.go (fun _ kt_ => XS.iload X38h.here hx rfl (hb hby at_80) rfl kt_) ?_
    show DoneW p e s below _ _ _ T38 (mkF m 82 #[.val (.int p0), .val (.int p1), .val (.int p2), .val (.int p3), .val (.int p4), .val (.int (p1 &&& (2147483647 : Int32))), .val (.int (p4 &&& (1 : Int32))), .val (.ref b36), .val (.double (FP.dadd (FP.l2d (p3.toInt64)) (4602678819172646912 : UInt64))), .second, .val (.double xg), .second, .val (.long (((2 : Int64) * (p3.toInt64)) + ((p4 &&& (1 : Int32)).toInt64))), .second, .val (.long ((2 : Int64) * (p0.toInt64))), .second, .unset, .unset, .unset, .unset, .unset] [(.int (p1 &&& (2147483647 : Int32))), (.long (p0.toInt64)), (.long (2 : Int64))])
    refine DoneW.go (fun _ kt_ => XS.i2l X38h.here hx rfl (hb hby at_82) rfl kt_) ?_
    show DoneW p e s below _ _ _ T38 (mkF m 83 #[.val (.int p0), .val (.int p1), .val (.int p2), .val (.int p3), .val (.int p4), .val (.int (p1 &&& (2147483647 : Int32))), .val (.int (p4 &&& (1 : Int32))), .val (.ref b36), .val (.double (FP.dadd (FP.l2d (p3.toInt64)) (4602678819172646912 : UInt64))), .second, .val (.double xg), .second, .val (.long (((2 : Int64) * (p3.toInt64)) + ((p4 &&& (1 : Int32)).toInt64))), .second, .val (.long ((2 : Int64) * (p0.toInt64))), .second, .unset, .unset, .unset, .unset, .unset] [(.long ((p1 &&& (2147483647 : Int32)).toInt64)), (.long (p0.toInt64)), (.long (2 : Int64))])
    refine DoneW.go (fun _ kt_ => XS.ladd X38h.here hx rfl (hb hby at_83) rfl kt_) ?_
    show DoneW p e s below _ _ _ T38 (mkF m 84 #[.val (.int p0), .val (.int p1), .val (.int p2), .val (.int p3), .val (.int p4), .val (.int (p1 &&& (2147483647 : Int32))), .val (.int (p4 &&& (1 : Int32))), .val (.ref b36), .val (.double (FP.dadd (FP.l2d (p3.toInt64)) (4602678819172646912 : UInt64))), .second, .val (.double xg), .second, .val (.long (((2 : Int64) * (p3.toInt64)) + ((p4 &&& (1 : Int32)).toInt64))), .second, .val (.long ((2 : Int64) * (p0.toInt64))), .second, .unset, .unset, .unset, .unset, .unset] [(.long ((p0.toInt64) + ((p1 &&& (2147483647 : Int32)).toInt64))), (.long (2 : Int64))])
    refine DoneW.go (fun _ kt_ => XS.lmul X38h.here hx rfl (hb hby at_84) rfl kt_) ?_
    show DoneW p e s below _ _ _ T38 (mkF m 85 #[.val (.int p0), .val (.int p1), .val (.int p2), .val (.int p3), .val (.int p4), .val (.int (p1 &&& (2147483647 : Int32))), .val (.int (p4 &&& (1 : Int32))), .val (.ref b36), .val (.double (FP.dadd (FP.l2d (p3.toInt64)) (4602678819172646912 : UInt64))), .second, .val (.double xg), .second, .val (.long (((2 : Int64) * (p3.toInt64)) + ((p4 &&& (1 : Int32)).toInt64))), .second, .val (.long ((2 : Int64) * (p0.toInt64))), .second, .unset, .unset, .unset, .unset, .unset] [(.long ((2 : Int64) * ((p0.toInt64) + ((p1 &&& (2147483647 : Int32)).toInt64))))])
    refine DoneW.go (fun _ kt_ => XS.lstore X38h.here hx rfl (hb hby at_85) rfl (l' := #[.val (.int p0), .val (.int p1), .val (.int p2), .val (.int p3), .val (.int p4), .val (.int (p1 &&& (2147483647 : Int32))), .val (.int (p4 &&& (1 : Int32))), .val (.ref b36), .val (.double (FP.dadd (FP.l2d (p3.toInt64)) (4602678819172646912 : UInt64))), .second, .val (.double xg), .second, .val (.long (((2 : Int64) * (p3.toInt64)) + ((p4 &&& (1 : Int32)).toInt64))), .second, .val (.long ((2 : Int64) * (p0.toInt64))), .second, .val (.long ((2 : Int64) * ((p0.toInt64) + ((p1 &&& (2147483647 : Int32)).toInt64)))), .second, .unset, .unset, .unset]) rfl kt_) ?_
    show DoneW p e s below _ _ _ T38 (mkF m 87 #[.val (.int p0), .val (.int p1), .val (.int p2), .val (.int p3), .val (.int p4), .val (.int (p1 &&& (2147483647 : Int32))), .val (.int (p4 &&& (1 : Int32))), .val (.ref b36), .val (.double (FP.dadd (FP.l2d (p3.toInt64)) (4602678819172646912 : UInt64))), .second, .val (.double xg), .second, .val (.long (((2 : Int64) * (p3.toInt64)) + ((p4 &&& (1 : Int32)).toInt64))), .second, .val (.long ((2 : Int64) * (p0.toInt64))), .second, .val (.long ((2 : Int64) * ((p0.toInt64) + ((p1 &&& (2147483647 : Int32)).toInt64)))), .second, .unset, .unset, .unset] [])
    refine DoneW.go (fun _ kt_ => XS.lload X38h.here hx rfl (hb hby at_87) rfl kt_) ?_
    show DoneW p e s below _ _ _ T38 (mkF m 89 #[.val (.int p0), .val (.int p1), .val (.int p2), .val (.int p3), .val (.int p4), .val (.int (p1 &&& (2147483647 : Int32))), .val (.int (p4 &&& (1 : Int32))), .val (.ref b36), .val (.double (FP.dadd (FP.l2d (p3.toInt64)) (4602678819172646912 : UInt64))), .second, .val (.double xg), .second, .val (.long (((2 : Int64) * (p3.toInt64)) + ((p4 &&& (1 : Int32)).toInt64))), .second, .val (.long ((2 : Int64) * (p0.toInt64))), .second, .val (.long ((2 : Int64) * ((p0.toInt64) + ((p1 &&& (2147483647 : Int32)).toInt64)))), .second, .unset, .unset, .unset] [(.long ((2 : Int64) * (p0.toInt64)))])
    refine DoneW.go (fun _ kt_ => XS.lload X38h.here hx rfl (hb hby at_89) rfl kt_) ?_
    show DoneW p e s below _ _ _ T38 (mkF m 91 #[.val (.int p0), .val (.int p1), .val (.int p2), .val (.int p3), .val (.int p4), .val (.int (p1 &&& (2147483647 : Int32))), .val (.int (p4 &&& (1 : Int32))), .val (.ref b36), .val (.double (FP.dadd (FP.l2d (p3.toInt64)) (4602678819172646912 : UInt64))), .second, .val (.double xg), .second, .val (.long (((2 : Int64) * (p3.toInt64)) + ((p4 &&& (1 : Int32)).toInt64))), .second, .val (.long ((2 : Int64) * (p0.toInt64))), .second, .val (.long ((2 : Int64) * ((p0.toInt64) + ((p1 &&& (2147483647 : Int32)).toInt64)))), .second, .unset, .unset, .unset] [(.long (((2 : Int64) * (p3.toInt64)) + ((p4 &&& (1 : Int32)).toInt64))), (.long ((2 : Int64) * (p0.toInt64)))])
    refine DoneW.go (fun _ kt_ => XS.lcmp X38h.here hx rfl (hb hby at_91) rfl kt_) ?_
    show DoneW p e s below _ _ _ T38 (mkF m 92 #[.val (.int p0), .val (.int p1), .val (.int p2), .val (.int p3), .val (.int p4), .val (.int (p1 &&& (2147483647 : Int32))), .val (.int (p4 &&& (1 : Int32))), .val (.ref b36), .val (.double (FP.dadd (FP.l2d (p3.toInt64)) (4602678819172646912 : UInt64))), .second, .val (.double xg), .second, .val (.long (((2 : Int64) * (p3.toInt64)) + ((p4 &&& (1 : Int32)).toInt64))), .second, .val (.long ((2 : Int64) * (p0.toInt64))), .second, .val (.long ((2 : Int64) * ((p0.toInt64) + ((p1 &&& (2147483647 : Int32)).toInt64)))), .second, .unset, .unset, .unset] [(.int (lcmpW ((2 : Int64) * (p0.toInt64)) (((2 : Int64) * (p3.toInt64)) + ((p4 &&& (1 : Int32)).toInt64))))])
    by_cases hc92 : (0 : Int32) < (lcmpW ((2 : Int64) * (p0.toInt64)) (((2 : Int64) * (p3.toInt64)) + ((p4 &&& (1 : Int32)).toInt64)))
    · skip
      refine DoneW.go (fun _ kt_ => XS.ifYes X38h.here hx rfl (pc0 := 92) (pc' := 107) rfl (hb hby at_92) rfl ((if0 _ _).trans (tlt hc92).2.2.1) (by decide) (by decide) kt_) ?_
      show DoneW p e s below _ _ _ T38 (mkF m 107 #[.val (.int p0), .val (.int p1), .val (.int p2), .val (.int p3), .val (.int p4), .val (.int (p1 &&& (2147483647 : Int32))), .val (.int (p4 &&& (1 : Int32))), .val (.ref b36), .val (.double (FP.dadd (FP.l2d (p3.toInt64)) (4602678819172646912 : UInt64))), .second, .val (.double xg), .second, .val (.long (((2 : Int64) * (p3.toInt64)) + ((p4 &&& (1 : Int32)).toInt64))), .second, .val (.long ((2 : Int64) * (p0.toInt64))), .second, .val (.long ((2 : Int64) * ((p0.toInt64) + ((p1 &&& (2147483647 : Int32)).toInt64)))), .second, .unset, .unset, .unset] [])
      refine DoneW.go (fun _ kt_ => XS.iconst X38h.here hx rfl (hb hby at_107) kt_) ?_
      show DoneW p e s below _ _ _ T38 (mkF m 108 #[.val (.int p0), .val (.int p1), .val (.int p2), .val (.int p3), .val (.int p4), .val (.int (p1 &&& (2147483647 : Int32))), .val (.int (p4 &&& (1 : Int32))), .val (.ref b36), .val (.double (FP.dadd (FP.l2d (p3.toInt64)) (4602678819172646912 : UInt64))), .second, .val (.double xg), .second, .val (.long (((2 : Int64) * (p3.toInt64)) + ((p4 &&& (1 : Int32)).toInt64))), .second, .val (.long ((2 : Int64) * (p0.toInt64))), .second, .val (.long ((2 : Int64) * ((p0.toInt64) + ((p1 &&& (2147483647 : Int32)).toInt64)))), .second, .unset, .unset, .unset] [(.int (0 : Int32))])
      refine DoneW.go (fun _ kt_ => XS.istore X38h.here hx rfl (hb hby at_108) rfl (l' := #[.val (.int p0), .val (.int p1), .val (.int p2), .val (.int p3), .val (.int p4), .val (.int (p1 &&& (2147483647 : Int32))), .val (.int (p4 &&& (1 : Int32))), .val (.ref b36), .val (.double (FP.dadd (FP.l2d (p3.toInt64)) (4602678819172646912 : UInt64))), .second, .val (.double xg), .second, .val (.long (((2 : Int64) * (p3.toInt64)) + ((p4 &&& (1 : Int32)).toInt64))), .second, .val (.long ((2 : Int64) * (p0.toInt64))), .second, .val (.long ((2 : Int64) * ((p0.toInt64) + ((p1 &&& (2147483647 : Int32)).toInt64)))), .second, .val (.int (0 : Int32)), .unset, .unset]) rfl kt_) ?_
      show DoneW p e s below _ _ _ T38 (mkF m 110 #[.val (.int p0), .val (.int p1), .val (.int p2), .val (.int p3), .val (.int p4), .val (.int (p1 &&& (2147483647 : Int32))), .val (.int (p4 &&& (1 : Int32))), .val (.ref b36), .val (.double (FP.dadd (FP.l2d (p3.toInt64)) (4602678819172646912 : UInt64))), .second, .val (.double xg), .second, .val (.long (((2 : Int64) * (p3.toInt64)) + ((p4 &&& (1 : Int32)).toInt64))), .second, .val (.long ((2 : Int64) * (p0.toInt64))), .second, .val (.long ((2 : Int64) * ((p0.toInt64) + ((p1 &&& (2147483647 : Int32)).toInt64)))), .second, .val (.int (0 : Int32)), .unset, .unset] [])
      refine DoneW.go (fun _ kt_ => XS.iload X38h.here hx rfl (hb hby at_110) rfl kt_) ?_
      show DoneW p e s below _ _ _ T38 (mkF m 112 #[.val (.int p0), .val (.int p1), .val (.int p2), .val (.int p3), .val (.int p4), .val (.int (p1 &&& (2147483647 : Int32))), .val (.int (p4 &&& (1 : Int32))), .val (.ref b36), .val (.double (FP.dadd (FP.l2d (p3.toInt64)) (4602678819172646912 : UInt64))), .second, .val (.double xg), .second, .val (.long (((2 : Int64) * (p3.toInt64)) + ((p4 &&& (1 : Int32)).toInt64))), .second, .val (.long ((2 : Int64) * (p0.toInt64))), .second, .val (.long ((2 : Int64) * ((p0.toInt64) + ((p1 &&& (2147483647 : Int32)).toInt64)))), .second, .val (.int (0 : Int32)), .unset, .unset] [(.int (0 : Int32))])
      refine DoneW.go (fun _ kt_ => XS.ifYes X38h.here hx rfl (pc0 := 112) (pc' := 120) rfl (hb hby at_112) rfl ((if0 _ _).trans (teq rfl).1) (by decide) (by decide) kt_) ?_
      show DoneW p e s below _ _ _ T38 (mkF m 120 #[.val (.int p0), .val (.int p1), .val (.int p2), .val (.int p3), .val (.int p4), .val (.int (p1 &&& (2147483647 : Int32))), .val (.int (p4 &&& (1 : Int32))), .val (.ref b36), .val (.double (FP.dadd (FP.l2d (p3.toInt64)) (4602678819172646912 : UInt64))), .second, .val (.double xg), .second, .val (.long (((2 : Int64) * (p3.toInt64)) + ((p4 &&& (1 : Int32)).toInt64))), .second, .val (.long ((2 : Int64) * (p0.toInt64))), .second, .val (.long ((2 : Int64) * ((p0.toInt64) + ((p1 &&& (2147483647 : Int32)).toInt64)))), .second, .val (.int (0 : Int32)), .unset, .unset] [])
      refine DoneW.go (fun _ kt_ => XS.dconst0 X38h.here hx rfl (hb hby at_120) own_d0 kt_) ?_
      show DoneW p e s below _ _ _ T38 (mkF m 121 #[.val (.int p0), .val (.int p1), .val (.int p2), .val (.int p3), .val (.int p4), .val (.int (p1 &&& (2147483647 : Int32))), .val (.int (p4 &&& (1 : Int32))), .val (.ref b36), .val (.double (FP.dadd (FP.l2d (p3.toInt64)) (4602678819172646912 : UInt64))), .second, .val (.double xg), .second, .val (.long (((2 : Int64) * (p3.toInt64)) + ((p4 &&& (1 : Int32)).toInt64))), .second, .val (.long ((2 : Int64) * (p0.toInt64))), .second, .val (.long ((2 : Int64) * ((p0.toInt64) + ((p1 &&& (2147483647 : Int32)).toInt64)))), .second, .val (.int (0 : Int32)), .unset, .unset] [(.double (FP.l2d (0 : Int64)))])
      refine DoneW.go (fun _ kt_ => XS.dstore X38h.here hx rfl (hb hby at_121) rfl (l' := #[.val (.int p0), .val (.int p1), .val (.int p2), .val (.int p3), .val (.int p4), .val (.int (p1 &&& (2147483647 : Int32))), .val (.int (p4 &&& (1 : Int32))), .val (.ref b36), .val (.double (FP.dadd (FP.l2d (p3.toInt64)) (4602678819172646912 : UInt64))), .second, .val (.double xg), .second, .val (.long (((2 : Int64) * (p3.toInt64)) + ((p4 &&& (1 : Int32)).toInt64))), .second, .val (.long ((2 : Int64) * (p0.toInt64))), .second, .val (.long ((2 : Int64) * ((p0.toInt64) + ((p1 &&& (2147483647 : Int32)).toInt64)))), .second, .val (.int (0 : Int32)), .val (.double (FP.l2d (0 : Int64))), .second]) rfl kt_) ?_
      show DoneW p e s below _ _ _ T38 (mkF m 123 #[.val (.int p0), .val (.int p1), .val (.int p2), .val (.int p3), .val (.int p4), .val (.int (p1 &&& (2147483647 : Int32))), .val (.int (p4 &&& (1 : Int32))), .val (.ref b36), .val (.double (FP.dadd (FP.l2d (p3.toInt64)) (4602678819172646912 : UInt64))), .second, .val (.double xg), .second, .val (.long (((2 : Int64) * (p3.toInt64)) + ((p4 &&& (1 : Int32)).toInt64))), .second, .val (.long ((2 : Int64) * (p0.toInt64))), .second, .val (.long ((2 : Int64) * ((p0.toInt64) + ((p1 &&& (2147483647 : Int32)).toInt64)))), .second, .val (.int (0 : Int32)), .val (.double (FP.l2d (0 : Int64))), .second] [])
      refine DoneW.go (fun _ kt_ => XS.dload X38h.here hx rfl (hb hby at_123) rfl kt_) ?_
      show DoneW p e s below _ _ _ T38 (mkF m 125 #[.val (.int p0), .val (.int p1), .val (.int p2), .val (.int p3), .val (.int p4), .val (.int (p1 &&& (2147483647 : Int32))), .val (.int (p4 &&& (1 : Int32))), .val (.ref b36), .val (.double (FP.dadd (FP.l2d (p3.toInt64)) (4602678819172646912 : UInt64))), .second, .val (.double xg), .second, .val (.long (((2 : Int64) * (p3.toInt64)) + ((p4 &&& (1 : Int32)).toInt64))), .second, .val (.long ((2 : Int64) * (p0.toInt64))), .second, .val (.long ((2 : Int64) * ((p0.toInt64) + ((p1 &&& (2147483647 : Int32)).toInt64)))), .second, .val (.int (0 : Int32)), .val (.double (FP.l2d (0 : Int64))), .second] [(.double xg)])
      refine DoneW.go (fun _ kt_ => XS.dload X38h.here hx rfl (hb hby at_125) rfl kt_) ?_
      show DoneW p e s below _ _ _ T38 (mkF m 127 #[.val (.int p0), .val (.int p1), .val (.int p2), .val (.int p3), .val (.int p4), .val (.int (p1 &&& (2147483647 : Int32))), .val (.int (p4 &&& (1 : Int32))), .val (.ref b36), .val (.double (FP.dadd (FP.l2d (p3.toInt64)) (4602678819172646912 : UInt64))), .second, .val (.double xg), .second, .val (.long (((2 : Int64) * (p3.toInt64)) + ((p4 &&& (1 : Int32)).toInt64))), .second, .val (.long ((2 : Int64) * (p0.toInt64))), .second, .val (.long ((2 : Int64) * ((p0.toInt64) + ((p1 &&& (2147483647 : Int32)).toInt64)))), .second, .val (.int (0 : Int32)), .val (.double (FP.l2d (0 : Int64))), .second] [(.double (FP.l2d (0 : Int64))), (.double xg)])
      have hs_ := own_s p0 p3 (hh := (p4 &&& (1 : Int32)).toInt64) (by omega) (by omega)
      have he_ := own_e p0 p3 (hh := (p4 &&& (1 : Int32)).toInt64) (q := (p1 &&& (2147483647 : Int32)).toInt64) (by omega) (by omega) ⟨by omega, by omega⟩
      obtain rfl : xg = FP.l2d 0 := by
        rcases Dg with ⟨-, q⟩ | ⟨q, -⟩
        · exact absurd q.1 (hs_.mp hc92)
        · exact q
      refine DoneW.go (fun _ kt_ => XS.dcmpS X38h.here hx rfl (hb hby at_127) rfl (dcmpV_self (own_nnW _) _) kt_) ?_
      show DoneW p e s below _ _ _ T38 (mkF m 128 #[.val (.int p0), .val (.int p1), .val (.int p2), .val (.int p3), .val (.int p4), .val (.int (p1 &&& (2147483647 : Int32))), .val (.int (p4 &&& (1 : Int32))), .val (.ref b36), .val (.double (FP.dadd (FP.l2d (p3.toInt64)) (4602678819172646912 : UInt64))), .second, .val (.double (FP.l2d 0)), .second, .val (.long (((2 : Int64) * (p3.toInt64)) + ((p4 &&& (1 : Int32)).toInt64))), .second, .val (.long ((2 : Int64) * (p0.toInt64))), .second, .val (.long ((2 : Int64) * ((p0.toInt64) + ((p1 &&& (2147483647 : Int32)).toInt64)))), .second, .val (.int (0 : Int32)), .val (.double (FP.l2d (0 : Int64))), .second] [(.int (0 : Int32))])
      refine DoneW.go (fun _ kt_ => XS.ifNo X38h.here hx rfl (hb hby at_128) rfl ((if0 _ _).trans (teq rfl).2) kt_) ?_
      show DoneW p e s below _ _ _ T38 (mkF m 131 #[.val (.int p0), .val (.int p1), .val (.int p2), .val (.int p3), .val (.int p4), .val (.int (p1 &&& (2147483647 : Int32))), .val (.int (p4 &&& (1 : Int32))), .val (.ref b36), .val (.double (FP.dadd (FP.l2d (p3.toInt64)) (4602678819172646912 : UInt64))), .second, .val (.double (FP.l2d 0)), .second, .val (.long (((2 : Int64) * (p3.toInt64)) + ((p4 &&& (1 : Int32)).toInt64))), .second, .val (.long ((2 : Int64) * (p0.toInt64))), .second, .val (.long ((2 : Int64) * ((p0.toInt64) + ((p1 &&& (2147483647 : Int32)).toInt64)))), .second, .val (.int (0 : Int32)), .val (.double (FP.l2d (0 : Int64))), .second] [])
      refine DoneW.go (fun _ kt_ => XS.iconst X38h.here hx rfl (hb hby at_131) kt_) ?_
      show DoneW p e s below _ _ _ T38 (mkF m 132 #[.val (.int p0), .val (.int p1), .val (.int p2), .val (.int p3), .val (.int p4), .val (.int (p1 &&& (2147483647 : Int32))), .val (.int (p4 &&& (1 : Int32))), .val (.ref b36), .val (.double (FP.dadd (FP.l2d (p3.toInt64)) (4602678819172646912 : UInt64))), .second, .val (.double (FP.l2d 0)), .second, .val (.long (((2 : Int64) * (p3.toInt64)) + ((p4 &&& (1 : Int32)).toInt64))), .second, .val (.long ((2 : Int64) * (p0.toInt64))), .second, .val (.long ((2 : Int64) * ((p0.toInt64) + ((p1 &&& (2147483647 : Int32)).toInt64)))), .second, .val (.int (0 : Int32)), .val (.double (FP.l2d (0 : Int64))), .second] [(.int (1 : Int32))])
      refine DoneW.go (fun _ kt_ => XS.goto X38h.here hx rfl (pc0 := 132) (pc' := 136) rfl (hb hby at_132) (by decide) (by decide) kt_) ?_
      show DoneW p e s below _ _ _ T38 (mkF m 136 #[.val (.int p0), .val (.int p1), .val (.int p2), .val (.int p3), .val (.int p4), .val (.int (p1 &&& (2147483647 : Int32))), .val (.int (p4 &&& (1 : Int32))), .val (.ref b36), .val (.double (FP.dadd (FP.l2d (p3.toInt64)) (4602678819172646912 : UInt64))), .second, .val (.double (FP.l2d 0)), .second, .val (.long (((2 : Int64) * (p3.toInt64)) + ((p4 &&& (1 : Int32)).toInt64))), .second, .val (.long ((2 : Int64) * (p0.toInt64))), .second, .val (.long ((2 : Int64) * ((p0.toInt64) + ((p1 &&& (2147483647 : Int32)).toInt64)))), .second, .val (.int (0 : Int32)), .val (.double (FP.l2d (0 : Int64))), .second] [(.int (1 : Int32))])
      refine DoneW.retN X38h hx ⟨hlk, _, hS37, (by rw [e38]; exact HK37)⟩ (t := .boolean) hrt (by simp) (z' := (1 : Int32)) rfl (hb hby at_136) ?_ (by first | decide | omega) (by first | decide | omega)
      rw [e38]
      exact ⟨rfl, N38h⟩
    · skip
      refine DoneW.go (fun _ kt_ => XS.ifNo X38h.here hx rfl (hb hby at_92) rfl ((if0 _ _).trans (flt hc92).2.2.1) kt_) ?_
      show DoneW p e s below _ _ _ T38 (mkF m 95 #[.val (.int p0), .val (.int p1), .val (.int p2), .val (.int p3), .val (.int p4), .val (.int (p1 &&& (2147483647 : Int32))), .val (.int (p4 &&& (1 : Int32))), .val (.ref b36), .val (.double (FP.dadd (FP.l2d (p3.toInt64)) (4602678819172646912 : UInt64))), .second, .val (.double xg), .second, .val (.long (((2 : Int64) * (p3.toInt64)) + ((p4 &&& (1 : Int32)).toInt64))), .second, .val (.long ((2 : Int64) * (p0.toInt64))), .second, .val (.long ((2 : Int64) * ((p0.toInt64) + ((p1 &&& (2147483647 : Int32)).toInt64)))), .second, .unset, .unset, .unset] [])
      refine DoneW.go (fun _ kt_ => XS.lload X38h.here hx rfl (hb hby at_95) rfl kt_) ?_
      show DoneW p e s below _ _ _ T38 (mkF m 97 #[.val (.int p0), .val (.int p1), .val (.int p2), .val (.int p3), .val (.int p4), .val (.int (p1 &&& (2147483647 : Int32))), .val (.int (p4 &&& (1 : Int32))), .val (.ref b36), .val (.double (FP.dadd (FP.l2d (p3.toInt64)) (4602678819172646912 : UInt64))), .second, .val (.double xg), .second, .val (.long (((2 : Int64) * (p3.toInt64)) + ((p4 &&& (1 : Int32)).toInt64))), .second, .val (.long ((2 : Int64) * (p0.toInt64))), .second, .val (.long ((2 : Int64) * ((p0.toInt64) + ((p1 &&& (2147483647 : Int32)).toInt64)))), .second, .unset, .unset, .unset] [(.long (((2 : Int64) * (p3.toInt64)) + ((p4 &&& (1 : Int32)).toInt64)))])
      refine DoneW.go (fun _ kt_ => XS.lload X38h.here hx rfl (hb hby at_97) rfl kt_) ?_
      show DoneW p e s below _ _ _ T38 (mkF m 99 #[.val (.int p0), .val (.int p1), .val (.int p2), .val (.int p3), .val (.int p4), .val (.int (p1 &&& (2147483647 : Int32))), .val (.int (p4 &&& (1 : Int32))), .val (.ref b36), .val (.double (FP.dadd (FP.l2d (p3.toInt64)) (4602678819172646912 : UInt64))), .second, .val (.double xg), .second, .val (.long (((2 : Int64) * (p3.toInt64)) + ((p4 &&& (1 : Int32)).toInt64))), .second, .val (.long ((2 : Int64) * (p0.toInt64))), .second, .val (.long ((2 : Int64) * ((p0.toInt64) + ((p1 &&& (2147483647 : Int32)).toInt64)))), .second, .unset, .unset, .unset] [(.long ((2 : Int64) * ((p0.toInt64) + ((p1 &&& (2147483647 : Int32)).toInt64)))), (.long (((2 : Int64) * (p3.toInt64)) + ((p4 &&& (1 : Int32)).toInt64)))])
      refine DoneW.go (fun _ kt_ => XS.lcmp X38h.here hx rfl (hb hby at_99) rfl kt_) ?_
      show DoneW p e s below _ _ _ T38 (mkF m 100 #[.val (.int p0), .val (.int p1), .val (.int p2), .val (.int p3), .val (.int p4), .val (.int (p1 &&& (2147483647 : Int32))), .val (.int (p4 &&& (1 : Int32))), .val (.ref b36), .val (.double (FP.dadd (FP.l2d (p3.toInt64)) (4602678819172646912 : UInt64))), .second, .val (.double xg), .second, .val (.long (((2 : Int64) * (p3.toInt64)) + ((p4 &&& (1 : Int32)).toInt64))), .second, .val (.long ((2 : Int64) * (p0.toInt64))), .second, .val (.long ((2 : Int64) * ((p0.toInt64) + ((p1 &&& (2147483647 : Int32)).toInt64)))), .second, .unset, .unset, .unset] [(.int (lcmpW (((2 : Int64) * (p3.toInt64)) + ((p4 &&& (1 : Int32)).toInt64)) ((2 : Int64) * ((p0.toInt64) + ((p1 &&& (2147483647 : Int32)).toInt64)))))])
      by_cases hc100 : (lcmpW (((2 : Int64) * (p3.toInt64)) + ((p4 &&& (1 : Int32)).toInt64)) ((2 : Int64) * ((p0.toInt64) + ((p1 &&& (2147483647 : Int32)).toInt64)))) < (0 : Int32)
      · skip
        refine DoneW.go (fun _ kt_ => XS.ifNo X38h.here hx rfl (hb hby at_100) rfl ((if0 _ _).trans (tlt hc100).2.1) kt_) ?_
        show DoneW p e s below _ _ _ T38 (mkF m 103 #[.val (.int p0), .val (.int p1), .val (.int p2), .val (.int p3), .val (.int p4), .val (.int (p1 &&& (2147483647 : Int32))), .val (.int (p4 &&& (1 : Int32))), .val (.ref b36), .val (.double (FP.dadd (FP.l2d (p3.toInt64)) (4602678819172646912 : UInt64))), .second, .val (.double xg), .second, .val (.long (((2 : Int64) * (p3.toInt64)) + ((p4 &&& (1 : Int32)).toInt64))), .second, .val (.long ((2 : Int64) * (p0.toInt64))), .second, .val (.long ((2 : Int64) * ((p0.toInt64) + ((p1 &&& (2147483647 : Int32)).toInt64)))), .second, .unset, .unset, .unset] [])
        refine DoneW.go (fun _ kt_ => XS.iconst X38h.here hx rfl (hb hby at_103) kt_) ?_
        show DoneW p e s below _ _ _ T38 (mkF m 104 #[.val (.int p0), .val (.int p1), .val (.int p2), .val (.int p3), .val (.int p4), .val (.int (p1 &&& (2147483647 : Int32))), .val (.int (p4 &&& (1 : Int32))), .val (.ref b36), .val (.double (FP.dadd (FP.l2d (p3.toInt64)) (4602678819172646912 : UInt64))), .second, .val (.double xg), .second, .val (.long (((2 : Int64) * (p3.toInt64)) + ((p4 &&& (1 : Int32)).toInt64))), .second, .val (.long ((2 : Int64) * (p0.toInt64))), .second, .val (.long ((2 : Int64) * ((p0.toInt64) + ((p1 &&& (2147483647 : Int32)).toInt64)))), .second, .unset, .unset, .unset] [(.int (1 : Int32))])
        refine DoneW.go (fun _ kt_ => XS.goto X38h.here hx rfl (pc0 := 104) (pc' := 108) rfl (hb hby at_104) (by decide) (by decide) kt_) ?_
        show DoneW p e s below _ _ _ T38 (mkF m 108 #[.val (.int p0), .val (.int p1), .val (.int p2), .val (.int p3), .val (.int p4), .val (.int (p1 &&& (2147483647 : Int32))), .val (.int (p4 &&& (1 : Int32))), .val (.ref b36), .val (.double (FP.dadd (FP.l2d (p3.toInt64)) (4602678819172646912 : UInt64))), .second, .val (.double xg), .second, .val (.long (((2 : Int64) * (p3.toInt64)) + ((p4 &&& (1 : Int32)).toInt64))), .second, .val (.long ((2 : Int64) * (p0.toInt64))), .second, .val (.long ((2 : Int64) * ((p0.toInt64) + ((p1 &&& (2147483647 : Int32)).toInt64)))), .second, .unset, .unset, .unset] [(.int (1 : Int32))])
        refine DoneW.go (fun _ kt_ => XS.istore X38h.here hx rfl (hb hby at_108) rfl (l' := #[.val (.int p0), .val (.int p1), .val (.int p2), .val (.int p3), .val (.int p4), .val (.int (p1 &&& (2147483647 : Int32))), .val (.int (p4 &&& (1 : Int32))), .val (.ref b36), .val (.double (FP.dadd (FP.l2d (p3.toInt64)) (4602678819172646912 : UInt64))), .second, .val (.double xg), .second, .val (.long (((2 : Int64) * (p3.toInt64)) + ((p4 &&& (1 : Int32)).toInt64))), .second, .val (.long ((2 : Int64) * (p0.toInt64))), .second, .val (.long ((2 : Int64) * ((p0.toInt64) + ((p1 &&& (2147483647 : Int32)).toInt64)))), .second, .val (.int (1 : Int32)), .unset, .unset]) rfl kt_) ?_
        show DoneW p e s below _ _ _ T38 (mkF m 110 #[.val (.int p0), .val (.int p1), .val (.int p2), .val (.int p3), .val (.int p4), .val (.int (p1 &&& (2147483647 : Int32))), .val (.int (p4 &&& (1 : Int32))), .val (.ref b36), .val (.double (FP.dadd (FP.l2d (p3.toInt64)) (4602678819172646912 : UInt64))), .second, .val (.double xg), .second, .val (.long (((2 : Int64) * (p3.toInt64)) + ((p4 &&& (1 : Int32)).toInt64))), .second, .val (.long ((2 : Int64) * (p0.toInt64))), .second, .val (.long ((2 : Int64) * ((p0.toInt64) + ((p1 &&& (2147483647 : Int32)).toInt64)))), .second, .val (.int (1 : Int32)), .unset, .unset] [])
        refine DoneW.go (fun _ kt_ => XS.iload X38h.here hx rfl (hb hby at_110) rfl kt_) ?_
        show DoneW p e s below _ _ _ T38 (mkF m 112 #[.val (.int p0), .val (.int p1), .val (.int p2), .val (.int p3), .val (.int p4), .val (.int (p1 &&& (2147483647 : Int32))), .val (.int (p4 &&& (1 : Int32))), .val (.ref b36), .val (.double (FP.dadd (FP.l2d (p3.toInt64)) (4602678819172646912 : UInt64))), .second, .val (.double xg), .second, .val (.long (((2 : Int64) * (p3.toInt64)) + ((p4 &&& (1 : Int32)).toInt64))), .second, .val (.long ((2 : Int64) * (p0.toInt64))), .second, .val (.long ((2 : Int64) * ((p0.toInt64) + ((p1 &&& (2147483647 : Int32)).toInt64)))), .second, .val (.int (1 : Int32)), .unset, .unset] [(.int (1 : Int32))])
        refine DoneW.go (fun _ kt_ => XS.ifNo X38h.here hx rfl (hb hby at_112) rfl ((if0 _ _).trans (feq (by decide)).1) kt_) ?_
        show DoneW p e s below _ _ _ T38 (mkF m 115 #[.val (.int p0), .val (.int p1), .val (.int p2), .val (.int p3), .val (.int p4), .val (.int (p1 &&& (2147483647 : Int32))), .val (.int (p4 &&& (1 : Int32))), .val (.ref b36), .val (.double (FP.dadd (FP.l2d (p3.toInt64)) (4602678819172646912 : UInt64))), .second, .val (.double xg), .second, .val (.long (((2 : Int64) * (p3.toInt64)) + ((p4 &&& (1 : Int32)).toInt64))), .second, .val (.long ((2 : Int64) * (p0.toInt64))), .second, .val (.long ((2 : Int64) * ((p0.toInt64) + ((p1 &&& (2147483647 : Int32)).toInt64)))), .second, .val (.int (1 : Int32)), .unset, .unset] [])
        refine DoneW.go (fun _ kt_ => XS.iloadN X38h.here hx rfl (hb hby at_115) rfl kt_) ?_
        show DoneW p e s below _ _ _ T38 (mkF m 116 #[.val (.int p0), .val (.int p1), .val (.int p2), .val (.int p3), .val (.int p4), .val (.int (p1 &&& (2147483647 : Int32))), .val (.int (p4 &&& (1 : Int32))), .val (.ref b36), .val (.double (FP.dadd (FP.l2d (p3.toInt64)) (4602678819172646912 : UInt64))), .second, .val (.double xg), .second, .val (.long (((2 : Int64) * (p3.toInt64)) + ((p4 &&& (1 : Int32)).toInt64))), .second, .val (.long ((2 : Int64) * (p0.toInt64))), .second, .val (.long ((2 : Int64) * ((p0.toInt64) + ((p1 &&& (2147483647 : Int32)).toInt64)))), .second, .val (.int (1 : Int32)), .unset, .unset] [(.int p2)])
        refine DoneW.go (fun _ kt_ => XS.i2dS X38h.here hx rfl (hb hby at_116) rfl (i2d_w p2) kt_) ?_
        show DoneW p e s below _ _ _ T38 (mkF m 117 #[.val (.int p0), .val (.int p1), .val (.int p2), .val (.int p3), .val (.int p4), .val (.int (p1 &&& (2147483647 : Int32))), .val (.int (p4 &&& (1 : Int32))), .val (.ref b36), .val (.double (FP.dadd (FP.l2d (p3.toInt64)) (4602678819172646912 : UInt64))), .second, .val (.double xg), .second, .val (.long (((2 : Int64) * (p3.toInt64)) + ((p4 &&& (1 : Int32)).toInt64))), .second, .val (.long ((2 : Int64) * (p0.toInt64))), .second, .val (.long ((2 : Int64) * ((p0.toInt64) + ((p1 &&& (2147483647 : Int32)).toInt64)))), .second, .val (.int (1 : Int32)), .unset, .unset] [(.double (FP.l2d (p2.toInt64)))])
        refine DoneW.go (fun _ kt_ => XS.goto X38h.here hx rfl (pc0 := 117) (pc' := 121) rfl (hb hby at_117) (by decide) (by decide) kt_) ?_
        show DoneW p e s below _ _ _ T38 (mkF m 121 #[.val (.int p0), .val (.int p1), .val (.int p2), .val (.int p3), .val (.int p4), .val (.int (p1 &&& (2147483647 : Int32))), .val (.int (p4 &&& (1 : Int32))), .val (.ref b36), .val (.double (FP.dadd (FP.l2d (p3.toInt64)) (4602678819172646912 : UInt64))), .second, .val (.double xg), .second, .val (.long (((2 : Int64) * (p3.toInt64)) + ((p4 &&& (1 : Int32)).toInt64))), .second, .val (.long ((2 : Int64) * (p0.toInt64))), .second, .val (.long ((2 : Int64) * ((p0.toInt64) + ((p1 &&& (2147483647 : Int32)).toInt64)))), .second, .val (.int (1 : Int32)), .unset, .unset] [(.double (FP.l2d (p2.toInt64)))])
        refine DoneW.go (fun _ kt_ => XS.dstore X38h.here hx rfl (hb hby at_121) rfl (l' := #[.val (.int p0), .val (.int p1), .val (.int p2), .val (.int p3), .val (.int p4), .val (.int (p1 &&& (2147483647 : Int32))), .val (.int (p4 &&& (1 : Int32))), .val (.ref b36), .val (.double (FP.dadd (FP.l2d (p3.toInt64)) (4602678819172646912 : UInt64))), .second, .val (.double xg), .second, .val (.long (((2 : Int64) * (p3.toInt64)) + ((p4 &&& (1 : Int32)).toInt64))), .second, .val (.long ((2 : Int64) * (p0.toInt64))), .second, .val (.long ((2 : Int64) * ((p0.toInt64) + ((p1 &&& (2147483647 : Int32)).toInt64)))), .second, .val (.int (1 : Int32)), .val (.double (FP.l2d (p2.toInt64))), .second]) rfl kt_) ?_
        show DoneW p e s below _ _ _ T38 (mkF m 123 #[.val (.int p0), .val (.int p1), .val (.int p2), .val (.int p3), .val (.int p4), .val (.int (p1 &&& (2147483647 : Int32))), .val (.int (p4 &&& (1 : Int32))), .val (.ref b36), .val (.double (FP.dadd (FP.l2d (p3.toInt64)) (4602678819172646912 : UInt64))), .second, .val (.double xg), .second, .val (.long (((2 : Int64) * (p3.toInt64)) + ((p4 &&& (1 : Int32)).toInt64))), .second, .val (.long ((2 : Int64) * (p0.toInt64))), .second, .val (.long ((2 : Int64) * ((p0.toInt64) + ((p1 &&& (2147483647 : Int32)).toInt64)))), .second, .val (.int (1 : Int32)), .val (.double (FP.l2d (p2.toInt64))), .second] [])
        refine DoneW.go (fun _ kt_ => XS.dload X38h.here hx rfl (hb hby at_123) rfl kt_) ?_
        show DoneW p e s below _ _ _ T38 (mkF m 125 #[.val (.int p0), .val (.int p1), .val (.int p2), .val (.int p3), .val (.int p4), .val (.int (p1 &&& (2147483647 : Int32))), .val (.int (p4 &&& (1 : Int32))), .val (.ref b36), .val (.double (FP.dadd (FP.l2d (p3.toInt64)) (4602678819172646912 : UInt64))), .second, .val (.double xg), .second, .val (.long (((2 : Int64) * (p3.toInt64)) + ((p4 &&& (1 : Int32)).toInt64))), .second, .val (.long ((2 : Int64) * (p0.toInt64))), .second, .val (.long ((2 : Int64) * ((p0.toInt64) + ((p1 &&& (2147483647 : Int32)).toInt64)))), .second, .val (.int (1 : Int32)), .val (.double (FP.l2d (p2.toInt64))), .second] [(.double xg)])
        refine DoneW.go (fun _ kt_ => XS.dload X38h.here hx rfl (hb hby at_125) rfl kt_) ?_
        show DoneW p e s below _ _ _ T38 (mkF m 127 #[.val (.int p0), .val (.int p1), .val (.int p2), .val (.int p3), .val (.int p4), .val (.int (p1 &&& (2147483647 : Int32))), .val (.int (p4 &&& (1 : Int32))), .val (.ref b36), .val (.double (FP.dadd (FP.l2d (p3.toInt64)) (4602678819172646912 : UInt64))), .second, .val (.double xg), .second, .val (.long (((2 : Int64) * (p3.toInt64)) + ((p4 &&& (1 : Int32)).toInt64))), .second, .val (.long ((2 : Int64) * (p0.toInt64))), .second, .val (.long ((2 : Int64) * ((p0.toInt64) + ((p1 &&& (2147483647 : Int32)).toInt64)))), .second, .val (.int (1 : Int32)), .val (.double (FP.l2d (p2.toInt64))), .second] [(.double (FP.l2d (p2.toInt64))), (.double xg)])
        have hs_ := own_s p0 p3 (hh := (p4 &&& (1 : Int32)).toInt64) (by omega) (by omega)
        have he_ := own_e p0 p3 (hh := (p4 &&& (1 : Int32)).toInt64) (q := (p1 &&& (2147483647 : Int32)).toInt64) (by omega) (by omega) ⟨by omega, by omega⟩
        obtain rfl : xg = FP.l2d p2.toInt64 := by
          rcases Dg with ⟨q, -⟩ | ⟨-, q⟩
          · exact q
          · exact absurd ⟨Decidable.not_not.mp (fun u => hc92 (hs_.mpr u)), he_.mp hc100⟩ q
        refine DoneW.go (fun _ kt_ => XS.dcmpS X38h.here hx rfl (hb hby at_127) rfl (dcmpV_self (own_nnW _) _) kt_) ?_
        show DoneW p e s below _ _ _ T38 (mkF m 128 #[.val (.int p0), .val (.int p1), .val (.int p2), .val (.int p3), .val (.int p4), .val (.int (p1 &&& (2147483647 : Int32))), .val (.int (p4 &&& (1 : Int32))), .val (.ref b36), .val (.double (FP.dadd (FP.l2d (p3.toInt64)) (4602678819172646912 : UInt64))), .second, .val (.double (FP.l2d p2.toInt64)), .second, .val (.long (((2 : Int64) * (p3.toInt64)) + ((p4 &&& (1 : Int32)).toInt64))), .second, .val (.long ((2 : Int64) * (p0.toInt64))), .second, .val (.long ((2 : Int64) * ((p0.toInt64) + ((p1 &&& (2147483647 : Int32)).toInt64)))), .second, .val (.int (1 : Int32)), .val (.double (FP.l2d (p2.toInt64))), .second] [(.int (0 : Int32))])
        refine DoneW.go (fun _ kt_ => XS.ifNo X38h.here hx rfl (hb hby at_128) rfl ((if0 _ _).trans (teq rfl).2) kt_) ?_
        show DoneW p e s below _ _ _ T38 (mkF m 131 #[.val (.int p0), .val (.int p1), .val (.int p2), .val (.int p3), .val (.int p4), .val (.int (p1 &&& (2147483647 : Int32))), .val (.int (p4 &&& (1 : Int32))), .val (.ref b36), .val (.double (FP.dadd (FP.l2d (p3.toInt64)) (4602678819172646912 : UInt64))), .second, .val (.double (FP.l2d p2.toInt64)), .second, .val (.long (((2 : Int64) * (p3.toInt64)) + ((p4 &&& (1 : Int32)).toInt64))), .second, .val (.long ((2 : Int64) * (p0.toInt64))), .second, .val (.long ((2 : Int64) * ((p0.toInt64) + ((p1 &&& (2147483647 : Int32)).toInt64)))), .second, .val (.int (1 : Int32)), .val (.double (FP.l2d (p2.toInt64))), .second] [])
        refine DoneW.go (fun _ kt_ => XS.iconst X38h.here hx rfl (hb hby at_131) kt_) ?_
        show DoneW p e s below _ _ _ T38 (mkF m 132 #[.val (.int p0), .val (.int p1), .val (.int p2), .val (.int p3), .val (.int p4), .val (.int (p1 &&& (2147483647 : Int32))), .val (.int (p4 &&& (1 : Int32))), .val (.ref b36), .val (.double (FP.dadd (FP.l2d (p3.toInt64)) (4602678819172646912 : UInt64))), .second, .val (.double (FP.l2d p2.toInt64)), .second, .val (.long (((2 : Int64) * (p3.toInt64)) + ((p4 &&& (1 : Int32)).toInt64))), .second, .val (.long ((2 : Int64) * (p0.toInt64))), .second, .val (.long ((2 : Int64) * ((p0.toInt64) + ((p1 &&& (2147483647 : Int32)).toInt64)))), .second, .val (.int (1 : Int32)), .val (.double (FP.l2d (p2.toInt64))), .second] [(.int (1 : Int32))])
        refine DoneW.go (fun _ kt_ => XS.goto X38h.here hx rfl (pc0 := 132) (pc' := 136) rfl (hb hby at_132) (by decide) (by decide) kt_) ?_
        show DoneW p e s below _ _ _ T38 (mkF m 136 #[.val (.int p0), .val (.int p1), .val (.int p2), .val (.int p3), .val (.int p4), .val (.int (p1 &&& (2147483647 : Int32))), .val (.int (p4 &&& (1 : Int32))), .val (.ref b36), .val (.double (FP.dadd (FP.l2d (p3.toInt64)) (4602678819172646912 : UInt64))), .second, .val (.double (FP.l2d p2.toInt64)), .second, .val (.long (((2 : Int64) * (p3.toInt64)) + ((p4 &&& (1 : Int32)).toInt64))), .second, .val (.long ((2 : Int64) * (p0.toInt64))), .second, .val (.long ((2 : Int64) * ((p0.toInt64) + ((p1 &&& (2147483647 : Int32)).toInt64)))), .second, .val (.int (1 : Int32)), .val (.double (FP.l2d (p2.toInt64))), .second] [(.int (1 : Int32))])
        refine DoneW.retN X38h hx ⟨hlk, _, hS37, (by rw [e38]; exact HK37)⟩ (t := .boolean) hrt (by simp) (z' := (1 : Int32)) rfl (hb hby at_136) ?_ (by first | decide | omega) (by first | decide | omega)
        rw [e38]
        exact ⟨rfl, N38h⟩
      · skip
        refine DoneW.go (fun _ kt_ => XS.ifYes X38h.here hx rfl (pc0 := 100) (pc' := 107) rfl (hb hby at_100) rfl ((if0 _ _).trans (flt hc100).2.1) (by decide) (by decide) kt_) ?_
        show DoneW p e s below _ _ _ T38 (mkF m 107 #[.val (.int p0), .val (.int p1), .val (.int p2), .val (.int p3), .val (.int p4), .val (.int (p1 &&& (2147483647 : Int32))), .val (.int (p4 &&& (1 : Int32))), .val (.ref b36), .val (.double (FP.dadd (FP.l2d (p3.toInt64)) (4602678819172646912 : UInt64))), .second, .val (.double xg), .second, .val (.long (((2 : Int64) * (p3.toInt64)) + ((p4 &&& (1 : Int32)).toInt64))), .second, .val (.long ((2 : Int64) * (p0.toInt64))), .second, .val (.long ((2 : Int64) * ((p0.toInt64) + ((p1 &&& (2147483647 : Int32)).toInt64)))), .second, .unset, .unset, .unset] [])
        refine DoneW.go (fun _ kt_ => XS.iconst X38h.here hx rfl (hb hby at_107) kt_) ?_
        show DoneW p e s below _ _ _ T38 (mkF m 108 #[.val (.int p0), .val (.int p1), .val (.int p2), .val (.int p3), .val (.int p4), .val (.int (p1 &&& (2147483647 : Int32))), .val (.int (p4 &&& (1 : Int32))), .val (.ref b36), .val (.double (FP.dadd (FP.l2d (p3.toInt64)) (4602678819172646912 : UInt64))), .second, .val (.double xg), .second, .val (.long (((2 : Int64) * (p3.toInt64)) + ((p4 &&& (1 : Int32)).toInt64))), .second, .val (.long ((2 : Int64) * (p0.toInt64))), .second, .val (.long ((2 : Int64) * ((p0.toInt64) + ((p1 &&& (2147483647 : Int32)).toInt64)))), .second, .unset, .unset, .unset] [(.int (0 : Int32))])
        refine DoneW.go (fun _ kt_ => XS.istore X38h.here hx rfl (hb hby at_108) rfl (l' := #[.val (.int p0), .val (.int p1), .val (.int p2), .val (.int p3), .val (.int p4), .val (.int (p1 &&& (2147483647 : Int32))), .val (.int (p4 &&& (1 : Int32))), .val (.ref b36), .val (.double (FP.dadd (FP.l2d (p3.toInt64)) (4602678819172646912 : UInt64))), .second, .val (.double xg), .second, .val (.long (((2 : Int64) * (p3.toInt64)) + ((p4 &&& (1 : Int32)).toInt64))), .second, .val (.long ((2 : Int64) * (p0.toInt64))), .second, .val (.long ((2 : Int64) * ((p0.toInt64) + ((p1 &&& (2147483647 : Int32)).toInt64)))), .second, .val (.int (0 : Int32)), .unset, .unset]) rfl kt_) ?_
        show DoneW p e s below _ _ _ T38 (mkF m 110 #[.val (.int p0), .val (.int p1), .val (.int p2), .val (.int p3), .val (.int p4), .val (.int (p1 &&& (2147483647 : Int32))), .val (.int (p4 &&& (1 : Int32))), .val (.ref b36), .val (.double (FP.dadd (FP.l2d (p3.toInt64)) (4602678819172646912 : UInt64))), .second, .val (.double xg), .second, .val (.long (((2 : Int64) * (p3.toInt64)) + ((p4 &&& (1 : Int32)).toInt64))), .second, .val (.long ((2 : Int64) * (p0.toInt64))), .second, .val (.long ((2 : Int64) * ((p0.toInt64) + ((p1 &&& (2147483647 : Int32)).toInt64)))), .second, .val (.int (0 : Int32)), .unset, .unset] [])
        refine DoneW.go (fun _ kt_ => XS.iload X38h.here hx rfl (hb hby at_110) rfl kt_) ?_
        show DoneW p e s below _ _ _ T38 (mkF m 112 #[.val (.int p0), .val (.int p1), .val (.int p2), .val (.int p3), .val (.int p4), .val (.int (p1 &&& (2147483647 : Int32))), .val (.int (p4 &&& (1 : Int32))), .val (.ref b36), .val (.double (FP.dadd (FP.l2d (p3.toInt64)) (4602678819172646912 : UInt64))), .second, .val (.double xg), .second, .val (.long (((2 : Int64) * (p3.toInt64)) + ((p4 &&& (1 : Int32)).toInt64))), .second, .val (.long ((2 : Int64) * (p0.toInt64))), .second, .val (.long ((2 : Int64) * ((p0.toInt64) + ((p1 &&& (2147483647 : Int32)).toInt64)))), .second, .val (.int (0 : Int32)), .unset, .unset] [(.int (0 : Int32))])
        refine DoneW.go (fun _ kt_ => XS.ifYes X38h.here hx rfl (pc0 := 112) (pc' := 120) rfl (hb hby at_112) rfl ((if0 _ _).trans (teq rfl).1) (by decide) (by decide) kt_) ?_
        show DoneW p e s below _ _ _ T38 (mkF m 120 #[.val (.int p0), .val (.int p1), .val (.int p2), .val (.int p3), .val (.int p4), .val (.int (p1 &&& (2147483647 : Int32))), .val (.int (p4 &&& (1 : Int32))), .val (.ref b36), .val (.double (FP.dadd (FP.l2d (p3.toInt64)) (4602678819172646912 : UInt64))), .second, .val (.double xg), .second, .val (.long (((2 : Int64) * (p3.toInt64)) + ((p4 &&& (1 : Int32)).toInt64))), .second, .val (.long ((2 : Int64) * (p0.toInt64))), .second, .val (.long ((2 : Int64) * ((p0.toInt64) + ((p1 &&& (2147483647 : Int32)).toInt64)))), .second, .val (.int (0 : Int32)), .unset, .unset] [])
        refine DoneW.go (fun _ kt_ => XS.dconst0 X38h.here hx rfl (hb hby at_120) own_d0 kt_) ?_
        show DoneW p e s below _ _ _ T38 (mkF m 121 #[.val (.int p0), .val (.int p1), .val (.int p2), .val (.int p3), .val (.int p4), .val (.int (p1 &&& (2147483647 : Int32))), .val (.int (p4 &&& (1 : Int32))), .val (.ref b36), .val (.double (FP.dadd (FP.l2d (p3.toInt64)) (4602678819172646912 : UInt64))), .second, .val (.double xg), .second, .val (.long (((2 : Int64) * (p3.toInt64)) + ((p4 &&& (1 : Int32)).toInt64))), .second, .val (.long ((2 : Int64) * (p0.toInt64))), .second, .val (.long ((2 : Int64) * ((p0.toInt64) + ((p1 &&& (2147483647 : Int32)).toInt64)))), .second, .val (.int (0 : Int32)), .unset, .unset] [(.double (FP.l2d (0 : Int64)))])
        refine DoneW.go (fun _ kt_ => XS.dstore X38h.here hx rfl (hb hby at_121) rfl (l' := #[.val (.int p0), .val (.int p1), .val (.int p2), .val (.int p3), .val (.int p4), .val (.int (p1 &&& (2147483647 : Int32))), .val (.int (p4 &&& (1 : Int32))), .val (.ref b36), .val (.double (FP.dadd (FP.l2d (p3.toInt64)) (4602678819172646912 : UInt64))), .second, .val (.double xg), .second, .val (.long (((2 : Int64) * (p3.toInt64)) + ((p4 &&& (1 : Int32)).toInt64))), .second, .val (.long ((2 : Int64) * (p0.toInt64))), .second, .val (.long ((2 : Int64) * ((p0.toInt64) + ((p1 &&& (2147483647 : Int32)).toInt64)))), .second, .val (.int (0 : Int32)), .val (.double (FP.l2d (0 : Int64))), .second]) rfl kt_) ?_
        show DoneW p e s below _ _ _ T38 (mkF m 123 #[.val (.int p0), .val (.int p1), .val (.int p2), .val (.int p3), .val (.int p4), .val (.int (p1 &&& (2147483647 : Int32))), .val (.int (p4 &&& (1 : Int32))), .val (.ref b36), .val (.double (FP.dadd (FP.l2d (p3.toInt64)) (4602678819172646912 : UInt64))), .second, .val (.double xg), .second, .val (.long (((2 : Int64) * (p3.toInt64)) + ((p4 &&& (1 : Int32)).toInt64))), .second, .val (.long ((2 : Int64) * (p0.toInt64))), .second, .val (.long ((2 : Int64) * ((p0.toInt64) + ((p1 &&& (2147483647 : Int32)).toInt64)))), .second, .val (.int (0 : Int32)), .val (.double (FP.l2d (0 : Int64))), .second] [])
        refine DoneW.go (fun _ kt_ => XS.dload X38h.here hx rfl (hb hby at_123) rfl kt_) ?_
        show DoneW p e s below _ _ _ T38 (mkF m 125 #[.val (.int p0), .val (.int p1), .val (.int p2), .val (.int p3), .val (.int p4), .val (.int (p1 &&& (2147483647 : Int32))), .val (.int (p4 &&& (1 : Int32))), .val (.ref b36), .val (.double (FP.dadd (FP.l2d (p3.toInt64)) (4602678819172646912 : UInt64))), .second, .val (.double xg), .second, .val (.long (((2 : Int64) * (p3.toInt64)) + ((p4 &&& (1 : Int32)).toInt64))), .second, .val (.long ((2 : Int64) * (p0.toInt64))), .second, .val (.long ((2 : Int64) * ((p0.toInt64) + ((p1 &&& (2147483647 : Int32)).toInt64)))), .second, .val (.int (0 : Int32)), .val (.double (FP.l2d (0 : Int64))), .second] [(.double xg)])
        refine DoneW.go (fun _ kt_ => XS.dload X38h.here hx rfl (hb hby at_125) rfl kt_) ?_
        show DoneW p e s below _ _ _ T38 (mkF m 127 #[.val (.int p0), .val (.int p1), .val (.int p2), .val (.int p3), .val (.int p4), .val (.int (p1 &&& (2147483647 : Int32))), .val (.int (p4 &&& (1 : Int32))), .val (.ref b36), .val (.double (FP.dadd (FP.l2d (p3.toInt64)) (4602678819172646912 : UInt64))), .second, .val (.double xg), .second, .val (.long (((2 : Int64) * (p3.toInt64)) + ((p4 &&& (1 : Int32)).toInt64))), .second, .val (.long ((2 : Int64) * (p0.toInt64))), .second, .val (.long ((2 : Int64) * ((p0.toInt64) + ((p1 &&& (2147483647 : Int32)).toInt64)))), .second, .val (.int (0 : Int32)), .val (.double (FP.l2d (0 : Int64))), .second] [(.double (FP.l2d (0 : Int64))), (.double xg)])
        have hs_ := own_s p0 p3 (hh := (p4 &&& (1 : Int32)).toInt64) (by omega) (by omega)
        have he_ := own_e p0 p3 (hh := (p4 &&& (1 : Int32)).toInt64) (q := (p1 &&& (2147483647 : Int32)).toInt64) (by omega) (by omega) ⟨by omega, by omega⟩
        obtain rfl : xg = FP.l2d 0 := by
          rcases Dg with ⟨-, q⟩ | ⟨q, -⟩
          · exact absurd (he_.mpr q.2) hc100
          · exact q
        refine DoneW.go (fun _ kt_ => XS.dcmpS X38h.here hx rfl (hb hby at_127) rfl (dcmpV_self (own_nnW _) _) kt_) ?_
        show DoneW p e s below _ _ _ T38 (mkF m 128 #[.val (.int p0), .val (.int p1), .val (.int p2), .val (.int p3), .val (.int p4), .val (.int (p1 &&& (2147483647 : Int32))), .val (.int (p4 &&& (1 : Int32))), .val (.ref b36), .val (.double (FP.dadd (FP.l2d (p3.toInt64)) (4602678819172646912 : UInt64))), .second, .val (.double (FP.l2d 0)), .second, .val (.long (((2 : Int64) * (p3.toInt64)) + ((p4 &&& (1 : Int32)).toInt64))), .second, .val (.long ((2 : Int64) * (p0.toInt64))), .second, .val (.long ((2 : Int64) * ((p0.toInt64) + ((p1 &&& (2147483647 : Int32)).toInt64)))), .second, .val (.int (0 : Int32)), .val (.double (FP.l2d (0 : Int64))), .second] [(.int (0 : Int32))])
        refine DoneW.go (fun _ kt_ => XS.ifNo X38h.here hx rfl (hb hby at_128) rfl ((if0 _ _).trans (teq rfl).2) kt_) ?_
        show DoneW p e s below _ _ _ T38 (mkF m 131 #[.val (.int p0), .val (.int p1), .val (.int p2), .val (.int p3), .val (.int p4), .val (.int (p1 &&& (2147483647 : Int32))), .val (.int (p4 &&& (1 : Int32))), .val (.ref b36), .val (.double (FP.dadd (FP.l2d (p3.toInt64)) (4602678819172646912 : UInt64))), .second, .val (.double (FP.l2d 0)), .second, .val (.long (((2 : Int64) * (p3.toInt64)) + ((p4 &&& (1 : Int32)).toInt64))), .second, .val (.long ((2 : Int64) * (p0.toInt64))), .second, .val (.long ((2 : Int64) * ((p0.toInt64) + ((p1 &&& (2147483647 : Int32)).toInt64)))), .second, .val (.int (0 : Int32)), .val (.double (FP.l2d (0 : Int64))), .second] [])
        refine DoneW.go (fun _ kt_ => XS.iconst X38h.here hx rfl (hb hby at_131) kt_) ?_
        show DoneW p e s below _ _ _ T38 (mkF m 132 #[.val (.int p0), .val (.int p1), .val (.int p2), .val (.int p3), .val (.int p4), .val (.int (p1 &&& (2147483647 : Int32))), .val (.int (p4 &&& (1 : Int32))), .val (.ref b36), .val (.double (FP.dadd (FP.l2d (p3.toInt64)) (4602678819172646912 : UInt64))), .second, .val (.double (FP.l2d 0)), .second, .val (.long (((2 : Int64) * (p3.toInt64)) + ((p4 &&& (1 : Int32)).toInt64))), .second, .val (.long ((2 : Int64) * (p0.toInt64))), .second, .val (.long ((2 : Int64) * ((p0.toInt64) + ((p1 &&& (2147483647 : Int32)).toInt64)))), .second, .val (.int (0 : Int32)), .val (.double (FP.l2d (0 : Int64))), .second] [(.int (1 : Int32))])
        refine DoneW.go (fun _ kt_ => XS.goto X38h.here hx rfl (pc0 := 132) (pc' := 136) rfl (hb hby at_132) (by decide) (by decide) kt_) ?_
        show DoneW p e s below _ _ _ T38 (mkF m 136 #[.val (.int p0), .val (.int p1), .val (.int p2), .val (.int p3), .val (.int p4), .val (.int (p1 &&& (2147483647 : Int32))), .val (.int (p4 &&& (1 : Int32))), .val (.ref b36), .val (.double (FP.dadd (FP.l2d (p3.toInt64)) (4602678819172646912 : UInt64))), .second, .val (.double (FP.l2d 0)), .second, .val (.long (((2 : Int64) * (p3.toInt64)) + ((p4 &&& (1 : Int32)).toInt64))), .second, .val (.long ((2 : Int64) * (p0.toInt64))), .second, .val (.long ((2 : Int64) * ((p0.toInt64) + ((p1 &&& (2147483647 : Int32)).toInt64)))), .second, .val (.int (0 : Int32)), .val (.double (FP.l2d (0 : Int64))), .second] [(.int (1 : Int32))])
        refine DoneW.retN X38h hx ⟨hlk, _, hS37, (by rw [e38]; exact HK37)⟩ (t := .boolean) hrt (by simp) (z' := (1 : Int32)) rfl (hb hby at_136) ?_ (by first | decide | omega) (by first | decide | omega)
        rw [e38]
        exact ⟨rfl, N38h⟩
  · skip
    refine DoneW.go (fun _ kt_ => XS.icmpYes X37h.here hx rfl (pc0 := 33) (pc' := 42) rfl (hb hby at_33) rfl (feq hc33).2 (by decide) (by decide) kt_) ?_
    show DoneW p e s below _ _ _ T37 (mkF m 42 #[.val (.int p0), .val (.int p1), .val (.int p2), .val (.int p3), .val (.int p4), .val (.int (p1 &&& (2147483647 : Int32))), .val (.int (p4 &&& (1 : Int32))), .val (.ref b36), .unset, .unset, .unset, .unset, .unset, .unset, .unset, .unset, .unset, .unset, .unset, .unset, .unset] [(.double (FP.l2d (p3.toInt64)))])
    refine DoneW.go (fun _ kt_ => XS.dconst0 X37h.here hx rfl (hb hby at_42) own_d0 kt_) ?_
    show DoneW p e s below _ _ _ T37 (mkF m 43 #[.val (.int p0), .val (.int p1), .val (.int p2), .val (.int p3), .val (.int p4), .val (.int (p1 &&& (2147483647 : Int32))), .val (.int (p4 &&& (1 : Int32))), .val (.ref b36), .unset, .unset, .unset, .unset, .unset, .unset, .unset, .unset, .unset, .unset, .unset, .unset, .unset] [(.double (FP.l2d (0 : Int64))), (.double (FP.l2d (p3.toInt64)))])
    refine DoneW.go (fun _ kt_ => XS.daddS X37h.here hx rfl (hb hby at_43) rfl (nn_w (dadd_w (own_b53 p3) ⟨by decide, by decide⟩)) (dadd_w (own_b53 p3) ⟨by decide, by decide⟩) kt_) ?_
    show DoneW p e s below _ _ _ T37 (mkF m 44 #[.val (.int p0), .val (.int p1), .val (.int p2), .val (.int p3), .val (.int p4), .val (.int (p1 &&& (2147483647 : Int32))), .val (.int (p4 &&& (1 : Int32))), .val (.ref b36), .unset, .unset, .unset, .unset, .unset, .unset, .unset, .unset, .unset, .unset, .unset, .unset, .unset] [(.double (FP.l2d ((p3.toInt64) + (0 : Int64))))])
    refine DoneW.go (fun _ kt_ => XS.dstore X37h.here hx rfl (hb hby at_44) rfl (l' := #[.val (.int p0), .val (.int p1), .val (.int p2), .val (.int p3), .val (.int p4), .val (.int (p1 &&& (2147483647 : Int32))), .val (.int (p4 &&& (1 : Int32))), .val (.ref b36), .val (.double (FP.l2d ((p3.toInt64) + (0 : Int64)))), .second, .unset, .unset, .unset, .unset, .unset, .unset, .unset, .unset, .unset, .unset, .unset]) rfl kt_) ?_
    show DoneW p e s below _ _ _ T37 (mkF m 46 #[.val (.int p0), .val (.int p1), .val (.int p2), .val (.int p3), .val (.int p4), .val (.int (p1 &&& (2147483647 : Int32))), .val (.int (p4 &&& (1 : Int32))), .val (.ref b36), .val (.double (FP.l2d ((p3.toInt64) + (0 : Int64)))), .second, .unset, .unset, .unset, .unset, .unset, .unset, .unset, .unset, .unset, .unset, .unset] [])
    refine DoneW.go (fun _ kt_ => XS.aload X37h.here hx rfl (hb hby at_46) rfl rfl kt_) ?_
    show DoneW p e s below _ _ _ T37 (mkF m 48 #[.val (.int p0), .val (.int p1), .val (.int p2), .val (.int p3), .val (.int p4), .val (.int (p1 &&& (2147483647 : Int32))), .val (.int (p4 &&& (1 : Int32))), .val (.ref b36), .val (.double (FP.l2d ((p3.toInt64) + (0 : Int64)))), .second, .unset, .unset, .unset, .unset, .unset, .unset, .unset, .unset, .unset, .unset, .unset] [(.ref b36)])
    refine DoneW.go (fun _ kt_ => XS.dload X37h.here hx rfl (hb hby at_48) rfl kt_) ?_
    show DoneW p e s below _ _ _ T37 (mkF m 50 #[.val (.int p0), .val (.int p1), .val (.int p2), .val (.int p3), .val (.int p4), .val (.int (p1 &&& (2147483647 : Int32))), .val (.int (p4 &&& (1 : Int32))), .val (.ref b36), .val (.double (FP.l2d ((p3.toInt64) + (0 : Int64)))), .second, .unset, .unset, .unset, .unset, .unset, .unset, .unset, .unset, .unset, .unset, .unset] [(.double (FP.l2d ((p3.toInt64) + (0 : Int64)))), (.ref b36)])
    have q0 := own_i64r p0
    have q1 := own_i64r (p1 &&& (2147483647 : Int32))
    have qd := own_du p1
    have q3 := own_i64r p3
    have eab := own_ad (x := p0.toInt64) (y := (p1 &&& (2147483647 : Int32)).toInt64) (by omega) (by omega) (by omega) (by omega)
    have hk : (p4 &&& (1 : Int32)).toInt64.toInt = 0 := own_h.2 hc33
    have hzt : ZV (FP.l2d ((p3.toInt64) + (0 : Int64))) (2 * p3.toInt64.toInt + (p4 &&& (1 : Int32)).toInt64.toInt) := by rw [hk, Int.add_zero, Int64.add_zero]; exact own_whole (own_b53 p3)
    obtain ⟨cq39, kq39, q39a, q39b, q39c⟩ := isOf hZ rfl E37k
    obtain ⟨v39, T39, Lc39, X39, hQ39, st39⟩ := own_backV (X37h.virtualBack hx (y := (⟨"com/example/citadel_hill/citadelhill/cell/CurrentPulse", "current", "(D)D"⟩ : MethodName)) (z := (⟨"com/example/citadel_hill/citadelhill/cell/CurrentPulse", "current", "(D)D"⟩ : MethodName)) hown (mvT hZ (hw _ (List.mem_of_getElem? (i := 47) rfl))) (mvT hZ (hw _ (List.mem_of_getElem? (i := 48) rfl))) (notFace_of_selects (args := #[]) (mvT hZ (hw _ (List.mem_of_getElem? (i := 50) rfl)))) (mvT hZ (hw _ (List.mem_of_getElem? (i := 50) rfl))) (mvT hZ (hw _ (List.mem_of_getElem? (i := 49) rfl))) (by decide) (backOf (W := 0)  (rmC l Z a0 hw [] b36 (FP.l2d ((p3.toInt64) + (0 : Int64))) p0.toInt64 (p1 &&& (2147483647 : Int32)).toInt64 p2.toInt64 (2 * p3.toInt64.toInt + (p4 &&& (1 : Int32)).toInt64.toInt) T37.heap n0 Z37 E37k F37a F37b F37c (own_b53 p0) (own_b53 _) ⟨by omega, by omega⟩ hzt) hZ (hw _ (List.mem_of_getElem? (i := 51) rfl)) (hw _ (List.mem_of_getElem? (i := 3) rfl)) (by decide) (by decide)) q39a q39c (g := (mkF m 50 #[.val (.int p0), .val (.int p1), .val (.int p2), .val (.int p3), .val (.int p4), .val (.int (p1 &&& (2147483647 : Int32))), .val (.int (p4 &&& (1 : Int32))), .val (.ref b36), .val (.double (FP.l2d ((p3.toInt64) + (0 : Int64)))), .second, .unset, .unset, .unset, .unset, .unset, .unset, .unset, .unset, .unset, .unset, .unset] [(.double (FP.l2d ((p3.toInt64) + (0 : Int64)))), (.ref b36)])) rfl (by rw [hml]; rfl) (Steps.refl _) (argsL := [(.double (FP.l2d ((p3.toInt64) + (0 : Int64))))]) (rest := []) (lenOf own_pd0 rfl) rfl (by show 2 * 0 + _ ≤ _; exact Nat.le_of_eq rfl) (hb hby at_50) (fun _ _ => ⟨rfl, rfl, (by first | decide | omega : 11 + 0 ≤ _), (by first | decide | omega : 227 + 0 ≤ _)⟩))
    obtain ⟨xg, rfl, N39q, e39, Dg⟩ := hQ39
    refine DoneW.go st39 ?_
    clear st39
    have N39 := Fr.app N37h N39q
    clear N39q
    obtain ⟨Lh39, X39h, N39h⟩ : ∃ L, Stand p l e room_1 bs37 m #[(.int p0), (.int p1), (.int p2), (.int p3), (.int p4)] below meth c T39 L 11 227 ∧ Fr n0 L := ⟨_, X39, N39⟩
    clear X39 N39 X37h N37h
    show DoneW p e s below _ _ _ T39 (mkF m 53 #[.val (.int p0), .val (.int p1), .val (.int p2), .val (.int p3), .val (.int p4), .val (.int (p1 &&& (2147483647 : Int32))), .val (.int (p4 &&& (1 : Int32))), .val (.ref b36), .val (.double (FP.l2d ((p3.toInt64) + (0 : Int64)))), .second, .unset, .unset, .unset, .unset, .unset, .unset, .unset, .unset, .unset, .unset, .unset] [(.double xg)])
    refine DoneW.go (fun _ kt_ => XS.dstore X39h.here hx rfl (hb hby at_53) rfl (l' := #[.val (.int p0), .val (.int p1), .val (.int p2), .val (.int p3), .val (.int p4), .val (.int (p1 &&& (2147483647 : Int32))), .val (.int (p4 &&& (1 : Int32))), .val (.ref b36), .val (.double (FP.l2d ((p3.toInt64) + (0 : Int64)))), .second, .val (.double xg), .second, .unset, .unset, .unset, .unset, .unset, .unset, .unset, .unset, .unset]) rfl kt_) ?_
    show DoneW p e s below _ _ _ T39 (mkF m 55 #[.val (.int p0), .val (.int p1), .val (.int p2), .val (.int p3), .val (.int p4), .val (.int (p1 &&& (2147483647 : Int32))), .val (.int (p4 &&& (1 : Int32))), .val (.ref b36), .val (.double (FP.l2d ((p3.toInt64) + (0 : Int64)))), .second, .val (.double xg), .second, .unset, .unset, .unset, .unset, .unset, .unset, .unset, .unset, .unset] [])
    refine DoneW.go (fun t_ kt_ => X39h.ldc2Long hx hown (mvT hZ (hw _ (List.mem_of_getElem? (i := 62) rfl))) (g := (mkF m 55 #[.val (.int p0), .val (.int p1), .val (.int p2), .val (.int p3), .val (.int p4), .val (.int (p1 &&& (2147483647 : Int32))), .val (.int (p4 &&& (1 : Int32))), .val (.ref b36), .val (.double (FP.l2d ((p3.toInt64) + (0 : Int64)))), .second, .val (.double xg), .second, .unset, .unset, .unset, .unset, .unset, .unset, .unset, .unset, .unset] [])) rfl (hb hby at_55) t_ kt_) ?_
    show DoneW p e s below _ _ _ T39 (mkF m 58 #[.val (.int p0), .val (.int p1), .val (.int p2), .val (.int p3), .val (.int p4), .val (.int (p1 &&& (2147483647 : Int32))), .val (.int (p4 &&& (1 : Int32))), .val (.ref b36), .val (.double (FP.l2d ((p3.toInt64) + (0 : Int64)))), .second, .val (.double xg), .second, .unset, .unset, .unset, .unset, .unset, .unset, .unset, .unset, .unset] [(.long (2 : Int64))])
    refine DoneW.go (fun _ kt_ => XS.iloadN X39h.here hx rfl (hb hby at_58) rfl kt_) ?_
    show DoneW p e s below _ _ _ T39 (mkF m 59 #[.val (.int p0), .val (.int p1), .val (.int p2), .val (.int p3), .val (.int p4), .val (.int (p1 &&& (2147483647 : Int32))), .val (.int (p4 &&& (1 : Int32))), .val (.ref b36), .val (.double (FP.l2d ((p3.toInt64) + (0 : Int64)))), .second, .val (.double xg), .second, .unset, .unset, .unset, .unset, .unset, .unset, .unset, .unset, .unset] [(.int p3), (.long (2 : Int64))])
    refine DoneW.go (fun _ kt_ => XS.i2l X39h.here hx rfl (hb hby at_59) rfl kt_) ?_
    show DoneW p e s below _ _ _ T39 (mkF m 60 #[.val (.int p0), .val (.int p1), .val (.int p2), .val (.int p3), .val (.int p4), .val (.int (p1 &&& (2147483647 : Int32))), .val (.int (p4 &&& (1 : Int32))), .val (.ref b36), .val (.double (FP.l2d ((p3.toInt64) + (0 : Int64)))), .second, .val (.double xg), .second, .unset, .unset, .unset, .unset, .unset, .unset, .unset, .unset, .unset] [(.long (p3.toInt64)), (.long (2 : Int64))])
    refine DoneW.go (fun _ kt_ => XS.lmul X39h.here hx rfl (hb hby at_60) rfl kt_) ?_
    show DoneW p e s below _ _ _ T39 (mkF m 61 #[.val (.int p0), .val (.int p1), .val (.int p2), .val (.int p3), .val (.int p4), .val (.int (p1 &&& (2147483647 : Int32))), .val (.int (p4 &&& (1 : Int32))), .val (.ref b36), .val (.double (FP.l2d ((p3.toInt64) + (0 : Int64)))), .second, .val (.double xg), .second, .unset, .unset, .unset, .unset, .unset, .unset, .unset, .unset, .unset] [(.long ((2 : Int64) * (p3.toInt64)))])
    refine DoneW.go (fun _ kt_ => XS.iload X39h.here hx rfl (hb hby at_61) rfl kt_) ?_
    show DoneW p e s below _ _ _ T39 (mkF m 63 #[.val (.int p0), .val (.int p1), .val (.int p2), .val (.int p3), .val (.int p4), .val (.int (p1 &&& (2147483647 : Int32))), .val (.int (p4 &&& (1 : Int32))), .val (.ref b36), .val (.double (FP.l2d ((p3.toInt64) + (0 : Int64)))), .second, .val (.double xg), .second, .unset, .unset, .unset, .unset, .unset, .unset, .unset, .unset, .unset] [(.int (p4 &&& (1 : Int32))), (.long ((2 : Int64) * (p3.toInt64)))])
    refine DoneW.go (fun _ kt_ => XS.i2l X39h.here hx rfl (hb hby at_63) rfl kt_) ?_
    show DoneW p e s below _ _ _ T39 (mkF m 64 #[.val (.int p0), .val (.int p1), .val (.int p2), .val (.int p3), .val (.int p4), .val (.int (p1 &&& (2147483647 : Int32))), .val (.int (p4 &&& (1 : Int32))), .val (.ref b36), .val (.double (FP.l2d ((p3.toInt64) + (0 : Int64)))), .second, .val (.double xg), .second, .unset, .unset, .unset, .unset, .unset, .unset, .unset, .unset, .unset] [(.long ((p4 &&& (1 : Int32)).toInt64)), (.long ((2 : Int64) * (p3.toInt64)))])
    refine DoneW.go (fun _ kt_ => XS.ladd X39h.here hx rfl (hb hby at_64) rfl kt_) ?_
    show DoneW p e s below _ _ _ T39 (mkF m 65 #[.val (.int p0), .val (.int p1), .val (.int p2), .val (.int p3), .val (.int p4), .val (.int (p1 &&& (2147483647 : Int32))), .val (.int (p4 &&& (1 : Int32))), .val (.ref b36), .val (.double (FP.l2d ((p3.toInt64) + (0 : Int64)))), .second, .val (.double xg), .second, .unset, .unset, .unset, .unset, .unset, .unset, .unset, .unset, .unset] [(.long (((2 : Int64) * (p3.toInt64)) + ((p4 &&& (1 : Int32)).toInt64)))])
    refine DoneW.go (fun _ kt_ => XS.lstore X39h.here hx rfl (hb hby at_65) rfl (l' := #[.val (.int p0), .val (.int p1), .val (.int p2), .val (.int p3), .val (.int p4), .val (.int (p1 &&& (2147483647 : Int32))), .val (.int (p4 &&& (1 : Int32))), .val (.ref b36), .val (.double (FP.l2d ((p3.toInt64) + (0 : Int64)))), .second, .val (.double xg), .second, .val (.long (((2 : Int64) * (p3.toInt64)) + ((p4 &&& (1 : Int32)).toInt64))), .second, .unset, .unset, .unset, .unset, .unset, .unset, .unset]) rfl kt_) ?_
    show DoneW p e s below _ _ _ T39 (mkF m 67 #[.val (.int p0), .val (.int p1), .val (.int p2), .val (.int p3), .val (.int p4), .val (.int (p1 &&& (2147483647 : Int32))), .val (.int (p4 &&& (1 : Int32))), .val (.ref b36), .val (.double (FP.l2d ((p3.toInt64) + (0 : Int64)))), .second, .val (.double xg), .second, .val (.long (((2 : Int64) * (p3.toInt64)) + ((p4 &&& (1 : Int32)).toInt64))), .second, .unset, .unset, .unset, .unset, .unset, .unset, .unset] [])
    refine DoneW.go (fun t_ kt_ => X39h.ldc2Long hx hown (mvT hZ (hw _ (List.mem_of_getElem? (i := 62) rfl))) (g := (mkF m 67 #[.val (.int p0), .val (.int p1), .val (.int p2), .val (.int p3), .val (.int p4), .val (.int (p1 &&& (2147483647 : Int32))), .val (.int (p4 &&& (1 : Int32))), .val (.ref b36), .val (.double (FP.l2d ((p3.toInt64) + (0 : Int64)))), .second, .val (.double xg), .second, .val (.long (((2 : Int64) * (p3.toInt64)) + ((p4 &&& (1 : Int32)).toInt64))), .second, .unset, .unset, .unset, .unset, .unset, .unset, .unset] [])) rfl (hb hby at_67) t_ kt_) ?_
    show DoneW p e s below _ _ _ T39 (mkF m 70 #[.val (.int p0), .val (.int p1), .val (.int p2), .val (.int p3), .val (.int p4), .val (.int (p1 &&& (2147483647 : Int32))), .val (.int (p4 &&& (1 : Int32))), .val (.ref b36), .val (.double (FP.l2d ((p3.toInt64) + (0 : Int64)))), .second, .val (.double xg), .second, .val (.long (((2 : Int64) * (p3.toInt64)) + ((p4 &&& (1 : Int32)).toInt64))), .second, .unset, .unset, .unset, .unset, .unset, .unset, .unset] [(.long (2 : Int64))])
    refine DoneW.go (fun _ kt_ => XS.iloadN X39h.here hx rfl (hb hby at_70) rfl kt_) ?_
    show DoneW p e s below _ _ _ T39 (mkF m 71 #[.val (.int p0), .val (.int p1), .val (.int p2), .val (.int p3), .val (.int p4), .val (.int (p1 &&& (2147483647 : Int32))), .val (.int (p4 &&& (1 : Int32))), .val (.ref b36), .val (.double (FP.l2d ((p3.toInt64) + (0 : Int64)))), .second, .val (.double xg), .second, .val (.long (((2 : Int64) * (p3.toInt64)) + ((p4 &&& (1 : Int32)).toInt64))), .second, .unset, .unset, .unset, .unset, .unset, .unset, .unset] [(.int p0), (.long (2 : Int64))])
    refine DoneW.go (fun _ kt_ => XS.i2l X39h.here hx rfl (hb hby at_71) rfl kt_) ?_
    show DoneW p e s below _ _ _ T39 (mkF m 72 #[.val (.int p0), .val (.int p1), .val (.int p2), .val (.int p3), .val (.int p4), .val (.int (p1 &&& (2147483647 : Int32))), .val (.int (p4 &&& (1 : Int32))), .val (.ref b36), .val (.double (FP.l2d ((p3.toInt64) + (0 : Int64)))), .second, .val (.double xg), .second, .val (.long (((2 : Int64) * (p3.toInt64)) + ((p4 &&& (1 : Int32)).toInt64))), .second, .unset, .unset, .unset, .unset, .unset, .unset, .unset] [(.long (p0.toInt64)), (.long (2 : Int64))])
    refine DoneW.go (fun _ kt_ => XS.lmul X39h.here hx rfl (hb hby at_72) rfl kt_) ?_
    show DoneW p e s below _ _ _ T39 (mkF m 73 #[.val (.int p0), .val (.int p1), .val (.int p2), .val (.int p3), .val (.int p4), .val (.int (p1 &&& (2147483647 : Int32))), .val (.int (p4 &&& (1 : Int32))), .val (.ref b36), .val (.double (FP.l2d ((p3.toInt64) + (0 : Int64)))), .second, .val (.double xg), .second, .val (.long (((2 : Int64) * (p3.toInt64)) + ((p4 &&& (1 : Int32)).toInt64))), .second, .unset, .unset, .unset, .unset, .unset, .unset, .unset] [(.long ((2 : Int64) * (p0.toInt64)))])
    refine DoneW.go (fun _ kt_ => XS.lstore X39h.here hx rfl (hb hby at_73) rfl (l' := #[.val (.int p0), .val (.int p1), .val (.int p2), .val (.int p3), .val (.int p4), .val (.int (p1 &&& (2147483647 : Int32))), .val (.int (p4 &&& (1 : Int32))), .val (.ref b36), .val (.double (FP.l2d ((p3.toInt64) + (0 : Int64)))), .second, .val (.double xg), .second, .val (.long (((2 : Int64) * (p3.toInt64)) + ((p4 &&& (1 : Int32)).toInt64))), .second, .val (.long ((2 : Int64) * (p0.toInt64))), .second, .unset, .unset, .unset, .unset, .unset]) rfl kt_) ?_
    show DoneW p e s below _ _ _ T39 (mkF m 75 #[.val (.int p0), .val (.int p1), .val (.int p2), .val (.int p3), .val (.int p4), .val (.int (p1 &&& (2147483647 : Int32))), .val (.int (p4 &&& (1 : Int32))), .val (.ref b36), .val (.double (FP.l2d ((p3.toInt64) + (0 : Int64)))), .second, .val (.double xg), .second, .val (.long (((2 : Int64) * (p3.toInt64)) + ((p4 &&& (1 : Int32)).toInt64))), .second, .val (.long ((2 : Int64) * (p0.toInt64))), .second, .unset, .unset, .unset, .unset, .unset] [])
    refine DoneW.go (fun t_ kt_ => X39h.ldc2Long hx hown (mvT hZ (hw _ (List.mem_of_getElem? (i := 62) rfl))) (g := (mkF m 75 #[.val (.int p0), .val (.int p1), .val (.int p2), .val (.int p3), .val (.int p4), .val (.int (p1 &&& (2147483647 : Int32))), .val (.int (p4 &&& (1 : Int32))), .val (.ref b36), .val (.double (FP.l2d ((p3.toInt64) + (0 : Int64)))), .second, .val (.double xg), .second, .val (.long (((2 : Int64) * (p3.toInt64)) + ((p4 &&& (1 : Int32)).toInt64))), .second, .val (.long ((2 : Int64) * (p0.toInt64))), .second, .unset, .unset, .unset, .unset, .unset] [])) rfl (hb hby at_75) t_ kt_) ?_
    show DoneW p e s below _ _ _ T39 (mkF m 78 #[.val (.int p0), .val (.int p1), .val (.int p2), .val (.int p3), .val (.int p4), .val (.int (p1 &&& (2147483647 : Int32))), .val (.int (p4 &&& (1 : Int32))), .val (.ref b36), .val (.double (FP.l2d ((p3.toInt64) + (0 : Int64)))), .second, .val (.double xg), .second, .val (.long (((2 : Int64) * (p3.toInt64)) + ((p4 &&& (1 : Int32)).toInt64))), .second, .val (.long ((2 : Int64) * (p0.toInt64))), .second, .unset, .unset, .unset, .unset, .unset] [(.long (2 : Int64))])
    refine DoneW.go (fun _ kt_ => XS.iloadN X39h.here hx rfl (hb hby at_78) rfl kt_) ?_
    show DoneW p e s below _ _ _ T39 (mkF m 79 #[.val (.int p0), .val (.int p1), .val (.int p2), .val (.int p3), .val (.int p4), .val (.int (p1 &&& (2147483647 : Int32))), .val (.int (p4 &&& (1 : Int32))), .val (.ref b36), .val (.double (FP.l2d ((p3.toInt64) + (0 : Int64)))), .second, .val (.double xg), .second, .val (.long (((2 : Int64) * (p3.toInt64)) + ((p4 &&& (1 : Int32)).toInt64))), .second, .val (.long ((2 : Int64) * (p0.toInt64))), .second, .unset, .unset, .unset, .unset, .unset] [(.int p0), (.long (2 : Int64))])
    refine DoneW.go (fun _ kt_ => XS.i2l X39h.here hx rfl (hb hby at_79) rfl kt_) ?_
    show DoneW p e s below _ _ _ T39 (mkF m 80 #[.val (.int p0), .val (.int p1), .val (.int p2), .val (.int p3), .val (.int p4), .val (.int (p1 &&& (2147483647 : Int32))), .val (.int (p4 &&& (1 : Int32))), .val (.ref b36), .val (.double (FP.l2d ((p3.toInt64) + (0 : Int64)))), .second, .val (.double xg), .second, .val (.long (((2 : Int64) * (p3.toInt64)) + ((p4 &&& (1 : Int32)).toInt64))), .second, .val (.long ((2 : Int64) * (p0.toInt64))), .second, .unset, .unset, .unset, .unset, .unset] [(.long (p0.toInt64)), (.long (2 : Int64))])
    refine DoneW.go (fun _ kt_ => XS.iload X39h.here hx rfl (hb hby at_80) rfl kt_) ?_
    show DoneW p e s below _ _ _ T39 (mkF m 82 #[.val (.int p0), .val (.int p1), .val (.int p2), .val (.int p3), .val (.int p4), .val (.int (p1 &&& (2147483647 : Int32))), .val (.int (p4 &&& (1 : Int32))), .val (.ref b36), .val (.double (FP.l2d ((p3.toInt64) + (0 : Int64)))), .second, .val (.double xg), .second, .val (.long (((2 : Int64) * (p3.toInt64)) + ((p4 &&& (1 : Int32)).toInt64))), .second, .val (.long ((2 : Int64) * (p0.toInt64))), .second, .unset, .unset, .unset, .unset, .unset] [(.int (p1 &&& (2147483647 : Int32))), (.long (p0.toInt64)), (.long (2 : Int64))])
    refine DoneW.go (fun _ kt_ => XS.i2l X39h.here hx rfl (hb hby at_82) rfl kt_) ?_
    show DoneW p e s below _ _ _ T39 (mkF m 83 #[.val (.int p0), .val (.int p1), .val (.int p2), .val (.int p3), .val (.int p4), .val (.int (p1 &&& (2147483647 : Int32))), .val (.int (p4 &&& (1 : Int32))), .val (.ref b36), .val (.double (FP.l2d ((p3.toInt64) + (0 : Int64)))), .second, .val (.double xg), .second, .val (.long (((2 : Int64) * (p3.toInt64)) + ((p4 &&& (1 : Int32)).toInt64))), .second, .val (.long ((2 : Int64) * (p0.toInt64))), .second, .unset, .unset, .unset, .unset, .unset] [(.long ((p1 &&& (2147483647 : Int32)).toInt64)), (.long (p0.toInt64)), (.long (2 : Int64))])
    refine DoneW.go (fun _ kt_ => XS.ladd X39h.here hx rfl (hb hby at_83) rfl kt_) ?_
    show DoneW p e s below _ _ _ T39 (mkF m 84 #[.val (.int p0), .val (.int p1), .val (.int p2), .val (.int p3), .val (.int p4), .val (.int (p1 &&& (2147483647 : Int32))), .val (.int (p4 &&& (1 : Int32))), .val (.ref b36), .val (.double (FP.l2d ((p3.toInt64) + (0 : Int64)))), .second, .val (.double xg), .second, .val (.long (((2 : Int64) * (p3.toInt64)) + ((p4 &&& (1 : Int32)).toInt64))), .second, .val (.long ((2 : Int64) * (p0.toInt64))), .second, .unset, .unset, .unset, .unset, .unset] [(.long ((p0.toInt64) + ((p1 &&& (2147483647 : Int32)).toInt64))), (.long (2 : Int64))])
    refine DoneW.go (fun _ kt_ => XS.lmul X39h.here hx rfl (hb hby at_84) rfl kt_) ?_
    show DoneW p e s below _ _ _ T39 (mkF m 85 #[.val (.int p0), .val (.int p1), .val (.int p2), .val (.int p3), .val (.int p4), .val (.int (p1 &&& (2147483647 : Int32))), .val (.int (p4 &&& (1 : Int32))), .val (.ref b36), .val (.double (FP.l2d ((p3.toInt64) + (0 : Int64)))), .second, .val (.double xg), .second, .val (.long (((2 : Int64) * (p3.toInt64)) + ((p4 &&& (1 : Int32)).toInt64))), .second, .val (.long ((2 : Int64) * (p0.toInt64))), .second, .unset, .unset, .unset, .unset, .unset] [(.long ((2 : Int64) * ((p0.toInt64) + ((p1 &&& (2147483647 : Int32)).toInt64))))])
    refine DoneW.go (fun _ kt_ => XS.lstore X39h.here hx rfl (hb hby at_85) rfl (l' := #[.val (.int p0), .val (.int p1), .val (.int p2), .val (.int p3), .val (.int p4), .val (.int (p1 &&& (2147483647 : Int32))), .val (.int (p4 &&& (1 : Int32))), .val (.ref b36), .val (.double (FP.l2d ((p3.toInt64) + (0 : Int64)))), .second, .val (.double xg), .second, .val (.long (((2 : Int64) * (p3.toInt64)) + ((p4 &&& (1 : Int32)).toInt64))), .second, .val (.long ((2 : Int64) * (p0.toInt64))), .second, .val (.long ((2 : Int64) * ((p0.toInt64) + ((p1 &&& (2147483647 : Int32)).toInt64)))), .second, .unset, .unset, .unset]) rfl kt_) ?_
    show DoneW p e s below _ _ _ T39 (mkF m 87 #[.val (.int p0), .val (.int p1), .val (.int p2), .val (.int p3), .val (.int p4), .val (.int (p1 &&& (2147483647 : Int32))), .val (.int (p4 &&& (1 : Int32))), .val (.ref b36), .val (.double (FP.l2d ((p3.toInt64) + (0 : Int64)))), .second, .val (.double xg), .second, .val (.long (((2 : Int64) * (p3.toInt64)) + ((p4 &&& (1 : Int32)).toInt64))), .second, .val (.long ((2 : Int64) * (p0.toInt64))), .second, .val (.long ((2 : Int64) * ((p0.toInt64) + ((p1 &&& (2147483647 : Int32)).toInt64)))), .second, .unset, .unset, .unset] [])
    refine DoneW.go (fun _ kt_ => XS.lload X39h.here hx rfl (hb hby at_87) rfl kt_) ?_
    show DoneW p e s below _ _ _ T39 (mkF m 89 #[.val (.int p0), .val (.int p1), .val (.int p2), .val (.int p3), .val (.int p4), .val (.int (p1 &&& (2147483647 : Int32))), .val (.int (p4 &&& (1 : Int32))), .val (.ref b36), .val (.double (FP.l2d ((p3.toInt64) + (0 : Int64)))), .second, .val (.double xg), .second, .val (.long (((2 : Int64) * (p3.toInt64)) + ((p4 &&& (1 : Int32)).toInt64))), .second, .val (.long ((2 : Int64) * (p0.toInt64))), .second, .val (.long ((2 : Int64) * ((p0.toInt64) + ((p1 &&& (2147483647 : Int32)).toInt64)))), .second, .unset, .unset, .unset] [(.long ((2 : Int64) * (p0.toInt64)))])
    refine DoneW.go (fun _ kt_ => XS.lload X39h.here hx rfl (hb hby at_89) rfl kt_) ?_
    show DoneW p e s below _ _ _ T39 (mkF m 91 #[.val (.int p0), .val (.int p1), .val (.int p2), .val (.int p3), .val (.int p4), .val (.int (p1 &&& (2147483647 : Int32))), .val (.int (p4 &&& (1 : Int32))), .val (.ref b36), .val (.double (FP.l2d ((p3.toInt64) + (0 : Int64)))), .second, .val (.double xg), .second, .val (.long (((2 : Int64) * (p3.toInt64)) + ((p4 &&& (1 : Int32)).toInt64))), .second, .val (.long ((2 : Int64) * (p0.toInt64))), .second, .val (.long ((2 : Int64) * ((p0.toInt64) + ((p1 &&& (2147483647 : Int32)).toInt64)))), .second, .unset, .unset, .unset] [(.long (((2 : Int64) * (p3.toInt64)) + ((p4 &&& (1 : Int32)).toInt64))), (.long ((2 : Int64) * (p0.toInt64)))])
    refine DoneW.go (fun _ kt_ => XS.lcmp X39h.here hx rfl (hb hby at_91) rfl kt_) ?_
    show DoneW p e s below _ _ _ T39 (mkF m 92 #[.val (.int p0), .val (.int p1), .val (.int p2), .val (.int p3), .val (.int p4), .val (.int (p1 &&& (2147483647 : Int32))), .val (.int (p4 &&& (1 : Int32))), .val (.ref b36), .val (.double (FP.l2d ((p3.toInt64) + (0 : Int64)))), .second, .val (.double xg), .second, .val (.long (((2 : Int64) * (p3.toInt64)) + ((p4 &&& (1 : Int32)).toInt64))), .second, .val (.long ((2 : Int64) * (p0.toInt64))), .second, .val (.long ((2 : Int64) * ((p0.toInt64) + ((p1 &&& (2147483647 : Int32)).toInt64)))), .second, .unset, .unset, .unset] [(.int (lcmpW ((2 : Int64) * (p0.toInt64)) (((2 : Int64) * (p3.toInt64)) + ((p4 &&& (1 : Int32)).toInt64))))])
    by_cases hc92 : (0 : Int32) < (lcmpW ((2 : Int64) * (p0.toInt64)) (((2 : Int64) * (p3.toInt64)) + ((p4 &&& (1 : Int32)).toInt64)))
    · skip
      refine DoneW.go (fun _ kt_ => XS.ifYes X39h.here hx rfl (pc0 := 92) (pc' := 107) rfl (hb hby at_92) rfl ((if0 _ _).trans (tlt hc92).2.2.1) (by decide) (by decide) kt_) ?_
      show DoneW p e s below _ _ _ T39 (mkF m 107 #[.val (.int p0), .val (.int p1), .val (.int p2), .val (.int p3), .val (.int p4), .val (.int (p1 &&& (2147483647 : Int32))), .val (.int (p4 &&& (1 : Int32))), .val (.ref b36), .val (.double (FP.l2d ((p3.toInt64) + (0 : Int64)))), .second, .val (.double xg), .second, .val (.long (((2 : Int64) * (p3.toInt64)) + ((p4 &&& (1 : Int32)).toInt64))), .second, .val (.long ((2 : Int64) * (p0.toInt64))), .second, .val (.long ((2 : Int64) * ((p0.toInt64) + ((p1 &&& (2147483647 : Int32)).toInt64)))), .second, .unset, .unset, .unset] [])
      refine DoneW.go (fun _ kt_ => XS.iconst X39h.here hx rfl (hb hby at_107) kt_) ?_
      show DoneW p e s below _ _ _ T39 (mkF m 108 #[.val (.int p0), .val (.int p1), .val (.int p2), .val (.int p3), .val (.int p4), .val (.int (p1 &&& (2147483647 : Int32))), .val (.int (p4 &&& (1 : Int32))), .val (.ref b36), .val (.double (FP.l2d ((p3.toInt64) + (0 : Int64)))), .second, .val (.double xg), .second, .val (.long (((2 : Int64) * (p3.toInt64)) + ((p4 &&& (1 : Int32)).toInt64))), .second, .val (.long ((2 : Int64) * (p0.toInt64))), .second, .val (.long ((2 : Int64) * ((p0.toInt64) + ((p1 &&& (2147483647 : Int32)).toInt64)))), .second, .unset, .unset, .unset] [(.int (0 : Int32))])
      refine DoneW.go (fun _ kt_ => XS.istore X39h.here hx rfl (hb hby at_108) rfl (l' := #[.val (.int p0), .val (.int p1), .val (.int p2), .val (.int p3), .val (.int p4), .val (.int (p1 &&& (2147483647 : Int32))), .val (.int (p4 &&& (1 : Int32))), .val (.ref b36), .val (.double (FP.l2d ((p3.toInt64) + (0 : Int64)))), .second, .val (.double xg), .second, .val (.long (((2 : Int64) * (p3.toInt64)) + ((p4 &&& (1 : Int32)).toInt64))), .second, .val (.long ((2 : Int64) * (p0.toInt64))), .second, .val (.long ((2 : Int64) * ((p0.toInt64) + ((p1 &&& (2147483647 : Int32)).toInt64)))), .second, .val (.int (0 : Int32)), .unset, .unset]) rfl kt_) ?_
      show DoneW p e s below _ _ _ T39 (mkF m 110 #[.val (.int p0), .val (.int p1), .val (.int p2), .val (.int p3), .val (.int p4), .val (.int (p1 &&& (2147483647 : Int32))), .val (.int (p4 &&& (1 : Int32))), .val (.ref b36), .val (.double (FP.l2d ((p3.toInt64) + (0 : Int64)))), .second, .val (.double xg), .second, .val (.long (((2 : Int64) * (p3.toInt64)) + ((p4 &&& (1 : Int32)).toInt64))), .second, .val (.long ((2 : Int64) * (p0.toInt64))), .second, .val (.long ((2 : Int64) * ((p0.toInt64) + ((p1 &&& (2147483647 : Int32)).toInt64)))), .second, .val (.int (0 : Int32)), .unset, .unset] [])
      refine DoneW.go (fun _ kt_ => XS.iload X39h.here hx rfl (hb hby at_110) rfl kt_) ?_
      show DoneW p e s below _ _ _ T39 (mkF m 112 #[.val (.int p0), .val (.int p1), .val (.int p2), .val (.int p3), .val (.int p4), .val (.int (p1 &&& (2147483647 : Int32))), .val (.int (p4 &&& (1 : Int32))), .val (.ref b36), .val (.double (FP.l2d ((p3.toInt64) + (0 : Int64)))), .second, .val (.double xg), .second, .val (.long (((2 : Int64) * (p3.toInt64)) + ((p4 &&& (1 : Int32)).toInt64))), .second, .val (.long ((2 : Int64) * (p0.toInt64))), .second, .val (.long ((2 : Int64) * ((p0.toInt64) + ((p1 &&& (2147483647 : Int32)).toInt64)))), .second, .val (.int (0 : Int32)), .unset, .unset] [(.int (0 : Int32))])
      refine DoneW.go (fun _ kt_ => XS.ifYes X39h.here hx rfl (pc0 := 112) (pc' := 120) rfl (hb hby at_112) rfl ((if0 _ _).trans (teq rfl).1) (by decide) (by decide) kt_) ?_
      show DoneW p e s below _ _ _ T39 (mkF m 120 #[.val (.int p0), .val (.int p1), .val (.int p2), .val (.int p3), .val (.int p4), .val (.int (p1 &&& (2147483647 : Int32))), .val (.int (p4 &&& (1 : Int32))), .val (.ref b36), .val (.double (FP.l2d ((p3.toInt64) + (0 : Int64)))), .second, .val (.double xg), .second, .val (.long (((2 : Int64) * (p3.toInt64)) + ((p4 &&& (1 : Int32)).toInt64))), .second, .val (.long ((2 : Int64) * (p0.toInt64))), .second, .val (.long ((2 : Int64) * ((p0.toInt64) + ((p1 &&& (2147483647 : Int32)).toInt64)))), .second, .val (.int (0 : Int32)), .unset, .unset] [])
      refine DoneW.go (fun _ kt_ => XS.dconst0 X39h.here hx rfl (hb hby at_120) own_d0 kt_) ?_
      show DoneW p e s below _ _ _ T39 (mkF m 121 #[.val (.int p0), .val (.int p1), .val (.int p2), .val (.int p3), .val (.int p4), .val (.int (p1 &&& (2147483647 : Int32))), .val (.int (p4 &&& (1 : Int32))), .val (.ref b36), .val (.double (FP.l2d ((p3.toInt64) + (0 : Int64)))), .second, .val (.double xg), .second, .val (.long (((2 : Int64) * (p3.toInt64)) + ((p4 &&& (1 : Int32)).toInt64))), .second, .val (.long ((2 : Int64) * (p0.toInt64))), .second, .val (.long ((2 : Int64) * ((p0.toInt64) + ((p1 &&& (2147483647 : Int32)).toInt64)))), .second, .val (.int (0 : Int32)), .unset, .unset] [(.double (FP.l2d (0 : Int64)))])
      refine DoneW.go (fun _ kt_ => XS.dstore X39h.here hx rfl (hb hby at_121) rfl (l' := #[.val (.int p0), .val (.int p1), .val (.int p2), .val (.int p3), .val (.int p4), .val (.int (p1 &&& (2147483647 : Int32))), .val (.int (p4 &&& (1 : Int32))), .val (.ref b36), .val (.double (FP.l2d ((p3.toInt64) + (0 : Int64)))), .second, .val (.double xg), .second, .val (.long (((2 : Int64) * (p3.toInt64)) + ((p4 &&& (1 : Int32)).toInt64))), .second, .val (.long ((2 : Int64) * (p0.toInt64))), .second, .val (.long ((2 : Int64) * ((p0.toInt64) + ((p1 &&& (2147483647 : Int32)).toInt64)))), .second, .val (.int (0 : Int32)), .val (.double (FP.l2d (0 : Int64))), .second]) rfl kt_) ?_
      show DoneW p e s below _ _ _ T39 (mkF m 123 #[.val (.int p0), .val (.int p1), .val (.int p2), .val (.int p3), .val (.int p4), .val (.int (p1 &&& (2147483647 : Int32))), .val (.int (p4 &&& (1 : Int32))), .val (.ref b36), .val (.double (FP.l2d ((p3.toInt64) + (0 : Int64)))), .second, .val (.double xg), .second, .val (.long (((2 : Int64) * (p3.toInt64)) + ((p4 &&& (1 : Int32)).toInt64))), .second, .val (.long ((2 : Int64) * (p0.toInt64))), .second, .val (.long ((2 : Int64) * ((p0.toInt64) + ((p1 &&& (2147483647 : Int32)).toInt64)))), .second, .val (.int (0 : Int32)), .val (.double (FP.l2d (0 : Int64))), .second] [])
      refine DoneW.go (fun _ kt_ => XS.dload X39h.here hx rfl (hb hby at_123) rfl kt_) ?_
      show DoneW p e s below _ _ _ T39 (mkF m 125 #[.val (.int p0), .val (.int p1), .val (.int p2), .val (.int p3), .val (.int p4), .val (.int (p1 &&& (2147483647 : Int32))), .val (.int (p4 &&& (1 : Int32))), .val (.ref b36), .val (.double (FP.l2d ((p3.toInt64) + (0 : Int64)))), .second, .val (.double xg), .second, .val (.long (((2 : Int64) * (p3.toInt64)) + ((p4 &&& (1 : Int32)).toInt64))), .second, .val (.long ((2 : Int64) * (p0.toInt64))), .second, .val (.long ((2 : Int64) * ((p0.toInt64) + ((p1 &&& (2147483647 : Int32)).toInt64)))), .second, .val (.int (0 : Int32)), .val (.double (FP.l2d (0 : Int64))), .second] [(.double xg)])
      refine DoneW.go (fun _ kt_ => XS.dload X39h.here hx rfl (hb hby at_125) rfl kt_) ?_
      show DoneW p e s below _ _ _ T39 (mkF m 127 #[.val (.int p0), .val (.int p1), .val (.int p2), .val (.int p3), .val (.int p4), .val (.int (p1 &&& (2147483647 : Int32))), .val (.int (p4 &&& (1 : Int32))), .val (.ref b36), .val (.double (FP.l2d ((p3.toInt64) + (0 : Int64)))), .second, .val (.double xg), .second, .val (.long (((2 : Int64) * (p3.toInt64)) + ((p4 &&& (1 : Int32)).toInt64))), .second, .val (.long ((2 : Int64) * (p0.toInt64))), .second, .val (.long ((2 : Int64) * ((p0.toInt64) + ((p1 &&& (2147483647 : Int32)).toInt64)))), .second, .val (.int (0 : Int32)), .val (.double (FP.l2d (0 : Int64))), .second] [(.double (FP.l2d (0 : Int64))), (.double xg)])
      have hs_ := own_s p0 p3 (hh := (p4 &&& (1 : Int32)).toInt64) (by omega) (by omega)
      have he_ := own_e p0 p3 (hh := (p4 &&& (1 : Int32)).toInt64) (q := (p1 &&& (2147483647 : Int32)).toInt64) (by omega) (by omega) ⟨by omega, by omega⟩
      obtain rfl : xg = FP.l2d 0 := by
        rcases Dg with ⟨-, q⟩ | ⟨q, -⟩
        · exact absurd q.1 (hs_.mp hc92)
        · exact q
      refine DoneW.go (fun _ kt_ => XS.dcmpS X39h.here hx rfl (hb hby at_127) rfl (dcmpV_self (own_nnW _) _) kt_) ?_
      show DoneW p e s below _ _ _ T39 (mkF m 128 #[.val (.int p0), .val (.int p1), .val (.int p2), .val (.int p3), .val (.int p4), .val (.int (p1 &&& (2147483647 : Int32))), .val (.int (p4 &&& (1 : Int32))), .val (.ref b36), .val (.double (FP.l2d ((p3.toInt64) + (0 : Int64)))), .second, .val (.double (FP.l2d 0)), .second, .val (.long (((2 : Int64) * (p3.toInt64)) + ((p4 &&& (1 : Int32)).toInt64))), .second, .val (.long ((2 : Int64) * (p0.toInt64))), .second, .val (.long ((2 : Int64) * ((p0.toInt64) + ((p1 &&& (2147483647 : Int32)).toInt64)))), .second, .val (.int (0 : Int32)), .val (.double (FP.l2d (0 : Int64))), .second] [(.int (0 : Int32))])
      refine DoneW.go (fun _ kt_ => XS.ifNo X39h.here hx rfl (hb hby at_128) rfl ((if0 _ _).trans (teq rfl).2) kt_) ?_
      show DoneW p e s below _ _ _ T39 (mkF m 131 #[.val (.int p0), .val (.int p1), .val (.int p2), .val (.int p3), .val (.int p4), .val (.int (p1 &&& (2147483647 : Int32))), .val (.int (p4 &&& (1 : Int32))), .val (.ref b36), .val (.double (FP.l2d ((p3.toInt64) + (0 : Int64)))), .second, .val (.double (FP.l2d 0)), .second, .val (.long (((2 : Int64) * (p3.toInt64)) + ((p4 &&& (1 : Int32)).toInt64))), .second, .val (.long ((2 : Int64) * (p0.toInt64))), .second, .val (.long ((2 : Int64) * ((p0.toInt64) + ((p1 &&& (2147483647 : Int32)).toInt64)))), .second, .val (.int (0 : Int32)), .val (.double (FP.l2d (0 : Int64))), .second] [])
      refine DoneW.go (fun _ kt_ => XS.iconst X39h.here hx rfl (hb hby at_131) kt_) ?_
      show DoneW p e s below _ _ _ T39 (mkF m 132 #[.val (.int p0), .val (.int p1), .val (.int p2), .val (.int p3), .val (.int p4), .val (.int (p1 &&& (2147483647 : Int32))), .val (.int (p4 &&& (1 : Int32))), .val (.ref b36), .val (.double (FP.l2d ((p3.toInt64) + (0 : Int64)))), .second, .val (.double (FP.l2d 0)), .second, .val (.long (((2 : Int64) * (p3.toInt64)) + ((p4 &&& (1 : Int32)).toInt64))), .second, .val (.long ((2 : Int64) * (p0.toInt64))), .second, .val (.long ((2 : Int64) * ((p0.toInt64) + ((p1 &&& (2147483647 : Int32)).toInt64)))), .second, .val (.int (0 : Int32)), .val (.double (FP.l2d (0 : Int64))), .second] [(.int (1 : Int32))])
      refine DoneW.go (fun _ kt_ => XS.goto X39h.here hx rfl (pc0 := 132) (pc' := 136) rfl (hb hby at_132) (by decide) (by decide) kt_) ?_
      show DoneW p e s below _ _ _ T39 (mkF m 136 #[.val (.int p0), .val (.int p1), .val (.int p2), .val (.int p3), .val (.int p4), .val (.int (p1 &&& (2147483647 : Int32))), .val (.int (p4 &&& (1 : Int32))), .val (.ref b36), .val (.double (FP.l2d ((p3.toInt64) + (0 : Int64)))), .second, .val (.double (FP.l2d 0)), .second, .val (.long (((2 : Int64) * (p3.toInt64)) + ((p4 &&& (1 : Int32)).toInt64))), .second, .val (.long ((2 : Int64) * (p0.toInt64))), .second, .val (.long ((2 : Int64) * ((p0.toInt64) + ((p1 &&& (2147483647 : Int32)).toInt64)))), .second, .val (.int (0 : Int32)), .val (.double (FP.l2d (0 : Int64))), .second] [(.int (1 : Int32))])
      refine DoneW.retN X39h hx ⟨hlk, _, hS37, (by rw [e39]; exact HK37)⟩ (t := .boolean) hrt (by simp) (z' := (1 : Int32)) rfl (hb hby at_136) ?_ (by first | decide | omega) (by first | decide | omega)
      rw [e39]
      exact ⟨rfl, N39h⟩
    · skip
      refine DoneW.go (fun _ kt_ => XS.ifNo X39h.here hx rfl (hb hby at_92) rfl ((if0 _ _).trans (flt hc92).2.2.1) kt_) ?_
      show DoneW p e s below _ _ _ T39 (mkF m 95 #[.val (.int p0), .val (.int p1), .val (.int p2), .val (.int p3), .val (.int p4), .val (.int (p1 &&& (2147483647 : Int32))), .val (.int (p4 &&& (1 : Int32))), .val (.ref b36), .val (.double (FP.l2d ((p3.toInt64) + (0 : Int64)))), .second, .val (.double xg), .second, .val (.long (((2 : Int64) * (p3.toInt64)) + ((p4 &&& (1 : Int32)).toInt64))), .second, .val (.long ((2 : Int64) * (p0.toInt64))), .second, .val (.long ((2 : Int64) * ((p0.toInt64) + ((p1 &&& (2147483647 : Int32)).toInt64)))), .second, .unset, .unset, .unset] [])
      refine DoneW.go (fun _ kt_ => XS.lload X39h.here hx rfl (hb hby at_95) rfl kt_) ?_
      show DoneW p e s below _ _ _ T39 (mkF m 97 #[.val (.int p0), .val (.int p1), .val (.int p2), .val (.int p3), .val (.int p4), .val (.int (p1 &&& (2147483647 : Int32))), .val (.int (p4 &&& (1 : Int32))), .val (.ref b36), .val (.double (FP.l2d ((p3.toInt64) + (0 : Int64)))), .second, .val (.double xg), .second, .val (.long (((2 : Int64) * (p3.toInt64)) + ((p4 &&& (1 : Int32)).toInt64))), .second, .val (.long ((2 : Int64) * (p0.toInt64))), .second, .val (.long ((2 : Int64) * ((p0.toInt64) + ((p1 &&& (2147483647 : Int32)).toInt64)))), .second, .unset, .unset, .unset] [(.long (((2 : Int64) * (p3.toInt64)) + ((p4 &&& (1 : Int32)).toInt64)))])
      refine DoneW.go (fun _ kt_ => XS.lload X39h.here hx rfl (hb hby at_97) rfl kt_) ?_
      show DoneW p e s below _ _ _ T39 (mkF m 99 #[.val (.int p0), .val (.int p1), .val (.int p2), .val (.int p3), .val (.int p4), .val (.int (p1 &&& (2147483647 : Int32))), .val (.int (p4 &&& (1 : Int32))), .val (.ref b36), .val (.double (FP.l2d ((p3.toInt64) + (0 : Int64)))), .second, .val (.double xg), .second, .val (.long (((2 : Int64) * (p3.toInt64)) + ((p4 &&& (1 : Int32)).toInt64))), .second, .val (.long ((2 : Int64) * (p0.toInt64))), .second, .val (.long ((2 : Int64) * ((p0.toInt64) + ((p1 &&& (2147483647 : Int32)).toInt64)))), .second, .unset, .unset, .unset] [(.long ((2 : Int64) * ((p0.toInt64) + ((p1 &&& (2147483647 : Int32)).toInt64)))), (.long (((2 : Int64) * (p3.toInt64)) + ((p4 &&& (1 : Int32)).toInt64)))])
      refine DoneW.go (fun _ kt_ => XS.lcmp X39h.here hx rfl (hb hby at_99) rfl kt_) ?_
      show DoneW p e s below _ _ _ T39 (mkF m 100 #[.val (.int p0), .val (.int p1), .val (.int p2), .val (.int p3), .val (.int p4), .val (.int (p1 &&& (2147483647 : Int32))), .val (.int (p4 &&& (1 : Int32))), .val (.ref b36), .val (.double (FP.l2d ((p3.toInt64) + (0 : Int64)))), .second, .val (.double xg), .second, .val (.long (((2 : Int64) * (p3.toInt64)) + ((p4 &&& (1 : Int32)).toInt64))), .second, .val (.long ((2 : Int64) * (p0.toInt64))), .second, .val (.long ((2 : Int64) * ((p0.toInt64) + ((p1 &&& (2147483647 : Int32)).toInt64)))), .second, .unset, .unset, .unset] [(.int (lcmpW (((2 : Int64) * (p3.toInt64)) + ((p4 &&& (1 : Int32)).toInt64)) ((2 : Int64) * ((p0.toInt64) + ((p1 &&& (2147483647 : Int32)).toInt64)))))])
      by_cases hc100 : (lcmpW (((2 : Int64) * (p3.toInt64)) + ((p4 &&& (1 : Int32)).toInt64)) ((2 : Int64) * ((p0.toInt64) + ((p1 &&& (2147483647 : Int32)).toInt64)))) < (0 : Int32)
      · skip
        refine DoneW.go (fun _ kt_ => XS.ifNo X39h.here hx rfl (hb hby at_100) rfl ((if0 _ _).trans (tlt hc100).2.1) kt_) ?_
        show DoneW p e s below _ _ _ T39 (mkF m 103 #[.val (.int p0), .val (.int p1), .val (.int p2), .val (.int p3), .val (.int p4), .val (.int (p1 &&& (2147483647 : Int32))), .val (.int (p4 &&& (1 : Int32))), .val (.ref b36), .val (.double (FP.l2d ((p3.toInt64) + (0 : Int64)))), .second, .val (.double xg), .second, .val (.long (((2 : Int64) * (p3.toInt64)) + ((p4 &&& (1 : Int32)).toInt64))), .second, .val (.long ((2 : Int64) * (p0.toInt64))), .second, .val (.long ((2 : Int64) * ((p0.toInt64) + ((p1 &&& (2147483647 : Int32)).toInt64)))), .second, .unset, .unset, .unset] [])
        refine DoneW.go (fun _ kt_ => XS.iconst X39h.here hx rfl (hb hby at_103) kt_) ?_
        show DoneW p e s below _ _ _ T39 (mkF m 104 #[.val (.int p0), .val (.int p1), .val (.int p2), .val (.int p3), .val (.int p4), .val (.int (p1 &&& (2147483647 : Int32))), .val (.int (p4 &&& (1 : Int32))), .val (.ref b36), .val (.double (FP.l2d ((p3.toInt64) + (0 : Int64)))), .second, .val (.double xg), .second, .val (.long (((2 : Int64) * (p3.toInt64)) + ((p4 &&& (1 : Int32)).toInt64))), .second, .val (.long ((2 : Int64) * (p0.toInt64))), .second, .val (.long ((2 : Int64) * ((p0.toInt64) + ((p1 &&& (2147483647 : Int32)).toInt64)))), .second, .unset, .unset, .unset] [(.int (1 : Int32))])
        refine DoneW.go (fun _ kt_ => XS.goto X39h.here hx rfl (pc0 := 104) (pc' := 108) rfl (hb hby at_104) (by decide) (by decide) kt_) ?_
        show DoneW p e s below _ _ _ T39 (mkF m 108 #[.val (.int p0), .val (.int p1), .val (.int p2), .val (.int p3), .val (.int p4), .val (.int (p1 &&& (2147483647 : Int32))), .val (.int (p4 &&& (1 : Int32))), .val (.ref b36), .val (.double (FP.l2d ((p3.toInt64) + (0 : Int64)))), .second, .val (.double xg), .second, .val (.long (((2 : Int64) * (p3.toInt64)) + ((p4 &&& (1 : Int32)).toInt64))), .second, .val (.long ((2 : Int64) * (p0.toInt64))), .second, .val (.long ((2 : Int64) * ((p0.toInt64) + ((p1 &&& (2147483647 : Int32)).toInt64)))), .second, .unset, .unset, .unset] [(.int (1 : Int32))])
        refine DoneW.go (fun _ kt_ => XS.istore X39h.here hx rfl (hb hby at_108) rfl (l' := #[.val (.int p0), .val (.int p1), .val (.int p2), .val (.int p3), .val (.int p4), .val (.int (p1 &&& (2147483647 : Int32))), .val (.int (p4 &&& (1 : Int32))), .val (.ref b36), .val (.double (FP.l2d ((p3.toInt64) + (0 : Int64)))), .second, .val (.double xg), .second, .val (.long (((2 : Int64) * (p3.toInt64)) + ((p4 &&& (1 : Int32)).toInt64))), .second, .val (.long ((2 : Int64) * (p0.toInt64))), .second, .val (.long ((2 : Int64) * ((p0.toInt64) + ((p1 &&& (2147483647 : Int32)).toInt64)))), .second, .val (.int (1 : Int32)), .unset, .unset]) rfl kt_) ?_
        show DoneW p e s below _ _ _ T39 (mkF m 110 #[.val (.int p0), .val (.int p1), .val (.int p2), .val (.int p3), .val (.int p4), .val (.int (p1 &&& (2147483647 : Int32))), .val (.int (p4 &&& (1 : Int32))), .val (.ref b36), .val (.double (FP.l2d ((p3.toInt64) + (0 : Int64)))), .second, .val (.double xg), .second, .val (.long (((2 : Int64) * (p3.toInt64)) + ((p4 &&& (1 : Int32)).toInt64))), .second, .val (.long ((2 : Int64) * (p0.toInt64))), .second, .val (.long ((2 : Int64) * ((p0.toInt64) + ((p1 &&& (2147483647 : Int32)).toInt64)))), .second, .val (.int (1 : Int32)), .unset, .unset] [])
        refine DoneW.go (fun _ kt_ => XS.iload X39h.here hx rfl (hb hby at_110) rfl kt_) ?_
        show DoneW p e s below _ _ _ T39 (mkF m 112 #[.val (.int p0), .val (.int p1), .val (.int p2), .val (.int p3), .val (.int p4), .val (.int (p1 &&& (2147483647 : Int32))), .val (.int (p4 &&& (1 : Int32))), .val (.ref b36), .val (.double (FP.l2d ((p3.toInt64) + (0 : Int64)))), .second, .val (.double xg), .second, .val (.long (((2 : Int64) * (p3.toInt64)) + ((p4 &&& (1 : Int32)).toInt64))), .second, .val (.long ((2 : Int64) * (p0.toInt64))), .second, .val (.long ((2 : Int64) * ((p0.toInt64) + ((p1 &&& (2147483647 : Int32)).toInt64)))), .second, .val (.int (1 : Int32)), .unset, .unset] [(.int (1 : Int32))])
        refine DoneW.go (fun _ kt_ => XS.ifNo X39h.here hx rfl (hb hby at_112) rfl ((if0 _ _).trans (feq (by decide)).1) kt_) ?_
        show DoneW p e s below _ _ _ T39 (mkF m 115 #[.val (.int p0), .val (.int p1), .val (.int p2), .val (.int p3), .val (.int p4), .val (.int (p1 &&& (2147483647 : Int32))), .val (.int (p4 &&& (1 : Int32))), .val (.ref b36), .val (.double (FP.l2d ((p3.toInt64) + (0 : Int64)))), .second, .val (.double xg), .second, .val (.long (((2 : Int64) * (p3.toInt64)) + ((p4 &&& (1 : Int32)).toInt64))), .second, .val (.long ((2 : Int64) * (p0.toInt64))), .second, .val (.long ((2 : Int64) * ((p0.toInt64) + ((p1 &&& (2147483647 : Int32)).toInt64)))), .second, .val (.int (1 : Int32)), .unset, .unset] [])
        refine DoneW.go (fun _ kt_ => XS.iloadN X39h.here hx rfl (hb hby at_115) rfl kt_) ?_
        show DoneW p e s below _ _ _ T39 (mkF m 116 #[.val (.int p0), .val (.int p1), .val (.int p2), .val (.int p3), .val (.int p4), .val (.int (p1 &&& (2147483647 : Int32))), .val (.int (p4 &&& (1 : Int32))), .val (.ref b36), .val (.double (FP.l2d ((p3.toInt64) + (0 : Int64)))), .second, .val (.double xg), .second, .val (.long (((2 : Int64) * (p3.toInt64)) + ((p4 &&& (1 : Int32)).toInt64))), .second, .val (.long ((2 : Int64) * (p0.toInt64))), .second, .val (.long ((2 : Int64) * ((p0.toInt64) + ((p1 &&& (2147483647 : Int32)).toInt64)))), .second, .val (.int (1 : Int32)), .unset, .unset] [(.int p2)])
        refine DoneW.go (fun _ kt_ => XS.i2dS X39h.here hx rfl (hb hby at_116) rfl (i2d_w p2) kt_) ?_
        show DoneW p e s below _ _ _ T39 (mkF m 117 #[.val (.int p0), .val (.int p1), .val (.int p2), .val (.int p3), .val (.int p4), .val (.int (p1 &&& (2147483647 : Int32))), .val (.int (p4 &&& (1 : Int32))), .val (.ref b36), .val (.double (FP.l2d ((p3.toInt64) + (0 : Int64)))), .second, .val (.double xg), .second, .val (.long (((2 : Int64) * (p3.toInt64)) + ((p4 &&& (1 : Int32)).toInt64))), .second, .val (.long ((2 : Int64) * (p0.toInt64))), .second, .val (.long ((2 : Int64) * ((p0.toInt64) + ((p1 &&& (2147483647 : Int32)).toInt64)))), .second, .val (.int (1 : Int32)), .unset, .unset] [(.double (FP.l2d (p2.toInt64)))])
        refine DoneW.go (fun _ kt_ => XS.goto X39h.here hx rfl (pc0 := 117) (pc' := 121) rfl (hb hby at_117) (by decide) (by decide) kt_) ?_
        show DoneW p e s below _ _ _ T39 (mkF m 121 #[.val (.int p0), .val (.int p1), .val (.int p2), .val (.int p3), .val (.int p4), .val (.int (p1 &&& (2147483647 : Int32))), .val (.int (p4 &&& (1 : Int32))), .val (.ref b36), .val (.double (FP.l2d ((p3.toInt64) + (0 : Int64)))), .second, .val (.double xg), .second, .val (.long (((2 : Int64) * (p3.toInt64)) + ((p4 &&& (1 : Int32)).toInt64))), .second, .val (.long ((2 : Int64) * (p0.toInt64))), .second, .val (.long ((2 : Int64) * ((p0.toInt64) + ((p1 &&& (2147483647 : Int32)).toInt64)))), .second, .val (.int (1 : Int32)), .unset, .unset] [(.double (FP.l2d (p2.toInt64)))])
        refine DoneW.go (fun _ kt_ => XS.dstore X39h.here hx rfl (hb hby at_121) rfl (l' := #[.val (.int p0), .val (.int p1), .val (.int p2), .val (.int p3), .val (.int p4), .val (.int (p1 &&& (2147483647 : Int32))), .val (.int (p4 &&& (1 : Int32))), .val (.ref b36), .val (.double (FP.l2d ((p3.toInt64) + (0 : Int64)))), .second, .val (.double xg), .second, .val (.long (((2 : Int64) * (p3.toInt64)) + ((p4 &&& (1 : Int32)).toInt64))), .second, .val (.long ((2 : Int64) * (p0.toInt64))), .second, .val (.long ((2 : Int64) * ((p0.toInt64) + ((p1 &&& (2147483647 : Int32)).toInt64)))), .second, .val (.int (1 : Int32)), .val (.double (FP.l2d (p2.toInt64))), .second]) rfl kt_) ?_
        show DoneW p e s below _ _ _ T39 (mkF m 123 #[.val (.int p0), .val (.int p1), .val (.int p2), .val (.int p3), .val (.int p4), .val (.int (p1 &&& (2147483647 : Int32))), .val (.int (p4 &&& (1 : Int32))), .val (.ref b36), .val (.double (FP.l2d ((p3.toInt64) + (0 : Int64)))), .second, .val (.double xg), .second, .val (.long (((2 : Int64) * (p3.toInt64)) + ((p4 &&& (1 : Int32)).toInt64))), .second, .val (.long ((2 : Int64) * (p0.toInt64))), .second, .val (.long ((2 : Int64) * ((p0.toInt64) + ((p1 &&& (2147483647 : Int32)).toInt64)))), .second, .val (.int (1 : Int32)), .val (.double (FP.l2d (p2.toInt64))), .second] [])
        refine DoneW.go (fun _ kt_ => XS.dload X39h.here hx rfl (hb hby at_123) rfl kt_) ?_
        show DoneW p e s below _ _ _ T39 (mkF m 125 #[.val (.int p0), .val (.int p1), .val (.int p2), .val (.int p3), .val (.int p4), .val (.int (p1 &&& (2147483647 : Int32))), .val (.int (p4 &&& (1 : Int32))), .val (.ref b36), .val (.double (FP.l2d ((p3.toInt64) + (0 : Int64)))), .second, .val (.double xg), .second, .val (.long (((2 : Int64) * (p3.toInt64)) + ((p4 &&& (1 : Int32)).toInt64))), .second, .val (.long ((2 : Int64) * (p0.toInt64))), .second, .val (.long ((2 : Int64) * ((p0.toInt64) + ((p1 &&& (2147483647 : Int32)).toInt64)))), .second, .val (.int (1 : Int32)), .val (.double (FP.l2d (p2.toInt64))), .second] [(.double xg)])
        refine DoneW.go (fun _ kt_ => XS.dload X39h.here hx rfl (hb hby at_125) rfl kt_) ?_
        show DoneW p e s below _ _ _ T39 (mkF m 127 #[.val (.int p0), .val (.int p1), .val (.int p2), .val (.int p3), .val (.int p4), .val (.int (p1 &&& (2147483647 : Int32))), .val (.int (p4 &&& (1 : Int32))), .val (.ref b36), .val (.double (FP.l2d ((p3.toInt64) + (0 : Int64)))), .second, .val (.double xg), .second, .val (.long (((2 : Int64) * (p3.toInt64)) + ((p4 &&& (1 : Int32)).toInt64))), .second, .val (.long ((2 : Int64) * (p0.toInt64))), .second, .val (.long ((2 : Int64) * ((p0.toInt64) + ((p1 &&& (2147483647 : Int32)).toInt64)))), .second, .val (.int (1 : Int32)), .val (.double (FP.l2d (p2.toInt64))), .second] [(.double (FP.l2d (p2.toInt64))), (.double xg)])
        have hs_ := own_s p0 p3 (hh := (p4 &&& (1 : Int32)).toInt64) (by omega) (by omega)
        have he_ := own_e p0 p3 (hh := (p4 &&& (1 : Int32)).toInt64) (q := (p1 &&& (2147483647 : Int32)).toInt64) (by omega) (by omega) ⟨by omega, by omega⟩
        obtain rfl : xg = FP.l2d p2.toInt64 := by
          rcases Dg with ⟨q, -⟩ | ⟨-, q⟩
          · exact q
          · exact absurd ⟨Decidable.not_not.mp (fun u => hc92 (hs_.mpr u)), he_.mp hc100⟩ q
        refine DoneW.go (fun _ kt_ => XS.dcmpS X39h.here hx rfl (hb hby at_127) rfl (dcmpV_self (own_nnW _) _) kt_) ?_
        show DoneW p e s below _ _ _ T39 (mkF m 128 #[.val (.int p0), .val (.int p1), .val (.int p2), .val (.int p3), .val (.int p4), .val (.int (p1 &&& (2147483647 : Int32))), .val (.int (p4 &&& (1 : Int32))), .val (.ref b36), .val (.double (FP.l2d ((p3.toInt64) + (0 : Int64)))), .second, .val (.double (FP.l2d p2.toInt64)), .second, .val (.long (((2 : Int64) * (p3.toInt64)) + ((p4 &&& (1 : Int32)).toInt64))), .second, .val (.long ((2 : Int64) * (p0.toInt64))), .second, .val (.long ((2 : Int64) * ((p0.toInt64) + ((p1 &&& (2147483647 : Int32)).toInt64)))), .second, .val (.int (1 : Int32)), .val (.double (FP.l2d (p2.toInt64))), .second] [(.int (0 : Int32))])
        refine DoneW.go (fun _ kt_ => XS.ifNo X39h.here hx rfl (hb hby at_128) rfl ((if0 _ _).trans (teq rfl).2) kt_) ?_
        show DoneW p e s below _ _ _ T39 (mkF m 131 #[.val (.int p0), .val (.int p1), .val (.int p2), .val (.int p3), .val (.int p4), .val (.int (p1 &&& (2147483647 : Int32))), .val (.int (p4 &&& (1 : Int32))), .val (.ref b36), .val (.double (FP.l2d ((p3.toInt64) + (0 : Int64)))), .second, .val (.double (FP.l2d p2.toInt64)), .second, .val (.long (((2 : Int64) * (p3.toInt64)) + ((p4 &&& (1 : Int32)).toInt64))), .second, .val (.long ((2 : Int64) * (p0.toInt64))), .second, .val (.long ((2 : Int64) * ((p0.toInt64) + ((p1 &&& (2147483647 : Int32)).toInt64)))), .second, .val (.int (1 : Int32)), .val (.double (FP.l2d (p2.toInt64))), .second] [])
        refine DoneW.go (fun _ kt_ => XS.iconst X39h.here hx rfl (hb hby at_131) kt_) ?_
        show DoneW p e s below _ _ _ T39 (mkF m 132 #[.val (.int p0), .val (.int p1), .val (.int p2), .val (.int p3), .val (.int p4), .val (.int (p1 &&& (2147483647 : Int32))), .val (.int (p4 &&& (1 : Int32))), .val (.ref b36), .val (.double (FP.l2d ((p3.toInt64) + (0 : Int64)))), .second, .val (.double (FP.l2d p2.toInt64)), .second, .val (.long (((2 : Int64) * (p3.toInt64)) + ((p4 &&& (1 : Int32)).toInt64))), .second, .val (.long ((2 : Int64) * (p0.toInt64))), .second, .val (.long ((2 : Int64) * ((p0.toInt64) + ((p1 &&& (2147483647 : Int32)).toInt64)))), .second, .val (.int (1 : Int32)), .val (.double (FP.l2d (p2.toInt64))), .second] [(.int (1 : Int32))])
        refine DoneW.go (fun _ kt_ => XS.goto X39h.here hx rfl (pc0 := 132) (pc' := 136) rfl (hb hby at_132) (by decide) (by decide) kt_) ?_
        show DoneW p e s below _ _ _ T39 (mkF m 136 #[.val (.int p0), .val (.int p1), .val (.int p2), .val (.int p3), .val (.int p4), .val (.int (p1 &&& (2147483647 : Int32))), .val (.int (p4 &&& (1 : Int32))), .val (.ref b36), .val (.double (FP.l2d ((p3.toInt64) + (0 : Int64)))), .second, .val (.double (FP.l2d p2.toInt64)), .second, .val (.long (((2 : Int64) * (p3.toInt64)) + ((p4 &&& (1 : Int32)).toInt64))), .second, .val (.long ((2 : Int64) * (p0.toInt64))), .second, .val (.long ((2 : Int64) * ((p0.toInt64) + ((p1 &&& (2147483647 : Int32)).toInt64)))), .second, .val (.int (1 : Int32)), .val (.double (FP.l2d (p2.toInt64))), .second] [(.int (1 : Int32))])
        refine DoneW.retN X39h hx ⟨hlk, _, hS37, (by rw [e39]; exact HK37)⟩ (t := .boolean) hrt (by simp) (z' := (1 : Int32)) rfl (hb hby at_136) ?_ (by first | decide | omega) (by first | decide | omega)
        rw [e39]
        exact ⟨rfl, N39h⟩
      · skip
        refine DoneW.go (fun _ kt_ => XS.ifYes X39h.here hx rfl (pc0 := 100) (pc' := 107) rfl (hb hby at_100) rfl ((if0 _ _).trans (flt hc100).2.1) (by decide) (by decide) kt_) ?_
        show DoneW p e s below _ _ _ T39 (mkF m 107 #[.val (.int p0), .val (.int p1), .val (.int p2), .val (.int p3), .val (.int p4), .val (.int (p1 &&& (2147483647 : Int32))), .val (.int (p4 &&& (1 : Int32))), .val (.ref b36), .val (.double (FP.l2d ((p3.toInt64) + (0 : Int64)))), .second, .val (.double xg), .second, .val (.long (((2 : Int64) * (p3.toInt64)) + ((p4 &&& (1 : Int32)).toInt64))), .second, .val (.long ((2 : Int64) * (p0.toInt64))), .second, .val (.long ((2 : Int64) * ((p0.toInt64) + ((p1 &&& (2147483647 : Int32)).toInt64)))), .second, .unset, .unset, .unset] [])
        refine DoneW.go (fun _ kt_ => XS.iconst X39h.here hx rfl (hb hby at_107) kt_) ?_
        show DoneW p e s below _ _ _ T39 (mkF m 108 #[.val (.int p0), .val (.int p1), .val (.int p2), .val (.int p3), .val (.int p4), .val (.int (p1 &&& (2147483647 : Int32))), .val (.int (p4 &&& (1 : Int32))), .val (.ref b36), .val (.double (FP.l2d ((p3.toInt64) + (0 : Int64)))), .second, .val (.double xg), .second, .val (.long (((2 : Int64) * (p3.toInt64)) + ((p4 &&& (1 : Int32)).toInt64))), .second, .val (.long ((2 : Int64) * (p0.toInt64))), .second, .val (.long ((2 : Int64) * ((p0.toInt64) + ((p1 &&& (2147483647 : Int32)).toInt64)))), .second, .unset, .unset, .unset] [(.int (0 : Int32))])
        refine DoneW.go (fun _ kt_ => XS.istore X39h.here hx rfl (hb hby at_108) rfl (l' := #[.val (.int p0), .val (.int p1), .val (.int p2), .val (.int p3), .val (.int p4), .val (.int (p1 &&& (2147483647 : Int32))), .val (.int (p4 &&& (1 : Int32))), .val (.ref b36), .val (.double (FP.l2d ((p3.toInt64) + (0 : Int64)))), .second, .val (.double xg), .second, .val (.long (((2 : Int64) * (p3.toInt64)) + ((p4 &&& (1 : Int32)).toInt64))), .second, .val (.long ((2 : Int64) * (p0.toInt64))), .second, .val (.long ((2 : Int64) * ((p0.toInt64) + ((p1 &&& (2147483647 : Int32)).toInt64)))), .second, .val (.int (0 : Int32)), .unset, .unset]) rfl kt_) ?_
        show DoneW p e s below _ _ _ T39 (mkF m 110 #[.val (.int p0), .val (.int p1), .val (.int p2), .val (.int p3), .val (.int p4), .val (.int (p1 &&& (2147483647 : Int32))), .val (.int (p4 &&& (1 : Int32))), .val (.ref b36), .val (.double (FP.l2d ((p3.toInt64) + (0 : Int64)))), .second, .val (.double xg), .second, .val (.long (((2 : Int64) * (p3.toInt64)) + ((p4 &&& (1 : Int32)).toInt64))), .second, .val (.long ((2 : Int64) * (p0.toInt64))), .second, .val (.long ((2 : Int64) * ((p0.toInt64) + ((p1 &&& (2147483647 : Int32)).toInt64)))), .second, .val (.int (0 : Int32)), .unset, .unset] [])
        refine DoneW.go (fun _ kt_ => XS.iload X39h.here hx rfl (hb hby at_110) rfl kt_) ?_
        show DoneW p e s below _ _ _ T39 (mkF m 112 #[.val (.int p0), .val (.int p1), .val (.int p2), .val (.int p3), .val (.int p4), .val (.int (p1 &&& (2147483647 : Int32))), .val (.int (p4 &&& (1 : Int32))), .val (.ref b36), .val (.double (FP.l2d ((p3.toInt64) + (0 : Int64)))), .second, .val (.double xg), .second, .val (.long (((2 : Int64) * (p3.toInt64)) + ((p4 &&& (1 : Int32)).toInt64))), .second, .val (.long ((2 : Int64) * (p0.toInt64))), .second, .val (.long ((2 : Int64) * ((p0.toInt64) + ((p1 &&& (2147483647 : Int32)).toInt64)))), .second, .val (.int (0 : Int32)), .unset, .unset] [(.int (0 : Int32))])
        refine DoneW.go (fun _ kt_ => XS.ifYes X39h.here hx rfl (pc0 := 112) (pc' := 120) rfl (hb hby at_112) rfl ((if0 _ _).trans (teq rfl).1) (by decide) (by decide) kt_) ?_
        show DoneW p e s below _ _ _ T39 (mkF m 120 #[.val (.int p0), .val (.int p1), .val (.int p2), .val (.int p3), .val (.int p4), .val (.int (p1 &&& (2147483647 : Int32))), .val (.int (p4 &&& (1 : Int32))), .val (.ref b36), .val (.double (FP.l2d ((p3.toInt64) + (0 : Int64)))), .second, .val (.double xg), .second, .val (.long (((2 : Int64) * (p3.toInt64)) + ((p4 &&& (1 : Int32)).toInt64))), .second, .val (.long ((2 : Int64) * (p0.toInt64))), .second, .val (.long ((2 : Int64) * ((p0.toInt64) + ((p1 &&& (2147483647 : Int32)).toInt64)))), .second, .val (.int (0 : Int32)), .unset, .unset] [])
        refine DoneW.go (fun _ kt_ => XS.dconst0 X39h.here hx rfl (hb hby at_120) own_d0 kt_) ?_
        show DoneW p e s below _ _ _ T39 (mkF m 121 #[.val (.int p0), .val (.int p1), .val (.int p2), .val (.int p3), .val (.int p4), .val (.int (p1 &&& (2147483647 : Int32))), .val (.int (p4 &&& (1 : Int32))), .val (.ref b36), .val (.double (FP.l2d ((p3.toInt64) + (0 : Int64)))), .second, .val (.double xg), .second, .val (.long (((2 : Int64) * (p3.toInt64)) + ((p4 &&& (1 : Int32)).toInt64))), .second, .val (.long ((2 : Int64) * (p0.toInt64))), .second, .val (.long ((2 : Int64) * ((p0.toInt64) + ((p1 &&& (2147483647 : Int32)).toInt64)))), .second, .val (.int (0 : Int32)), .unset, .unset] [(.double (FP.l2d (0 : Int64)))])
        refine DoneW.go (fun _ kt_ => XS.dstore X39h.here hx rfl (hb hby at_121) rfl (l' := #[.val (.int p0), .val (.int p1), .val (.int p2), .val (.int p3), .val (.int p4), .val (.int (p1 &&& (2147483647 : Int32))), .val (.int (p4 &&& (1 : Int32))), .val (.ref b36), .val (.double (FP.l2d ((p3.toInt64) + (0 : Int64)))), .second, .val (.double xg), .second, .val (.long (((2 : Int64) * (p3.toInt64)) + ((p4 &&& (1 : Int32)).toInt64))), .second, .val (.long ((2 : Int64) * (p0.toInt64))), .second, .val (.long ((2 : Int64) * ((p0.toInt64) + ((p1 &&& (2147483647 : Int32)).toInt64)))), .second, .val (.int (0 : Int32)), .val (.double (FP.l2d (0 : Int64))), .second]) rfl kt_) ?_
        show DoneW p e s below _ _ _ T39 (mkF m 123 #[.val (.int p0), .val (.int p1), .val (.int p2), .val (.int p3), .val (.int p4), .val (.int (p1 &&& (2147483647 : Int32))), .val (.int (p4 &&& (1 : Int32))), .val (.ref b36), .val (.double (FP.l2d ((p3.toInt64) + (0 : Int64)))), .second, .val (.double xg), .second, .val (.long (((2 : Int64) * (p3.toInt64)) + ((p4 &&& (1 : Int32)).toInt64))), .second, .val (.long ((2 : Int64) * (p0.toInt64))), .second, .val (.long ((2 : Int64) * ((p0.toInt64) + ((p1 &&& (2147483647 : Int32)).toInt64)))), .second, .val (.int (0 : Int32)), .val (.double (FP.l2d (0 : Int64))), .second] [])
        refine DoneW.go (fun _ kt_ => XS.dload X39h.here hx rfl (hb hby at_123) rfl kt_) ?_
        show DoneW p e s below _ _ _ T39 (mkF m 125 #[.val (.int p0), .val (.int p1), .val (.int p2), .val (.int p3), .val (.int p4), .val (.int (p1 &&& (2147483647 : Int32))), .val (.int (p4 &&& (1 : Int32))), .val (.ref b36), .val (.double (FP.l2d ((p3.toInt64) + (0 : Int64)))), .second, .val (.double xg), .second, .val (.long (((2 : Int64) * (p3.toInt64)) + ((p4 &&& (1 : Int32)).toInt64))), .second, .val (.long ((2 : Int64) * (p0.toInt64))), .second, .val (.long ((2 : Int64) * ((p0.toInt64) + ((p1 &&& (2147483647 : Int32)).toInt64)))), .second, .val (.int (0 : Int32)), .val (.double (FP.l2d (0 : Int64))), .second] [(.double xg)])
        refine DoneW.go (fun _ kt_ => XS.dload X39h.here hx rfl (hb hby at_125) rfl kt_) ?_
        show DoneW p e s below _ _ _ T39 (mkF m 127 #[.val (.int p0), .val (.int p1), .val (.int p2), .val (.int p3), .val (.int p4), .val (.int (p1 &&& (2147483647 : Int32))), .val (.int (p4 &&& (1 : Int32))), .val (.ref b36), .val (.double (FP.l2d ((p3.toInt64) + (0 : Int64)))), .second, .val (.double xg), .second, .val (.long (((2 : Int64) * (p3.toInt64)) + ((p4 &&& (1 : Int32)).toInt64))), .second, .val (.long ((2 : Int64) * (p0.toInt64))), .second, .val (.long ((2 : Int64) * ((p0.toInt64) + ((p1 &&& (2147483647 : Int32)).toInt64)))), .second, .val (.int (0 : Int32)), .val (.double (FP.l2d (0 : Int64))), .second] [(.double (FP.l2d (0 : Int64))), (.double xg)])
        have hs_ := own_s p0 p3 (hh := (p4 &&& (1 : Int32)).toInt64) (by omega) (by omega)
        have he_ := own_e p0 p3 (hh := (p4 &&& (1 : Int32)).toInt64) (q := (p1 &&& (2147483647 : Int32)).toInt64) (by omega) (by omega) ⟨by omega, by omega⟩
        obtain rfl : xg = FP.l2d 0 := by
          rcases Dg with ⟨-, q⟩ | ⟨q, -⟩
          · exact absurd (he_.mpr q.2) hc100
          · exact q
        refine DoneW.go (fun _ kt_ => XS.dcmpS X39h.here hx rfl (hb hby at_127) rfl (dcmpV_self (own_nnW _) _) kt_) ?_
        show DoneW p e s below _ _ _ T39 (mkF m 128 #[.val (.int p0), .val (.int p1), .val (.int p2), .val (.int p3), .val (.int p4), .val (.int (p1 &&& (2147483647 : Int32))), .val (.int (p4 &&& (1 : Int32))), .val (.ref b36), .val (.double (FP.l2d ((p3.toInt64) + (0 : Int64)))), .second, .val (.double (FP.l2d 0)), .second, .val (.long (((2 : Int64) * (p3.toInt64)) + ((p4 &&& (1 : Int32)).toInt64))), .second, .val (.long ((2 : Int64) * (p0.toInt64))), .second, .val (.long ((2 : Int64) * ((p0.toInt64) + ((p1 &&& (2147483647 : Int32)).toInt64)))), .second, .val (.int (0 : Int32)), .val (.double (FP.l2d (0 : Int64))), .second] [(.int (0 : Int32))])
        refine DoneW.go (fun _ kt_ => XS.ifNo X39h.here hx rfl (hb hby at_128) rfl ((if0 _ _).trans (teq rfl).2) kt_) ?_
        show DoneW p e s below _ _ _ T39 (mkF m 131 #[.val (.int p0), .val (.int p1), .val (.int p2), .val (.int p3), .val (.int p4), .val (.int (p1 &&& (2147483647 : Int32))), .val (.int (p4 &&& (1 : Int32))), .val (.ref b36), .val (.double (FP.l2d ((p3.toInt64) + (0 : Int64)))), .second, .val (.double (FP.l2d 0)), .second, .val (.long (((2 : Int64) * (p3.toInt64)) + ((p4 &&& (1 : Int32)).toInt64))), .second, .val (.long ((2 : Int64) * (p0.toInt64))), .second, .val (.long ((2 : Int64) * ((p0.toInt64) + ((p1 &&& (2147483647 : Int32)).toInt64)))), .second, .val (.int (0 : Int32)), .val (.double (FP.l2d (0 : Int64))), .second] [])
        refine DoneW.go (fun _ kt_ => XS.iconst X39h.here hx rfl (hb hby at_131) kt_) ?_
        show DoneW p e s below _ _ _ T39 (mkF m 132 #[.val (.int p0), .val (.int p1), .val (.int p2), .val (.int p3), .val (.int p4), .val (.int (p1 &&& (2147483647 : Int32))), .val (.int (p4 &&& (1 : Int32))), .val (.ref b36), .val (.double (FP.l2d ((p3.toInt64) + (0 : Int64)))), .second, .val (.double (FP.l2d 0)), .second, .val (.long (((2 : Int64) * (p3.toInt64)) + ((p4 &&& (1 : Int32)).toInt64))), .second, .val (.long ((2 : Int64) * (p0.toInt64))), .second, .val (.long ((2 : Int64) * ((p0.toInt64) + ((p1 &&& (2147483647 : Int32)).toInt64)))), .second, .val (.int (0 : Int32)), .val (.double (FP.l2d (0 : Int64))), .second] [(.int (1 : Int32))])
        refine DoneW.go (fun _ kt_ => XS.goto X39h.here hx rfl (pc0 := 132) (pc' := 136) rfl (hb hby at_132) (by decide) (by decide) kt_) ?_
        show DoneW p e s below _ _ _ T39 (mkF m 136 #[.val (.int p0), .val (.int p1), .val (.int p2), .val (.int p3), .val (.int p4), .val (.int (p1 &&& (2147483647 : Int32))), .val (.int (p4 &&& (1 : Int32))), .val (.ref b36), .val (.double (FP.l2d ((p3.toInt64) + (0 : Int64)))), .second, .val (.double (FP.l2d 0)), .second, .val (.long (((2 : Int64) * (p3.toInt64)) + ((p4 &&& (1 : Int32)).toInt64))), .second, .val (.long ((2 : Int64) * (p0.toInt64))), .second, .val (.long ((2 : Int64) * ((p0.toInt64) + ((p1 &&& (2147483647 : Int32)).toInt64)))), .second, .val (.int (0 : Int32)), .val (.double (FP.l2d (0 : Int64))), .second] [(.int (1 : Int32))])
        refine DoneW.retN X39h hx ⟨hlk, _, hS37, (by rw [e39]; exact HK37)⟩ (t := .boolean) hrt (by simp) (z' := (1 : Int32)) rfl (hb hby at_136) ?_ (by first | decide | omega) (by first | decide | omega)
        rw [e39]
        exact ⟨rfl, N39h⟩
set_option maxRecDepth 65536 in
set_option maxHeartbeats 40000000 in
theorem comes_1 {Post : Tables → Env → Array Value → State → Outcome → State → Prop} (hpost : ∀ tb e args s v u, (limb_1_1.after args s (.returned v) u = true ∧ limb_1_2.after args s (.returned v) u = true ∧ True) → ReturnedEndW s (.returned v) u (Jvm.fieldLocs frame_1_writes args s ++ Jvm.arrayLocs frame_1_arrays args s ++ Jvm.staticLocs frame_1_statics s) 24 5248 → Post tb e args s (.returned v) u) :
    ArmFor flags0 classFile x code maxLocals ret World_1 tables_1 room_1 Calls_1 rest_1 Pre_1 Post := by
  intro l hfl _ _ p e ha hc hk s m args below hf hA hF happ hP
  obtain ⟨hcalls, hrest, hpre⟩ := hP
  obtain ⟨-, -, -, hnamed, -, -, -, hat⟩ := (Spec.applies_iff hf).mp happ
  obtain ⟨hg, hn⟩ := and_e (Cond.before_iff.mp (show (Jvm.Cond.and given_1 narrow_1).before args s = true from hpre))
  obtain ⟨hcount, hg⟩ := and_e hg
  obtain ⟨hv0, hg⟩ := and_e hg
  obtain ⟨hv1, hg⟩ := and_e hg
  obtain ⟨hv2, hg⟩ := and_e hg
  obtain ⟨hv3, hg⟩ := and_e hg
  have hv4 := hg
  obtain ⟨w0, w1, w2, w3, w4, rfl⟩ : ∃ w0 w1 w2 w3 w4 : Value, args = #[w0, w1, w2, w3, w4] := by
    have hs : args.size = 5 := by simpa [Cond.value, given_1] using hcount
    obtain ⟨L⟩ := args
    match L, hs with
    | [w0, w1, w2, w3, w4], _ => exact ⟨w0, w1, w2, w3, w4, rfl⟩
  have hw := fun d (hd : d ∈ tables_1) => atoms_spec (ws := Jvm.Cond.code x code maxLocals ret :: tables_1) hat d (List.mem_cons_of_mem _ hd)
  have hfit : Fit s := fun {y c} hc i hi => by
    obtain ⟨ha, rfl⟩ := Array.getElem?_eq_some_iff.mp hc
    have q := List.all_eq_true.mp ((Array.all_eq_true_iff_forall_mem.mp hF) _ (Array.getElem_mem ha)) i (List.mem_range.mpr hi)
    simpa [Array.getElem?_eq_getElem hi] using q
  obtain ⟨i0, ei0⟩ := is_v hv0
  obtain rfl : w0 = (.int i0) := Option.some.inj ei0
  obtain ⟨i1, ei1⟩ := is_v hv1
  obtain rfl : w1 = (.int i1) := Option.some.inj ei1
  obtain ⟨i2, ei2⟩ := is_v hv2
  obtain rfl : w2 = (.int i2) := Option.some.inj ei2
  obtain ⟨i3, ei3⟩ := is_v hv3
  obtain rfl : w3 = (.int i3) := Option.some.inj ei3
  obtain ⟨i4, ei4⟩ := is_v hv4
  obtain rfl : w4 = (.int i4) := Option.some.inj ei4
  obtain ⟨n, o, h1, h2, h3, _, L, rfl, ⟨rfl, N⟩, hq⟩ := rm0 l s _ hw tables_1 i0 i1 i2 i3 i4 s.heap s.heap.size (Nat.le_refl _)  p e ha hc hk s m _ below hf ((Spec.applies_iff_loose hf).mp happ).1 ⟨rfl, State.Warmed39.refl s, rfl⟩ trivial
  refine ⟨n, _, h1, h2, h3, hpost _ _ _ _ _ _ ⟨Cond.after_iff.mpr rfl, Cond.after_iff.mpr (eq_i res_at (Term.int_eval (1)) rfl), trivial⟩ ⟨hq.1, hq.2.1, hq.2.2.1, (hq.2.2.2.sift fun y hy => Or.inr (N y hy)).mono (by decide) (by decide)⟩⟩
theorem main_1_1 : Claimed_1_1 := comes_1 fun _ _ _ _ _ _ h hF => ⟨h.1, hF⟩
theorem main_1_2 : Claimed_1_2 := comes_1 fun _ _ _ _ _ _ h hF => ⟨h.2.1, hF⟩
end Jvm.Pilot.@@N@@
namespace Jvm.Pilot.@@N@@
open Jvm Jvm.ClassFile Sem Op Lib Jvm.Free Jvm.Stand Jvm.Pilot.@@N@@.Jvm.D
/-! MADE BY PROGRAM (witnessworld.py) out of the Statement's table words and the real class files: 18 classes; the members and pool entries that the words name. The judged class is class 1, her method 1. -/
namespace start1
open Jvm.ClassFile
def u (s : String) : CpInfo := .utf8 (stringToUtf16 s)
/-- a pool by its gaps: so many unusable entries, then the entry; so many at the end -/
def gap : Nat → List CpInfo → List CpInfo
  | 0, r => r
  | n + 1, r => .unusable :: gap n r
def poolList (es : List (Nat × CpInfo)) (last : Nat) : List CpInfo := es.foldr (fun e r => gap e.1 (e.2 :: r)) (gap last [])
def pool (es : List (Nat × CpInfo)) (last : Nat) : Array CpInfo := ⟨poolList es last⟩
def fileOf (pool : Array CpInfo) (this : Nat) (attrs : Array Attribute := #[]) (ms : Array MethodInfo := #[]) (fl : Nat := 33) (sup : Nat := 0) (ifs : Array Nat := #[]) (fds : Array FieldInfo := #[]) : ClassFile where
  minorVersion := 0
  majorVersion := 65
  constantPool := pool
  accessFlags := fl
  thisClass := this
  superClass := sup
  interfaces := ifs
  fields := fds
  methods := ms
  attributes := attrs
def plain (name : String) (sup : Option ClassId) : Class where
  name := name
  kind := .ordinary
  loader := none
  accessFlags := 33
  super := sup
  interfaces := #[]
  cf := none
  fields := #[]
  methods := #[]
  instanceTypes := #[]
  staticTypes := #[]
  resolved := #[]
  callSites := []
  init := .initialized
  statics := none
  mirror := none

def pool0 : Array CpInfo := pool [(5, u "<init>"), (0, u "()V"), (1, .class_ 10), (1, u "java/lang/Object")] 113

def k0c0 : Code := { maxStack := 0, maxLocals := 1, code := object_method_1_code, exceptionTable := #[], attributes := #[] }
def k0m0 : Method := { name := "<init>", desc := "()V", sig := { parameters := [], returnType := none }, accessFlags := 1, code := some k0c0 }
/-- java/lang/Object -/
def k0 : Class := { plain "java/lang/Object" none with
  accessFlags := 33
  interfaces := #[]
  cf := some (fileOf pool0 8 #[] #[{ accessFlags := 1, nameIndex := 5, descriptorIndex := 6, attributes := #[] }] 33 0 #[] #[])
  fields := #[]
  methods := #[k0m0]
  instanceTypes := #[]
  staticTypes := #[]
  resolved := Array.replicate 124 none
  statics := none }

def pool1 : Array CpInfo := pool [(2, .class_ 4), (1, u "java/lang/Object"), (0, u "<init>"), (0, u "()V"), (0, .integer 2147483647), (0, .class_ 9), (0, u "com/example/citadel_hill/citadelhill/cell/CurrentPulse"), (0, .methodref 8 11), (0, .nameAndType 5 12), (0, u "(DDD)V"), (0, .double 4602678819172646912), (1, .methodref 8 16), (0, .nameAndType 17 18), (0, u "current"), (0, u "(D)D"), (0, .long 2), (1, .class_ 22), (0, u "com/example/citadel_hill/citadelhill/cell/CurrentPulseCurrentPinLaw"), (2, u "law"), (0, u "(IIIII)Z")] 3

def k1m0 : Method := { name := "<init>", desc := "()V", sig := { parameters := [], returnType := none }, accessFlags := 1, code := none }
def k1c1 : Code := { maxStack := 8, maxLocals := 21, code := code, exceptionTable := #[], attributes := #[] }
def k1m1 : Method := { name := "law", desc := "(IIIII)Z", sig := { parameters := [.int, .int, .int, .int, .int], returnType := some .boolean }, accessFlags := 9, code := some k1c1 }
/-- com/example/citadel_hill/citadelhill/cell/CurrentPulseCurrentPinLaw -/
def k1 : Class := { plain "com/example/citadel_hill/citadelhill/cell/CurrentPulseCurrentPinLaw" (some 0) with
  accessFlags := 49
  interfaces := #[]
  cf := some (fileOf pool1 21 #[] #[{ accessFlags := 1, nameIndex := 5, descriptorIndex := 6, attributes := #[] }, { accessFlags := 9, nameIndex := 25, descriptorIndex := 26, attributes := #[] }] 49 2 #[] #[])
  fields := #[]
  methods := #[k1m0, k1m1]
  instanceTypes := #[]
  staticTypes := #[]
  resolved := Array.replicate 30 none
  statics := none }

def pool2 : Array CpInfo := pool [(1, .methodref 2 3), (0, .class_ 4), (0, .nameAndType 5 6), (0, u "java/lang/Object"), (0, u "<init>"), (0, u "()V"), (0, .string 8), (0, u "delay"), (0, .methodref 10 11), (0, .class_ 12), (0, .nameAndType 13 14), (0, u "com/example/citadel_hill/citadelhill/channel/ParameterChecks"), (0, u "requireFinite"), (0, u "(Ljava/lang/String;D)D"), (0, .string 16), (0, u "duration"), (0, .methodref 10 18), (0, .nameAndType 19 14), (0, u "requireNonNegative"), (0, .string 21), (0, u "amplitude"), (0, .fieldref 23 24), (0, .class_ 25), (0, .nameAndType 8 26), (0, u "com/example/citadel_hill/citadelhill/cell/CurrentPulse"), (0, u "D"), (0, .fieldref 23 28), (0, .nameAndType 16 26), (0, .fieldref 23 30), (0, .nameAndType 21 26), (0, .methodref 23 32), (0, .nameAndType 33 34), (0, u "start"), (0, u "()D"), (0, .methodref 23 36), (0, .nameAndType 37 34), (0, u "end"), (16, u "(DDD)V"), (2, u "current"), (0, u "(D)D")] 7

def k2c0 : Code := { maxStack := 3, maxLocals := 7, code := prog_4_method_1_code, exceptionTable := #[], attributes := #[] }
def k2m0 : Method := { name := "<init>", desc := "(DDD)V", sig := { parameters := [.double, .double, .double], returnType := none }, accessFlags := 1, code := some k2c0 }
def k2c1 : Code := { maxStack := 2, maxLocals := 1, code := prog_4_method_2_code, exceptionTable := #[], attributes := #[] }
def k2m1 : Method := { name := "start", desc := "()D", sig := { parameters := [], returnType := some .double }, accessFlags := 1, code := some k2c1 }
def k2c2 : Code := { maxStack := 4, maxLocals := 1, code := prog_4_method_3_code, exceptionTable := #[], attributes := #[] }
def k2m2 : Method := { name := "end", desc := "()D", sig := { parameters := [], returnType := some .double }, accessFlags := 1, code := some k2c2 }
def k2c3 : Code := { maxStack := 4, maxLocals := 3, code := prog_4_method_4_code, exceptionTable := #[], attributes := #[] }
def k2m3 : Method := { name := "current", desc := "(D)D", sig := { parameters := [.double], returnType := some .double }, accessFlags := 1, code := some k2c3 }
/-- com/example/citadel_hill/citadelhill/cell/CurrentPulse -/
def k2 : Class := { plain "com/example/citadel_hill/citadelhill/cell/CurrentPulse" (some 0) with
  accessFlags := 49
  interfaces := #[]
  cf := some (fileOf pool2 23 #[] #[{ accessFlags := 1, nameIndex := 5, descriptorIndex := 54, attributes := #[] }, { accessFlags := 1, nameIndex := 33, descriptorIndex := 34, attributes := #[] }, { accessFlags := 1, nameIndex := 37, descriptorIndex := 34, attributes := #[] }, { accessFlags := 1, nameIndex := 57, descriptorIndex := 58, attributes := #[] }] 49 2 #[] #[{ accessFlags := 18, nameIndex := 8, descriptorIndex := 26, attributes := #[] }, { accessFlags := 18, nameIndex := 16, descriptorIndex := 26, attributes := #[] }, { accessFlags := 18, nameIndex := 21, descriptorIndex := 26, attributes := #[] }])
  fields := #[{ name := "delay", type := .double, accessFlags := 18, slot := 0, constantValue := 0 }, { name := "duration", type := .double, accessFlags := 18, slot := 1, constantValue := 0 }, { name := "amplitude", type := .double, accessFlags := 18, slot := 2, constantValue := 0 }]
  methods := #[k2m0, k2m1, k2m2, k2m3]
  instanceTypes := #[.double, .double, .double]
  staticTypes := #[]
  resolved := Array.replicate 66 none
  statics := none }

def pool3 : Array CpInfo := pool [(1, .class_ 2), (0, u "java/io/Serializable"), (0, .class_ 4), (0, u "java/lang/Object")] 2

/-- java/io/Serializable -/
def k3 : Class := { plain "java/io/Serializable" (some 0) with
  accessFlags := 1537
  interfaces := #[]
  cf := some (fileOf pool3 1 #[] #[] 1537 3 #[] #[])
  fields := #[]
  methods := #[]
  instanceTypes := #[]
  staticTypes := #[]
  resolved := Array.replicate 7 none
  statics := none }

def pool4 : Array CpInfo := pool [(1, .class_ 2), (0, u "java/lang/Comparable"), (0, .class_ 4), (0, u "java/lang/Object")] 7

/-- java/lang/Comparable -/
def k4 : Class := { plain "java/lang/Comparable" (some 0) with
  accessFlags := 1537
  interfaces := #[]
  cf := some (fileOf pool4 1 #[] #[] 1537 3 #[] #[])
  fields := #[]
  methods := #[]
  instanceTypes := #[]
  staticTypes := #[]
  resolved := Array.replicate 12 none
  statics := none }

def pool5 : Array CpInfo := pool [(2, .class_ 4), (1, u "java/lang/CharSequence"), (42, .class_ 48), (0, u "java/lang/CharSequence$1CodePointIterator"), (10, .class_ 60), (0, u "java/lang/CharSequence$1CharIterator"), (5, .class_ 67), (0, u "java/lang/Object")] 63

/-- java/lang/CharSequence -/
def k5 : Class := { plain "java/lang/CharSequence" (some 0) with
  accessFlags := 1537
  interfaces := #[]
  cf := some (fileOf pool5 2 #[.nestMembers #[47, 59]] #[] 1537 66 #[] #[])
  fields := #[]
  methods := #[]
  instanceTypes := #[]
  staticTypes := #[]
  resolved := Array.replicate 131 none
  statics := none }

def pool6 : Array CpInfo := pool [(1, .class_ 2), (0, u "java/lang/constant/Constable"), (0, .class_ 4), (0, u "java/lang/Object")] 6

/-- java/lang/constant/Constable -/
def k6 : Class := { plain "java/lang/constant/Constable" (some 0) with
  accessFlags := 1537
  interfaces := #[]
  cf := some (fileOf pool6 1 #[] #[] 1537 3 #[] #[])
  fields := #[]
  methods := #[]
  instanceTypes := #[]
  staticTypes := #[]
  resolved := Array.replicate 11 none
  statics := none }

def pool7 : Array CpInfo := pool [(1, .class_ 2), (0, u "java/lang/constant/ConstantDesc"), (0, .class_ 4), (0, u "java/lang/Object")] 32

/-- java/lang/constant/ConstantDesc -/
def k7 : Class := { plain "java/lang/constant/ConstantDesc" (some 0) with
  accessFlags := 1537
  interfaces := #[]
  cf := some (fileOf pool7 1 #[] #[] 1537 3 #[] #[])
  fields := #[]
  methods := #[]
  instanceTypes := #[]
  staticTypes := #[]
  resolved := Array.replicate 37 none
  statics := none }

def pool8 : Array CpInfo := pool [(2, .class_ 4), (1, u "java/lang/Object"), (0, u "<init>"), (0, u "()V"), (3, .class_ 12), (1, u "java/lang/String"), (0, u "value"), (0, u "[B"), (2, u "coder"), (0, u "B"), (2, u "hash"), (0, u "I"), (2, u "hashIsZero"), (0, u "Z"), (13, u "COMPACT_STRINGS"), (534, .class_ 576), (0, u "java/lang/CharSequence"), (22, u "CASE_INSENSITIVE_ORDER"), (0, u "Ljava/util/Comparator;"), (500, u "serialPersistentFields"), (0, u "[Ljava/io/ObjectStreamField;"), (0, .class_ 1104), (0, u "java/lang/String$CaseInsensitiveComparator"), (1, .class_ 1107), (0, u "java/io/Serializable"), (0, .class_ 1109), (0, u "java/lang/Comparable"), (0, .class_ 1111), (0, u "java/lang/constant/Constable"), (0, .class_ 1113), (0, u "java/lang/constant/ConstantDesc"), (2, u "serialVersionUID"), (0, u "J"), (3, u "REPL"), (0, u "C"), (2, u "LATIN1"), (1, u "UTF16")] 323

def k8m0 : Method := { name := "<init>", desc := "()V", sig := { parameters := [], returnType := none }, accessFlags := 1, code := none }
/-- java/lang/String -/
def k8 : Class := { plain "java/lang/String" (some 0) with
  accessFlags := 49
  interfaces := #[3, 4, 5, 6, 7]
  cf := some (fileOf pool8 10 #[.nestMembers #[1103]] #[{ accessFlags := 1, nameIndex := 5, descriptorIndex := 6, attributes := #[] }] 49 2 #[1106, 1108, 575, 1110, 1112] #[{ accessFlags := 18, nameIndex := 13, descriptorIndex := 14, attributes := #[] }, { accessFlags := 18, nameIndex := 17, descriptorIndex := 18, attributes := #[] }, { accessFlags := 2, nameIndex := 21, descriptorIndex := 22, attributes := #[] }, { accessFlags := 2, nameIndex := 25, descriptorIndex := 26, attributes := #[] }, { accessFlags := 26, nameIndex := 1116, descriptorIndex := 1117, attributes := #[] }, { accessFlags := 24, nameIndex := 40, descriptorIndex := 26, attributes := #[] }, { accessFlags := 26, nameIndex := 1101, descriptorIndex := 1102, attributes := #[] }, { accessFlags := 26, nameIndex := 1121, descriptorIndex := 1122, attributes := #[] }, { accessFlags := 25, nameIndex := 599, descriptorIndex := 600, attributes := #[] }, { accessFlags := 24, nameIndex := 1125, descriptorIndex := 18, attributes := #[] }, { accessFlags := 24, nameIndex := 1127, descriptorIndex := 18, attributes := #[] }])
  fields := #[{ name := "value", type := (.array .byte), accessFlags := 18, slot := 0, constantValue := 0 }, { name := "coder", type := .byte, accessFlags := 18, slot := 1, constantValue := 0 }, { name := "hash", type := .int, accessFlags := 2, slot := 2, constantValue := 0 }, { name := "hashIsZero", type := .boolean, accessFlags := 2, slot := 3, constantValue := 0 }, { name := "serialVersionUID", type := .long, accessFlags := 26, slot := 0, constantValue := 0 }, { name := "COMPACT_STRINGS", type := .boolean, accessFlags := 24, slot := 1, constantValue := 0 }, { name := "serialPersistentFields", type := (.array (.object "java/io/ObjectStreamField")), accessFlags := 26, slot := 2, constantValue := 0 }, { name := "REPL", type := .char, accessFlags := 26, slot := 3, constantValue := 0 }, { name := "CASE_INSENSITIVE_ORDER", type := (.object "java/util/Comparator"), accessFlags := 25, slot := 4, constantValue := 0 }, { name := "LATIN1", type := .byte, accessFlags := 24, slot := 5, constantValue := 0 }, { name := "UTF16", type := .byte, accessFlags := 24, slot := 6, constantValue := 0 }]
  methods := #[k8m0]
  instanceTypes := #[(.array .byte), .byte, .int, .boolean]
  staticTypes := #[.long, .boolean, (.array (.object "java/io/ObjectStreamField")), .char, (.object "java/util/Comparator"), .byte, .byte]
  resolved := Array.replicate 1451 none
  statics := none }

def pool9 : Array CpInfo := pool [(2, .class_ 4), (1, u "java/lang/Object"), (0, u "<init>"), (0, u "()V"), (0, .methodref 8 9), (0, .class_ 10), (0, .nameAndType 11 12), (0, u "java/lang/Double"), (0, u "isFinite"), (0, u "(D)Z"), (0, .string 14), (0, u "finite"), (0, .methodref 16 17), (0, .class_ 18), (0, .nameAndType 19 20), (0, u "com/example/citadel_hill/citadelhill/channel/ParameterChecks"), (0, u "require"), (0, u "(ZLjava/lang/String;Ljava/lang/String;D)D"), (4, .string 26), (0, u "non-negative and finite"), (19, u "requireFinite"), (0, u "(Ljava/lang/String;D)D"), (3, u "requireNonNegative")] 2

def k9m0 : Method := { name := "<init>", desc := "()V", sig := { parameters := [], returnType := none }, accessFlags := 2, code := none }
def k9c1 : Code := { maxStack := 5, maxLocals := 3, code := prog_24_method_2_code, exceptionTable := #[], attributes := #[] }
def k9m1 : Method := { name := "requireFinite", desc := "(Ljava/lang/String;D)D", sig := { parameters := [(.object "java/lang/String"), .double], returnType := some .double }, accessFlags := 9, code := some k9c1 }
def k9c2 : Code := { maxStack := 5, maxLocals := 3, code := prog_24_method_5_code, exceptionTable := #[], attributes := #[] }
def k9m2 : Method := { name := "requireNonNegative", desc := "(Ljava/lang/String;D)D", sig := { parameters := [(.object "java/lang/String"), .double], returnType := some .double }, accessFlags := 9, code := some k9c2 }
def k9c3 : Code := { maxStack := 8, maxLocals := 5, code := prog_24_method_6_code, exceptionTable := #[], attributes := #[] }
def k9m3 : Method := { name := "require", desc := "(ZLjava/lang/String;Ljava/lang/String;D)D", sig := { parameters := [.boolean, (.object "java/lang/String"), (.object "java/lang/String"), .double], returnType := some .double }, accessFlags := 10, code := some k9c3 }
/-- com/example/citadel_hill/citadelhill/channel/ParameterChecks -/
def k9 : Class := { plain "com/example/citadel_hill/citadelhill/channel/ParameterChecks" (some 0) with
  accessFlags := 49
  interfaces := #[]
  cf := some (fileOf pool9 16 #[] #[{ accessFlags := 2, nameIndex := 5, descriptorIndex := 6, attributes := #[] }, { accessFlags := 9, nameIndex := 46, descriptorIndex := 47, attributes := #[] }, { accessFlags := 9, nameIndex := 51, descriptorIndex := 47, attributes := #[] }, { accessFlags := 10, nameIndex := 19, descriptorIndex := 20, attributes := #[] }] 49 2 #[] #[])
  fields := #[]
  methods := #[k9m0, k9m1, k9m2, k9m3]
  instanceTypes := #[]
  staticTypes := #[]
  resolved := Array.replicate 54 none
  statics := none }

def pool10 : Array CpInfo := pool [(2, .class_ 4), (1, u "java/lang/Object"), (0, u "<init>"), (0, u "()V"), (1, .class_ 10), (1, u "java/lang/Number"), (2, .class_ 14), (0, u "java/io/Serializable"), (0, u "serialVersionUID"), (0, u "J")] 20

def k10m0 : Method := { name := "<init>", desc := "()V", sig := { parameters := [], returnType := none }, accessFlags := 1, code := none }
/-- java/lang/Number -/
def k10 : Class := { plain "java/lang/Number" (some 0) with
  accessFlags := 1057
  interfaces := #[3]
  cf := some (fileOf pool10 8 #[] #[{ accessFlags := 1, nameIndex := 5, descriptorIndex := 6, attributes := #[] }] 1057 2 #[13] #[{ accessFlags := 26, nameIndex := 15, descriptorIndex := 16, attributes := #[] }])
  fields := #[{ name := "serialVersionUID", type := .long, accessFlags := 26, slot := 0, constantValue := 0 }]
  methods := #[k10m0]
  instanceTypes := #[]
  staticTypes := #[.long]
  resolved := Array.replicate 37 none
  statics := none }

def pool11 : Array CpInfo := pool [(1, .class_ 2), (0, u "java/lang/Double"), (10, u "isFinite"), (0, u "(D)Z"), (8, .class_ 25), (1, u "java/lang/Math"), (12, .methodref 23 39), (0, .nameAndType 40 41), (0, u "abs"), (0, u "(D)D"), (69, .double 9218868437227405311), (2, .class_ 116), (1, u "java/lang/Number"), (3, u "value"), (0, u "D"), (51, u "TYPE"), (0, u "Ljava/lang/Class;"), (0, .class_ 176), (0, u "java/lang/Comparable"), (0, .class_ 178), (0, u "java/lang/constant/Constable"), (0, .class_ 180), (0, u "java/lang/constant/ConstantDesc"), (0, u "POSITIVE_INFINITY"), (3, u "NEGATIVE_INFINITY"), (2, u "NaN"), (2, u "MAX_VALUE"), (0, u "MIN_NORMAL"), (0, u "MIN_VALUE"), (2, u "SIZE"), (0, u "I"), (1, u "PRECISION"), (1, u "MAX_EXPONENT"), (1, u "MIN_EXPONENT"), (1, u "BYTES"), (3, u "serialVersionUID"), (0, u "J")] 79

def k11c0 : Code := { maxStack := 4, maxLocals := 2, code := jdk_117_method_8_code, exceptionTable := #[], attributes := #[] }
def k11m0 : Method := { name := "isFinite", desc := "(D)Z", sig := { parameters := [.double], returnType := some .boolean }, accessFlags := 9, code := some k11c0 }
/-- java/lang/Double -/
def k11 : Class := { plain "java/lang/Double" (some 10) with
  accessFlags := 49
  interfaces := #[4, 6, 7]
  cf := some (fileOf pool11 1 #[] #[{ accessFlags := 9, nameIndex := 13, descriptorIndex := 14, attributes := #[] }] 49 114 #[175, 177, 179] #[{ accessFlags := 25, nameIndex := 181, descriptorIndex := 121, attributes := #[] }, { accessFlags := 25, nameIndex := 185, descriptorIndex := 121, attributes := #[] }, { accessFlags := 25, nameIndex := 188, descriptorIndex := 121, attributes := #[] }, { accessFlags := 25, nameIndex := 191, descriptorIndex := 121, attributes := #[] }, { accessFlags := 25, nameIndex := 192, descriptorIndex := 121, attributes := #[] }, { accessFlags := 25, nameIndex := 193, descriptorIndex := 121, attributes := #[] }, { accessFlags := 25, nameIndex := 196, descriptorIndex := 197, attributes := #[] }, { accessFlags := 25, nameIndex := 199, descriptorIndex := 197, attributes := #[] }, { accessFlags := 25, nameIndex := 201, descriptorIndex := 197, attributes := #[] }, { accessFlags := 25, nameIndex := 203, descriptorIndex := 197, attributes := #[] }, { accessFlags := 25, nameIndex := 205, descriptorIndex := 197, attributes := #[] }, { accessFlags := 25, nameIndex := 173, descriptorIndex := 174, attributes := #[] }, { accessFlags := 18, nameIndex := 120, descriptorIndex := 121, attributes := #[] }, { accessFlags := 26, nameIndex := 209, descriptorIndex := 210, attributes := #[] }])
  fields := #[{ name := "POSITIVE_INFINITY", type := .double, accessFlags := 25, slot := 0, constantValue := 0 }, { name := "NEGATIVE_INFINITY", type := .double, accessFlags := 25, slot := 1, constantValue := 0 }, { name := "NaN", type := .double, accessFlags := 25, slot := 2, constantValue := 0 }, { name := "MAX_VALUE", type := .double, accessFlags := 25, slot := 3, constantValue := 0 }, { name := "MIN_NORMAL", type := .double, accessFlags := 25, slot := 4, constantValue := 0 }, { name := "MIN_VALUE", type := .double, accessFlags := 25, slot := 5, constantValue := 0 }, { name := "SIZE", type := .int, accessFlags := 25, slot := 6, constantValue := 0 }, { name := "PRECISION", type := .int, accessFlags := 25, slot := 7, constantValue := 0 }, { name := "MAX_EXPONENT", type := .int, accessFlags := 25, slot := 8, constantValue := 0 }, { name := "MIN_EXPONENT", type := .int, accessFlags := 25, slot := 9, constantValue := 0 }, { name := "BYTES", type := .int, accessFlags := 25, slot := 10, constantValue := 0 }, { name := "TYPE", type := (.object "java/lang/Class"), accessFlags := 25, slot := 11, constantValue := 0 }, { name := "value", type := .double, accessFlags := 18, slot := 0, constantValue := 0 }, { name := "serialVersionUID", type := .long, accessFlags := 26, slot := 12, constantValue := 0 }]
  methods := #[k11m0]
  instanceTypes := #[.double]
  staticTypes := #[.double, .double, .double, .double, .double, .double, .int, .int, .int, .int, .int, (.object "java/lang/Class"), .long]
  resolved := Array.replicate 290 none
  statics := none }

def pool12 : Array CpInfo := pool [(1, .class_ 2), (0, u "java/lang/Math"), (1, .class_ 6), (1, u "java/lang/Object"), (0, u "<init>"), (0, u "()V"), (5, u "(D)D"), (83, .class_ 100), (1, u "java/lang/Math$RandomNumberGeneratorHolder"), (23, u "abs"), (47, u "negativeZeroFloatBits"), (0, u "J"), (2, u "negativeZeroDoubleBits"), (68, u "$assertionsDisabled"), (0, u "Z"), (91, u "twoToTheDoubleScaleDown"), (0, u "D"), (4, u "twoToTheDoubleScaleUp"), (9, u "E"), (3, u "PI"), (2, u "TAU"), (2, u "DEGREES_TO_RADIANS"), (0, u "RADIANS_TO_DEGREES")] 94

def k12m0 : Method := { name := "<init>", desc := "()V", sig := { parameters := [], returnType := none }, accessFlags := 2, code := none }
def k12c1 : Code := { maxStack := 4, maxLocals := 2, code := jdk_29_method_64_code, exceptionTable := #[], attributes := #[] }
def k12m1 : Method := { name := "abs", desc := "(D)D", sig := { parameters := [.double], returnType := some .double }, accessFlags := 9, code := some k12c1 }
/-- java/lang/Math -/
def k12 : Class := { plain "java/lang/Math" (some 0) with
  accessFlags := 49
  interfaces := #[]
  cf := some (fileOf pool12 1 #[.nestMembers #[98]] #[{ accessFlags := 2, nameIndex := 7, descriptorIndex := 8, attributes := #[] }, { accessFlags := 9, nameIndex := 124, descriptorIndex := 14, attributes := #[] }] 49 4 #[] #[{ accessFlags := 25, nameIndex := 354, descriptorIndex := 339, attributes := #[] }, { accessFlags := 25, nameIndex := 358, descriptorIndex := 339, attributes := #[] }, { accessFlags := 25, nameIndex := 361, descriptorIndex := 339, attributes := #[] }, { accessFlags := 26, nameIndex := 364, descriptorIndex := 339, attributes := #[] }, { accessFlags := 26, nameIndex := 365, descriptorIndex := 339, attributes := #[] }, { accessFlags := 26, nameIndex := 172, descriptorIndex := 173, attributes := #[] }, { accessFlags := 26, nameIndex := 176, descriptorIndex := 173, attributes := #[] }, { accessFlags := 8, nameIndex := 344, descriptorIndex := 339, attributes := #[] }, { accessFlags := 8, nameIndex := 338, descriptorIndex := 339, attributes := #[] }, { accessFlags := 4120, nameIndex := 245, descriptorIndex := 246, attributes := #[] }])
  fields := #[{ name := "E", type := .double, accessFlags := 25, slot := 0, constantValue := 0 }, { name := "PI", type := .double, accessFlags := 25, slot := 1, constantValue := 0 }, { name := "TAU", type := .double, accessFlags := 25, slot := 2, constantValue := 0 }, { name := "DEGREES_TO_RADIANS", type := .double, accessFlags := 26, slot := 3, constantValue := 0 }, { name := "RADIANS_TO_DEGREES", type := .double, accessFlags := 26, slot := 4, constantValue := 0 }, { name := "negativeZeroFloatBits", type := .long, accessFlags := 26, slot := 5, constantValue := 0 }, { name := "negativeZeroDoubleBits", type := .long, accessFlags := 26, slot := 6, constantValue := 0 }, { name := "twoToTheDoubleScaleUp", type := .double, accessFlags := 8, slot := 7, constantValue := 0 }, { name := "twoToTheDoubleScaleDown", type := .double, accessFlags := 8, slot := 8, constantValue := 0 }, { name := "$assertionsDisabled", type := .boolean, accessFlags := 4120, slot := 9, constantValue := 0 }]
  methods := #[k12m0, k12m1]
  instanceTypes := #[]
  staticTypes := #[.double, .double, .double, .double, .double, .long, .long, .double, .double, .boolean]
  resolved := Array.replicate 460 none
  statics := none }

def pool13 : Array CpInfo := pool [(1, u "java/lang/Cloneable"), (0, .class_ 1), (0, u "java/lang/Object"), (0, .class_ 3)] 3

/-- java/lang/Cloneable -/
def k13 : Class := { plain "java/lang/Cloneable" (some 0) with
  accessFlags := 1537
  interfaces := #[]
  cf := some (fileOf pool13 2 #[] #[] 1537 4 #[] #[])
  fields := #[]
  methods := #[]
  instanceTypes := #[]
  staticTypes := #[]
  resolved := Array.replicate 8 none
  statics := none }

/-- the primitive byte -/
def k14 : Class := { plain "byte" none with kind := .primitive 'B', accessFlags := 0x411 }
/-- [B -/
def k15 : Class := { plain "[B" (some 0) with kind := .array 14 .byte, interfaces := #[13, 3], accessFlags := 1041 }

/-- the primitive int -/
def k16 : Class := { plain "int" none with kind := .primitive 'I', accessFlags := 0x411 }
/-- [I -/
def k17 : Class := { plain "[I" (some 0) with kind := .array 16 .int, interfaces := #[13, 3], accessFlags := 1041 }

def heap : Heap := #[]
def classes : Array Class := #[k0, k1, k2, k3, k4, k5, k6, k7, k8, k9, k10, k11, k12, k13, k14, k15, k16, k17]
def interned : List (Array UInt16 × Addr) := []
def slotsUsed : Nat := 0
def theMethod : MethodId := ⟨1, 1⟩
def args0 : Array Value := #[.int 5, .int 6, .int 7, .int 8, .int 9]
def aboutOver (below : List Frame) : State where
  vm := { classes := classes, interned := interned.toArray }
  heap := heap
  slotsUsed := slotsUsed
  threads := #[{ frames := .invoking theMethod args0 :: below }]
def below0 : List Frame := [.native { method := ⟨0, 0⟩, args := #[] }]
def about1 : State := aboutOver below0
def p0 : Program := .bare "" "" ""
def e0 : Env := launch0.env 0 0 0
theorem w_frames : about1.frames = Frame.invoking theMethod args0 :: below0 := rfl
set_option maxRecDepth 65536 in
theorem w_args : argsFit about1.vm theMethod args0 = true := by decide +kernel
set_option maxRecDepth 65536 in
theorem w_heap : heapFits about1 = true := by decide +kernel
set_option maxRecDepth 65536 in
theorem w_runnable : about1.curStatus? = some .runnable := by decide +kernel
set_option maxRecDepth 65536 in
theorem w_alone : about1.alone = true := by decide +kernel
set_option maxRecDepth 65536 in
theorem w_named : about1.methodNamed? x = some theMethod := by decide +kernel
set_option maxRecDepth 65536 in
theorem w_hears : about1.hears theMethod below0 = true := by decide +kernel
set_option maxRecDepth 65536 in
theorem w_ripe : about1.ripe theMethod args0 below0 = true := by decide +kernel
theorem w_running : about1.status = .running := rfl
set_option maxRecDepth 65536 in
theorem w_room : about1.hasRoom e0.platform room_1 = true :=
  launch0.hasRoom_least _ room_1 (by decide +kernel) (by decide +kernel) (by decide +kernel) (by decide +kernel) (by decide +kernel) (by decide +kernel)
theorem allAtoms_all (ts : List Jvm.Cond) (a : Array Jvm.Value) (st : Jvm.State) : (allAtoms ts).before a st = ts.all (fun c => c.before a st) := by
  induction ts with
  | nil => rfl
  | cons c t ih =>
    show (Jvm.Cond.and c (allAtoms t)).before a st = _
    rw [Jvm.Cond.before_and, ih, List.all_cons]
def words1 : List Jvm.Cond := Jvm.Cond.code x code maxLocals ret :: tables_1
/-- a 'code' word, met by the world's own term for the bytes: nothing is compared byte by byte -/
theorem code_word {y : MethodName} {bytes : ByteArray} {mx : Nat} {rt : Option FieldType} {a : Array Value} {s : State} {m : MethodId} {meth : Method} {c : Code} (h1 : s.methodNamed? y = some m) (h2 : s.vm.method? m = some meth) (h3 : meth.code = some c) (h4 : c.code = bytes)
    (h5 : (c.maxLocals == mx && c.exceptionTable.isEmpty && decide (c.maxStack ≤ mostOperands) && decide (meth.sig.returnType = rt) && !meth.locks && decide (parseMethodDescriptor y.desc = some meth.sig)) = true) : (Jvm.Cond.code y bytes mx rt).before a s = true := by
  simp only [Bool.and_eq_true, beq_iff_eq, Bool.not_eq_true', decide_eq_true_eq] at h5
  obtain ⟨⟨⟨⟨⟨g1, g2⟩, g3⟩, g4⟩, g5⟩, g6⟩ := h5
  simp [Cond.before, Cond.holds, Cond.value, h1, h2, h3, h4, g1, g2, g3, g4, g5, g6]
def isCode : Jvm.Cond → Bool
  | .code _ _ _ _ => true
  | _ => false
theorem all_split {L : List Jvm.Cond} {P : Jvm.Cond → Bool} (h1 : L.all (fun c => isCode c || P c) = true) (h2 : ∀ c ∈ L.filter isCode, P c = true) : L.all P = true := by
  refine List.all_eq_true.mpr fun c hc => ?_
  have h := List.all_eq_true.mp h1 c hc
  rcases Bool.eq_false_or_eq_true (isCode c) with hi | hi
  · exact h2 c (List.mem_filter.mpr ⟨hc, hi⟩)
  · simpa [hi] using h
set_option maxRecDepth 65536 in
theorem w_c0 : (Jvm.Cond.code x code maxLocals ret).before args0 about1 = true := code_word (m := ⟨1, 1⟩) (meth := k1m1) (c := k1c1) (by decide +kernel) rfl rfl rfl (by decide +kernel)
set_option maxRecDepth 65536 in
theorem w_c1 : (Jvm.Cond.code ({ cls := "com/example/citadel_hill/citadelhill/cell/CurrentPulse", name := "<init>", desc := "(DDD)V" } : Jvm.MethodName) prog_4_method_1_code (7 : Nat) (Option.none : Option Jvm.ClassFile.FieldType)).before args0 about1 = true := code_word (m := ⟨2, 0⟩) (meth := k2m0) (c := k2c0) (by decide +kernel) rfl rfl rfl (by decide +kernel)
set_option maxRecDepth 65536 in
theorem w_c2 : (Jvm.Cond.code ({ cls := "java/lang/Object", name := "<init>", desc := "()V" } : Jvm.MethodName) object_method_1_code (1 : Nat) (Option.none : Option Jvm.ClassFile.FieldType)).before args0 about1 = true := code_word (m := ⟨0, 0⟩) (meth := k0m0) (c := k0c0) (by decide +kernel) rfl rfl rfl (by decide +kernel)
set_option maxRecDepth 65536 in
theorem w_c3 : (Jvm.Cond.code ({ cls := "com/example/citadel_hill/citadelhill/channel/ParameterChecks", name := "requireFinite", desc := "(Ljava/lang/String;D)D" } : Jvm.MethodName) prog_24_method_2_code (3 : Nat) (Option.some Jvm.ClassFile.FieldType.double)).before args0 about1 = true := code_word (m := ⟨9, 1⟩) (meth := k9m1) (c := k9c1) (by decide +kernel) rfl rfl rfl (by decide +kernel)
set_option maxRecDepth 65536 in
theorem w_c4 : (Jvm.Cond.code ({ cls := "java/lang/Double", name := "isFinite", desc := "(D)Z" } : Jvm.MethodName) jdk_117_method_8_code (2 : Nat) (Option.some Jvm.ClassFile.FieldType.boolean)).before args0 about1 = true := code_word (m := ⟨11, 0⟩) (meth := k11m0) (c := k11c0) (by decide +kernel) rfl rfl rfl (by decide +kernel)
set_option maxRecDepth 65536 in
theorem w_c5 : (Jvm.Cond.code ({ cls := "java/lang/Math", name := "abs", desc := "(D)D" } : Jvm.MethodName) jdk_29_method_64_code (2 : Nat) (Option.some Jvm.ClassFile.FieldType.double)).before args0 about1 = true := code_word (m := ⟨12, 1⟩) (meth := k12m1) (c := k12c1) (by decide +kernel) rfl rfl rfl (by decide +kernel)
set_option maxRecDepth 65536 in
theorem w_c6 : (Jvm.Cond.code ({ cls := "com/example/citadel_hill/citadelhill/channel/ParameterChecks", name := "require", desc := "(ZLjava/lang/String;Ljava/lang/String;D)D" } : Jvm.MethodName) prog_24_method_6_code (5 : Nat) (Option.some Jvm.ClassFile.FieldType.double)).before args0 about1 = true := code_word (m := ⟨9, 3⟩) (meth := k9m3) (c := k9c3) (by decide +kernel) rfl rfl rfl (by decide +kernel)
set_option maxRecDepth 65536 in
theorem w_c7 : (Jvm.Cond.code ({ cls := "com/example/citadel_hill/citadelhill/channel/ParameterChecks", name := "requireNonNegative", desc := "(Ljava/lang/String;D)D" } : Jvm.MethodName) prog_24_method_5_code (3 : Nat) (Option.some Jvm.ClassFile.FieldType.double)).before args0 about1 = true := code_word (m := ⟨9, 2⟩) (meth := k9m2) (c := k9c2) (by decide +kernel) rfl rfl rfl (by decide +kernel)
set_option maxRecDepth 65536 in
theorem w_c8 : (Jvm.Cond.code ({ cls := "com/example/citadel_hill/citadelhill/cell/CurrentPulse", name := "current", desc := "(D)D" } : Jvm.MethodName) prog_4_method_4_code (3 : Nat) (Option.some Jvm.ClassFile.FieldType.double)).before args0 about1 = true := code_word (m := ⟨2, 3⟩) (meth := k2m3) (c := k2c3) (by decide +kernel) rfl rfl rfl (by decide +kernel)
set_option maxRecDepth 65536 in
theorem w_c9 : (Jvm.Cond.code ({ cls := "com/example/citadel_hill/citadelhill/cell/CurrentPulse", name := "start", desc := "()D" } : Jvm.MethodName) prog_4_method_2_code (1 : Nat) (Option.some Jvm.ClassFile.FieldType.double)).before args0 about1 = true := code_word (m := ⟨2, 1⟩) (meth := k2m1) (c := k2c1) (by decide +kernel) rfl rfl rfl (by decide +kernel)
set_option maxRecDepth 65536 in
theorem w_c10 : (Jvm.Cond.code ({ cls := "com/example/citadel_hill/citadelhill/cell/CurrentPulse", name := "end", desc := "()D" } : Jvm.MethodName) prog_4_method_3_code (1 : Nat) (Option.some Jvm.ClassFile.FieldType.double)).before args0 about1 = true := code_word (m := ⟨2, 2⟩) (meth := k2m2) (c := k2c2) (by decide +kernel) rfl rfl rfl (by decide +kernel)
def codes1 : List Jvm.Cond := [Jvm.Cond.code x code maxLocals ret, Jvm.Cond.code ({ cls := "com/example/citadel_hill/citadelhill/cell/CurrentPulse", name := "<init>", desc := "(DDD)V" } : Jvm.MethodName) prog_4_method_1_code (7 : Nat) (Option.none : Option Jvm.ClassFile.FieldType), Jvm.Cond.code ({ cls := "java/lang/Object", name := "<init>", desc := "()V" } : Jvm.MethodName) object_method_1_code (1 : Nat) (Option.none : Option Jvm.ClassFile.FieldType), Jvm.Cond.code ({ cls := "com/example/citadel_hill/citadelhill/channel/ParameterChecks", name := "requireFinite", desc := "(Ljava/lang/String;D)D" } : Jvm.MethodName) prog_24_method_2_code (3 : Nat) (Option.some Jvm.ClassFile.FieldType.double), Jvm.Cond.code ({ cls := "java/lang/Double", name := "isFinite", desc := "(D)Z" } : Jvm.MethodName) jdk_117_method_8_code (2 : Nat) (Option.some Jvm.ClassFile.FieldType.boolean), Jvm.Cond.code ({ cls := "java/lang/Math", name := "abs", desc := "(D)D" } : Jvm.MethodName) jdk_29_method_64_code (2 : Nat) (Option.some Jvm.ClassFile.FieldType.double), Jvm.Cond.code ({ cls := "com/example/citadel_hill/citadelhill/channel/ParameterChecks", name := "require", desc := "(ZLjava/lang/String;Ljava/lang/String;D)D" } : Jvm.MethodName) prog_24_method_6_code (5 : Nat) (Option.some Jvm.ClassFile.FieldType.double), Jvm.Cond.code ({ cls := "com/example/citadel_hill/citadelhill/channel/ParameterChecks", name := "requireNonNegative", desc := "(Ljava/lang/String;D)D" } : Jvm.MethodName) prog_24_method_5_code (3 : Nat) (Option.some Jvm.ClassFile.FieldType.double), Jvm.Cond.code ({ cls := "com/example/citadel_hill/citadelhill/cell/CurrentPulse", name := "current", desc := "(D)D" } : Jvm.MethodName) prog_4_method_4_code (3 : Nat) (Option.some Jvm.ClassFile.FieldType.double), Jvm.Cond.code ({ cls := "com/example/citadel_hill/citadelhill/cell/CurrentPulse", name := "start", desc := "()D" } : Jvm.MethodName) prog_4_method_2_code (1 : Nat) (Option.some Jvm.ClassFile.FieldType.double), Jvm.Cond.code ({ cls := "com/example/citadel_hill/citadelhill/cell/CurrentPulse", name := "end", desc := "()D" } : Jvm.MethodName) prog_4_method_3_code (1 : Nat) (Option.some Jvm.ClassFile.FieldType.double)]
set_option maxRecDepth 65536 in
theorem codes_eq : words1.filter isCode = codes1 := rfl
theorem w_codes : ∀ c ∈ words1.filter isCode, c.before args0 about1 = true := by
  rw [codes_eq]
  intro c hc
  simp only [codes1, List.mem_cons, List.not_mem_nil, or_false] at hc
  rcases hc with rfl | rfl | rfl | rfl | rfl | rfl | rfl | rfl | rfl | rfl | rfl
  · exact w_c0
  · exact w_c1
  · exact w_c2
  · exact w_c3
  · exact w_c4
  · exact w_c5
  · exact w_c6
  · exact w_c7
  · exact w_c8
  · exact w_c9
  · exact w_c10
set_option maxRecDepth 65536 in
theorem w_t1 : (words1.take 24).all (fun c => isCode c || c.before args0 about1) = true := by decide +kernel
set_option maxRecDepth 65536 in
theorem w_t2 : ((words1.drop 24).take 24).all (fun c => isCode c || c.before args0 about1) = true := by decide +kernel
set_option maxRecDepth 65536 in
theorem w_t3 : ((words1.drop 24).drop 24).all (fun c => isCode c || c.before args0 about1) = true := by decide +kernel
theorem w_tables : (allAtoms (Jvm.Cond.code x code maxLocals ret :: tables_1)).before args0 about1 = true := by
  rw [allAtoms_all]
  show words1.all (fun c => c.before args0 about1) = true
  refine all_split ?_ w_codes
  rw [← List.take_append_drop 24 words1, List.all_append, w_t1, ← List.take_append_drop 24 (words1.drop 24), List.all_append, w_t2, w_t3]
  rfl
set_option maxRecDepth 65536 in
theorem w_case : (Jvm.Cond.and given_1 narrow_1).before args0 about1 = true := by decide +kernel
theorem w_applies : (headSpec (Jvm.Cond.code x code maxLocals ret :: tables_1) room_1).applies x e0.platform about1 = true :=
  (Spec.applies_iff w_frames).mpr ⟨w_running, w_runnable, w_alone, w_named, w_hears, w_ripe, w_room, w_tables⟩
theorem atStart : AtStart classFile x code maxLocals ret World_1 tables_1 room_1 Calls_1 rest_1 Pre_1 launch0 p0 e0 about1 theMethod args0 below0 :=
  ⟨lists_1, trivial, launch0.admits_env _ _ _, launch0.least_env, fairChoices_fair.cas, fairChoices_fair.clock, w_frames, w_args, w_heap, w_applies, trivial, trivial, w_case⟩
end start1
theorem witness_1 : WitnessClaimed_1 := ⟨start1.p0, start1.e0, start1.about1, start1.theMethod, start1.args0, start1.below0, start1.atStart⟩
end Jvm.Pilot.@@N@@
