import JvmDerived
import JvmDerived.Pilot.@@N@@Statement
import JvmDerived.Pilot.@@N@@Code
set_option linter.unusedVariables false
set_option linter.unusedSimpArgs false
namespace Jvm.RoadKit
open Sem ClassFile Op Lib Jvm.Stand Jvm.Free Jvm.LawKit
section Own
variable {p : Program} {l : Launch} {e : Env} {R : Room} {s : State} {m : MethodId} {args : Array Value} {below : List Frame} {meth : Method} {c : Code} {T T' : State} {locs : List Loc} {cells slots : Nat} {CC SS : Nat} {Q : Option Value → Heap → List Loc → Prop} {g g' : JFrame}
/-- from the frame g over T the run returns, and what it leaves is as Q says -/
def Done (p : Program) (e : Env) (s : State) (below : List Frame) (CC SS : Nat) (Q : Option Value → Heap → List Loc → Prop) (T : State) (g : JFrame) : Prop :=
  ∃ s₂ o, Steps p.tables e below (T.setTop g) s₂ ∧ s₂.status = .running ∧ Ended s₂ below o ∧ ∃ v L, o = .returned v ∧ Q v s₂.heap L ∧ FrameEnd s o s₂ L CC SS
theorem Done.go (st : ∀ t, Steps p.tables e below (T'.setTop g') t → Steps p.tables e below (T.setTop g) t) (k : Done p e s below CC SS Q T' g') : Done p e s below CC SS Q T g := by
  obtain ⟨s2, o, h, r⟩ := k; exact ⟨s2, o, st _ h, r⟩
theorem Done.via (st : Steps p.tables e below (T.setTop g) (T'.setTop g')) (k : Done p e s below CC SS Q T' g') : Done p e s below CC SS Q T g := by
  obtain ⟨s2, o, h, r⟩ := k; exact ⟨s2, o, st.trans h, r⟩
theorem Done.ret (X : Stand p l e R s m args below meth c T locs cells slots) (hlk : meth.locks = false) {v : Option Value} (hv : meth.sig.returnType = none → v = none)
    (st : ∀ fs : List Frame, (∀ (f : JFrame) (acts : List Action), f.method = m → f.locked = none → f.entered = [] → (doReturn e (T.setTop f) acts v).1 = T.setFrames fs) → Steps p.tables e below (T.setTop g) (T.setFrames fs))
    (hq : Q v T.heap locs) (hc : cells ≤ CC) (hs : slots ≤ SS) : Done p e s below CC SS Q T g := by
  obtain ⟨fs, hr, hrun, hended, hW, hsame⟩ := X.leave (v := v) hv hlk
  exact ⟨_, _, st fs hr, hrun, hended, _, _, rfl, hq, ⟨_, rfl⟩, hW, hsame.mono hc hs⟩
theorem Done.retI (X : Stand p l e R s m args below meth c T locs cells slots) (hx : p.tables.exec = Jvm.exec) (hlk : meth.locks = false) {pc : Nat} {Ls : Array Slot} {z : Int32} {rest : List Value} (hret : meth.sig.returnType = some .int) (hd : decode c.code pc = .ok (.ireturn, 1))
    (hq : Q (some (.int z)) T.heap locs) (hc : cells ≤ CC) (hs : slots ≤ SS) : Done p e s below CC SS Q T (mkF m pc Ls (.int z :: rest)) := by
  refine Done.ret X hlk (fun h => by rw [hret] at h; cases h) (fun fs hl => ?_) hq hc hs
  have hm' : T.vm.method? m = some meth := X.method'
  have hn : narrow .int (.int z) = .int z := rfl
  show Steps p.tables e below (T.setTop { method := m, pc := pc, locals := Ls, stack := _ :: rest, locked := none }) _
  jvm_step X.here [X.here.top, hx, hd, hm', hret, hn]
  first | (intro acts; rw [hl _ acts rfl rfl rfl]) | rw [hl _ _ rfl rfl rfl]
  exact Steps.refl _
theorem Done.retJ (X : Stand p l e R s m args below meth c T locs cells slots) (hx : p.tables.exec = Jvm.exec) (hlk : meth.locks = false) {pc : Nat} {Ls : Array Slot} {z : Int64} {rest : List Value} (hret : meth.sig.returnType = some .long) (hd : decode c.code pc = .ok (.lreturn, 1))
    (hq : Q (some (.long z)) T.heap locs) (hc : cells ≤ CC) (hs : slots ≤ SS) : Done p e s below CC SS Q T (mkF m pc Ls (.long z :: rest)) := by
  refine Done.ret X hlk (fun h => by rw [hret] at h; cases h) (fun fs hl => ?_) hq hc hs
  have hm' : T.vm.method? m = some meth := X.method'
  show Steps p.tables e below (T.setTop { method := m, pc := pc, locals := Ls, stack := _ :: rest, locked := none }) _
  jvm_step X.here [X.here.top, hx, hd, hm', hret]
  first | (intro acts; rw [hl _ acts rfl rfl rfl]) | rw [hl _ _ rfl rfl rfl]
  exact Steps.refl _
theorem Done.retR (X : Stand p l e R s m args below meth c T locs cells slots) (hx : p.tables.exec = Jvm.exec) (hlk : meth.locks = false) {pc : Nat} {Ls : Array Slot} {v : Value} {t : FieldType} {rest : List Value} (hret : meth.sig.returnType = some t) (ht : t.isReference = true) (hv : v.isRef = true) (hd : decode c.code pc = .ok (.areturn, 1))
    (hq : Q (some v) T.heap locs) (hc : cells ≤ CC) (hs : slots ≤ SS) : Done p e s below CC SS Q T (mkF m pc Ls (v :: rest)) := by
  refine Done.ret X hlk (fun h => by rw [hret] at h; cases h) (fun fs hl => ?_) hq hc hs
  have hm' : T.vm.method? m = some meth := X.method'
  show Steps p.tables e below (T.setTop { method := m, pc := pc, locals := Ls, stack := _ :: rest, locked := none }) _
  jvm_step X.here [X.here.top, hx, hd, hm', hret, ht, hv]
  first | (intro acts; rw [hl _ acts rfl rfl rfl]) | rw [hl _ _ rfl rfl rfl]
  exact Steps.refl _
theorem Done.retV (X : Stand p l e R s m args below meth c T locs cells slots) (hx : p.tables.exec = Jvm.exec) (hlk : meth.locks = false) {pc : Nat} {Ls : Array Slot} (hret : meth.sig.returnType = none) (hd : decode c.code pc = .ok (.return_, 1))
    (hq : Q none T.heap locs) (hc : cells ≤ CC) (hs : slots ≤ SS) : Done p e s below CC SS Q T (mkF m pc Ls []) :=
  Done.ret X hlk (fun _ => rfl) (fun fs hl => X.returnOut hx hret hd hl) hq hc hs
theorem Done.retN (X : Stand p l e R s m args below meth c T locs cells slots) (hx : p.tables.exec = Jvm.exec) (hlk : meth.locks = false) {pc : Nat} {Ls : Array Slot} {z z' : Int32} {t : FieldType} {rest : List Value} (hret : meth.sig.returnType = some t) (ht : t = .boolean ∨ t = .byte ∨ t = .char ∨ t = .short) (hz : nar t z = z')
    (hd : decode c.code pc = .ok (.ireturn, 1)) (hq : Q (some (.int z')) T.heap locs) (hc : cells ≤ CC) (hs : slots ≤ SS) : Done p e s below CC SS Q T (mkF m pc Ls (.int z :: rest)) := by
  subst hz
  exact Done.ret X hlk (fun h => by rw [hret] at h; cases h) (fun fs hl => Jvm.RoadKit.retN X hx hret ht hd hl) hq hc hs
theorem own_backG {rc rs : Nat} {rest : List Value} {Q0 : Option Value → Heap → List Loc → Prop} (h : ∃ (v : Option Value) (vm₁ : Vm) (B : Pt), s.WarmedH vm₁ ∧ Stand p l e R s m args below meth c B.U B.locs B.cells B.slots ∧ (∃ L, Q0 v B.U.heap L ∧ B.locs = locs ++ L ∧ B.cells = cells + rc ∧ B.slots = slots + rs) ∧
      ∀ target, Steps p.tables e below (B.U.setTop { g with pc := g.pc + 3, stack := v.toList ++ rest }) target → Steps p.tables e below (T.setTop g) target) :
    ∃ v T' Lc, Stand p l e R s m args below meth c T' (locs ++ Lc) (cells + rc) (slots + rs) ∧ Q0 v T'.heap Lc ∧ ∀ target, Steps p.tables e below (T'.setTop { g with pc := g.pc + 3, stack := v.toList ++ rest }) target → Steps p.tables e below (T.setTop g) target := by
  obtain ⟨v, vm, ⟨U, L, k, n⟩, -, X, ⟨Lc, hQ, rfl, rfl, rfl⟩, st⟩ := h
  exact ⟨v, U, Lc, X, hQ, st⟩
theorem own_backV {rc rs : Nat} {rest : List Value} {Q0 : Option Value → Heap → List Loc → Prop} (h : ∃ (v : Option Value) (vm₁ : Vm) (B : Pt), s.WarmedH vm₁ ∧ Stand p l e R s m args below meth c B.U B.locs B.cells B.slots ∧ (∃ L, Q0 v B.U.heap L ∧ B.locs = locs ++ L ∧ B.cells = cells + rc ∧ B.slots = slots + rs) ∧
      Steps p.tables e below (T.setTop g) (B.U.setTop { g with pc := g.pc + 3, stack := v.toList ++ rest })) :
    ∃ v T' Lc, Stand p l e R s m args below meth c T' (locs ++ Lc) (cells + rc) (slots + rs) ∧ Q0 v T'.heap Lc ∧ ∀ target, Steps p.tables e below (T'.setTop { g with pc := g.pc + 3, stack := v.toList ++ rest }) target → Steps p.tables e below (T.setTop g) target := by
  obtain ⟨v, vm, ⟨U, L, k, n⟩, -, X, ⟨Lc, hQ, rfl, rfl, rfl⟩, st⟩ := h
  exact ⟨v, U, Lc, X, hQ, fun _ k => st.trans k⟩
theorem own_backI {rc rs : Nat} {rest : List Value} {Q0 : Option Value → Heap → List Loc → Prop} (h : ∃ (v : Option Value) (vm₁ : Vm) (B : Pt), s.WarmedH vm₁ ∧ Stand p l e R s m args below meth c B.U B.locs B.cells B.slots ∧ (∃ L, Q0 v B.U.heap L ∧ B.locs = locs ++ L ∧ B.cells = cells + rc ∧ B.slots = slots + rs) ∧
      Steps p.tables e below (T.setTop g) (B.U.setTop { g with pc := g.pc + 5, stack := v.toList ++ rest })) :
    ∃ v T' Lc, Stand p l e R s m args below meth c T' (locs ++ Lc) (cells + rc) (slots + rs) ∧ Q0 v T'.heap Lc ∧ ∀ target, Steps p.tables e below (T'.setTop { g with pc := g.pc + 5, stack := v.toList ++ rest }) target → Steps p.tables e below (T.setTop g) target := by
  obtain ⟨v, vm, ⟨U, L, k, n⟩, -, X, ⟨Lc, hQ, rfl, rfl, rfl⟩, st⟩ := h
  exact ⟨v, U, Lc, X, hQ, fun _ k => st.trans k⟩
theorem own_narB (x : Int32) : nar .byte x.toInt8.toInt32 = x.toInt8.toInt32 := by simp [nar]
end Own
end Jvm.RoadKit
namespace Jvm.RoadKit
open Sem ClassFile Op Lib Jvm.Stand Jvm.Free Jvm.LawKit
section OwnA
variable {p : Program} {l : Launch} {e : Env} {R : Room} {s : State} {m : MethodId} {args : Array Value} {below : List Frame} {meth : Method} {c : Code} {T T' : State} {locs : List Loc} {cells slots : Nat} {CC SS : Nat} {Q : Option Value → Heap → List Loc → Prop} {g g' : JFrame} {Z : State} {h h' : Heap} {a b : Addr} {ty : FieldType} {n : Nat} {f f' : Nat → Int32} {ws : List Addr} {sl : Nat} {v : Value}
/-- an array of n places at a; place i holds f i -/
def Ari (Z : State) (h : Heap) (a : Addr) (ty : FieldType) (n : Nat) (f : Nat → Int32) : Prop := ∃ cl : Cell, Arr Z h a cl ty ∧ cl.slots.size = n ∧ n < 2 ^ 31 ∧ ∀ i, i < n → cl.slots[i]? = some (.int (f i))
theorem Ari.lt (F : Ari Z h a ty n f) : a < h.size := by obtain ⟨_, A, -⟩ := F; exact A.lt
theorem Ari.ext (F : Ari Z h a ty n f) (E : Ext h h') : Ari Z h' a ty n f := by obtain ⟨cl, A, r⟩ := F; exact ⟨cl, A.ext E, r⟩
theorem Ari.other (F : Ari Z h b ty n f) (W : Wr h h' a sl v) (q : b ≠ a) : Ari Z h' b ty n f := by obtain ⟨cl, A, r⟩ := F; exact ⟨cl, A.other W q, r⟩
theorem Ari.keep (F : Ari Z h a ty n f) (K : Keep h h' ws) (q : a ∉ ws) : Ari Z h' a ty n f := by obtain ⟨cl, A, r⟩ := F; exact ⟨cl, ⟨K.2.1 a cl A.1 q, A.2⟩, r⟩
theorem Ari.congr (F : Ari Z h a ty n f) (q : ∀ i, i < n → f i = f' i) : Ari Z h a ty n f' := by obtain ⟨cl, A, r1, r2, r⟩ := F; exact ⟨cl, A, r1, r2, fun i hi => by rw [r i hi, q i hi]⟩
theorem Ari.small (F : Ari Z h a ty n f) : n < 2 ^ 31 := by obtain ⟨_, _, _, r, _⟩ := F; exact r
theorem Ari.set {j : Nat} {w : Int32} (F : Ari Z h a ty n f) (W : Wr h h' a j (.int w)) : Ari Z h' a ty n (fun i => if i = j then w else f i) := by
  obtain ⟨cl, A, r1, r2, r⟩ := F
  refine ⟨_, A.same W, by rw [sz_set]; exact r1, r2, fun i hi => ?_⟩
  by_cases u : i = j
  · subst u; simp [Cell.setSlot, r1, hi]
  · have := r i hi; simp only [Cell.setSlot, if_neg u]; rw [Array.getElem?_setIfInBounds_ne (Ne.symm u)]; exact this
theorem Ari.new {k : ClassId} {z : Int32} (A : Arr Z h a (newA k ty z) ty) (q : ¬ z < 0) (hz : z.toNatClampNeg = n) (hd : defaultValue ty = .int 0) : Ari Z h a ty n (fun _ => 0) :=
  ⟨_, A, by rw [sz_new, hz], by have := (back32 q).2; rw [hz] at this; exact this, fun i hi => by simp [newA, hz, hi, hd]⟩
theorem Ari.inb {cl : Cell} {j : Int32} {i : Nat} (hs : cl.slots.size = n) (hj : ¬ j < 0) (hi : j.toNatClampNeg = i) (hn : i < n) : ¬ (j < 0 ∨ cl.slots.size ≤ j.toNatClampNeg) := by
  rintro (q | q)
  · exact hj q
  · rw [hs, hi] at q; omega
theorem own_stB (X : Stand p l e R s m args below meth c T locs cells slots) (hx : p.tables.exec = Jvm.exec) (hZ : Z.Warmed39 s.vm) (eT : T.heap = h) (F : Ari Z h a .byte n f) {j x : Int32} (i : Nat) (hj : ¬ j < 0) (hi : j.toNatClampNeg = i) (hn : i < n) {g : JFrame} (hg : g.method = m) {rest : List Value} (hs : g.stack = .int x :: .int j :: .ref a :: rest) (hd : decode c.code g.pc = .ok (.bastore, 1)) :
    ∃ T' h', Stand p l e R s m args below meth c T' (locs ++ [⟨a, i⟩]) cells slots ∧ T'.heap = h' ∧ Wr h h' a i (.int (nar .byte x)) ∧ Ari Z h' a .byte n (fun k => if k = i then nar .byte x else f k) ∧ ∀ target, Steps p.tables e below (T'.setTop { g with pc := g.pc + 1, stack := rest }) target → Steps p.tables e below (T.setTop g) target := by
  obtain ⟨cl, A, r1, r2, r⟩ := F
  obtain ⟨T', h', X', e', W, st⟩ := stB X hx hZ eT A (j := j) (x := x) (Ari.inb r1 hj hi hn) hg hs hd
  rw [hi] at X' W
  exact ⟨T', h', X', e', W, Ari.set ⟨cl, A, r1, r2, r⟩ W, st⟩
theorem Done.ldB (X : Stand p l e R s m args below meth c T locs cells slots) (hx : p.tables.exec = Jvm.exec) (hZ : Z.Warmed39 s.vm) (eT : T.heap = h) (F : Ari Z h a .byte n f) {j w : Int32} (i : Nat) (hj : ¬ j < 0) (hi : j.toNatClampNeg = i) (hn : i < n) (hw : f i = w) {pc : Nat} {Ls : Array Slot} {rest : List Value} (hd : decode c.code pc = .ok (.baload, 1))
    (k : Done p e s below CC SS Q T (mkF m (pc + 1) Ls (.int w :: rest))) : Done p e s below CC SS Q T (mkF m pc Ls (.int j :: .ref a :: rest)) := by
  obtain ⟨cl, A, r1, r2, r⟩ := F
  refine Done.go (fun t kk => X.baloadBytes hx (j := j) (v := .int w) (by rw [eT]; exact A.1) (State.isArrayOf_alike hZ.alike A.2.1) A.2.2 (Ari.inb r1 hj hi hn) (by rw [hi, ← hw]; exact r i hn) (g := (mkF m pc Ls (.int j :: .ref a :: rest))) rfl rfl hd t kk) k
theorem Done.len (X : Stand p l e R s m args below meth c T locs cells slots) (hx : p.tables.exec = Jvm.exec) (hZ : Z.Warmed39 s.vm) (eT : T.heap = h) (F : Ari Z h a ty n f) {z : Int32} (hz : n.toInt32 = z) {pc : Nat} {Ls : Array Slot} {rest : List Value} (hd : decode c.code pc = .ok (.arraylength, 1))
    (k : Done p e s below CC SS Q T (mkF m (pc + 1) Ls (.int z :: rest))) : Done p e s below CC SS Q T (mkF m pc Ls (.ref a :: rest)) := by
  obtain ⟨cl, A, r1, r2, r⟩ := F
  subst r1 hz
  exact Done.go (fun t kk => X.arraylength hx (by rw [eT]; exact A.1) (State.isArrayOf_alike hZ.alike A.2.1) (g := (mkF m pc Ls (.ref a :: rest))) rfl rfl hd t kk) k
theorem own_nt {a b : Prop} (h : a ↔ b) (q : ¬ a) : ¬ b := fun r => q (h.mpr r)
theorem own_lt32 {x y : Int32} (hx : ¬ x < 0) (hy : ¬ y < 0) : x < y ↔ x.toNatClampNeg < y.toNatClampNeg := by
  have h0 : (0 : Int32).toInt = 0 := rfl
  rw [Int32.lt_iff_toInt_lt, h0] at hx hy
  rw [Int32.lt_iff_toInt_lt]
  simp only [Int32.toNatClampNeg]; omega
theorem own_mask (x m : Int32) (k : Nat) (hk : k ≤ 31) (hm : m.toBitVec.toNat = 2 ^ k - 1) : ¬ (x &&& m) < 0 ∧ (x &&& m).toNatClampNeg < 2 ^ k := by
  have h := c_mask x m k hk hm
  have hp : (0 : Int) < (2 ^ k : Nat) := by exact_mod_cast Nat.two_pow_pos k
  have h1 := Int.emod_nonneg x.toInt (Int.ne_of_gt hp)
  have h2 := Int.emod_lt_of_pos x.toInt hp
  have h0 : (0 : Int32).toInt = 0 := rfl
  rw [Int32.lt_iff_toInt_lt, h0]
  simp only [Int32.toNatClampNeg]
  constructor
  · omega
  · rw [h]; omega
end OwnA
end Jvm.RoadKit
namespace Jvm.RoadKit
open Sem ClassFile Op Lib Jvm.Stand Jvm.Free Jvm.LawKit
section OwnD
variable {p : Program} {l : Launch} {e : Env} {R : Room} {s : State} {m : MethodId} {args : Array Value} {below : List Frame} {meth : Method} {c : Code} {T : State} {locs : List Loc} {cells slots : Nat} {CC SS : Nat} {Q : Option Value → Heap → List Loc → Prop} {Z : State} {h h' : Heap} {a b : Addr} {ws : List Addr} {sl : Nat} {v w : Value} {n : Nat} {f f' : Nat → Int64}
/-- a double[] of n places at a; place i holds the whole number f i -/
def Ard (Z : State) (h : Heap) (a : Addr) (n : Nat) (f : Nat → Int64) : Prop := ∃ cl : Cell, Arr Z h a cl .double ∧ cl.slots.size = n ∧ n < 2 ^ 31 ∧ ∀ i, i < n → cl.slots[i]? = some (.double (FP.l2d (f i)))
theorem Ard.lt (F : Ard Z h a n f) : a < h.size := by obtain ⟨_, A, -⟩ := F; exact A.lt
theorem Ard.ext (F : Ard Z h a n f) (E : Ext h h') : Ard Z h' a n f := by obtain ⟨cl, A, r⟩ := F; exact ⟨cl, A.ext E, r⟩
theorem Ard.other (F : Ard Z h b n f) (W : Wr h h' a sl v) (q : b ≠ a) : Ard Z h' b n f := by obtain ⟨cl, A, r⟩ := F; exact ⟨cl, A.other W q, r⟩
theorem Ard.keep (F : Ard Z h a n f) (K : Keep h h' ws) (q : a ∉ ws) : Ard Z h' a n f := by obtain ⟨cl, A, r⟩ := F; exact ⟨cl, ⟨K.2.1 a cl A.1 q, A.2⟩, r⟩
theorem Ard.congr (F : Ard Z h a n f) (q : ∀ i, i < n → f i = f' i) : Ard Z h a n f' := by obtain ⟨cl, A, r1, r2, r⟩ := F; exact ⟨cl, A, r1, r2, fun i hi => by rw [r i hi, q i hi]⟩
theorem Ard.set {j : Nat} {y : Int64} (F : Ard Z h a n f) (W : Wr h h' a j (.double (FP.l2d y))) : Ard Z h' a n (fun i => if i = j then y else f i) := by
  obtain ⟨cl, A, r1, r2, r⟩ := F
  refine ⟨_, A.same W, by rw [sz_set]; exact r1, r2, fun i hi => ?_⟩
  by_cases u : i = j
  · subst u; simp [Cell.setSlot, r1, hi]
  · have := r i hi; simp only [Cell.setSlot, if_neg u]; rw [Array.getElem?_setIfInBounds_ne (Ne.symm u)]; exact this
theorem Ard.new {k : ClassId} {z : Int32} (A : Arr Z h a (newA k .double z) .double) (q : ¬ z < 0) (hz : z.toNatClampNeg = n) : Ard Z h a n (fun _ => 0) :=
  ⟨_, A, by rw [sz_new, hz], by have := (back32 q).2; rw [hz] at this; exact this, fun i hi => by simp [newA, hz, hi, defaultValue, l2d_zero]⟩
theorem own_stD (X : Stand p l e R s m args below meth c T locs cells slots) (hx : p.tables.exec = Jvm.exec) (hZ : Z.Warmed39 s.vm) (eT : T.heap = h) (F : Ard Z h a n f) {j : Int32} {y : Int64} (i : Nat) (hj : ¬ j < 0) (hi : j.toNatClampNeg = i) (hn : i < n) {g : JFrame} (hg : g.method = m) {rest : List Value} (hs : g.stack = .double (FP.l2d y) :: .int j :: .ref a :: rest) (hd : decode c.code g.pc = .ok (.dastore, 1)) :
    ∃ T' h', Stand p l e R s m args below meth c T' (locs ++ [⟨a, i⟩]) cells slots ∧ T'.heap = h' ∧ Wr h h' a i (.double (FP.l2d y)) ∧ Ard Z h' a n (fun k => if k = i then y else f k) ∧ ∀ target, Steps p.tables e below (T'.setTop { g with pc := g.pc + 1, stack := rest }) target → Steps p.tables e below (T.setTop g) target := by
  obtain ⟨cl, A, r1, r2, r⟩ := F
  obtain ⟨T', h', X', e', W, st⟩ := stD X hx hZ eT A (j := j) (x := FP.l2d y) (Ari.inb r1 hj hi hn) hg hs hd
  rw [hi] at X' W
  exact ⟨T', h', X', e', W, Ard.set ⟨cl, A, r1, r2, r⟩ W, st⟩
theorem Done.ldD (X : Stand p l e R s m args below meth c T locs cells slots) (hx : p.tables.exec = Jvm.exec) (hZ : Z.Warmed39 s.vm) (eT : T.heap = h) (F : Ard Z h a n f) {j : Int32} {y : Int64} (i : Nat) (hj : ¬ j < 0) (hi : j.toNatClampNeg = i) (hn : i < n) (hw : f i = y) {pc : Nat} {Ls : Array Slot} {rest : List Value} (hd : decode c.code pc = .ok (.daload, 1))
    (k : Done p e s below CC SS Q T (mkF m (pc + 1) Ls (.double (FP.l2d y) :: rest))) : Done p e s below CC SS Q T (mkF m pc Ls (.int j :: .ref a :: rest)) := by
  obtain ⟨cl, A, r1, r2, r⟩ := F
  exact Done.go (fun t kk => X.daload hx (j := j) (v := .double (FP.l2d y)) (by rw [eT]; exact A.1) (State.isArrayOf_alike hZ.alike A.2.1) A.2.2 (Ari.inb r1 hj hi hn) (by rw [hi, ← hw]; exact r i hn) (g := (mkF m pc Ls (.int j :: .ref a :: rest))) rfl rfl hd t kk) k
variable {fi : Nat → Int32}
theorem own_stI (X : Stand p l e R s m args below meth c T locs cells slots) (hx : p.tables.exec = Jvm.exec) (hZ : Z.Warmed39 s.vm) (eT : T.heap = h) (F : Ari Z h a .int n fi) {j x : Int32} (i : Nat) (hj : ¬ j < 0) (hi : j.toNatClampNeg = i) (hn : i < n) {g : JFrame} (hg : g.method = m) {rest : List Value} (hs : g.stack = .int x :: .int j :: .ref a :: rest) (hd : decode c.code g.pc = .ok (.iastore, 1)) :
    ∃ T' h', Stand p l e R s m args below meth c T' (locs ++ [⟨a, i⟩]) cells slots ∧ T'.heap = h' ∧ Wr h h' a i (.int x) ∧ Ari Z h' a .int n (fun k => if k = i then x else fi k) ∧ ∀ target, Steps p.tables e below (T'.setTop { g with pc := g.pc + 1, stack := rest }) target → Steps p.tables e below (T.setTop g) target := by
  obtain ⟨cl, A, r1, r2, r⟩ := F
  obtain ⟨T', h', X', e', W, st⟩ := stI X hx hZ eT A (j := j) (x := x) (Ari.inb r1 hj hi hn) hg hs hd
  rw [hi] at X' W
  exact ⟨T', h', X', e', W, Ari.set ⟨cl, A, r1, r2, r⟩ W, st⟩
theorem Done.ldI (X : Stand p l e R s m args below meth c T locs cells slots) (hx : p.tables.exec = Jvm.exec) (hZ : Z.Warmed39 s.vm) (eT : T.heap = h) (F : Ari Z h a .int n fi) {j w : Int32} (i : Nat) (hj : ¬ j < 0) (hi : j.toNatClampNeg = i) (hn : i < n) (hw : fi i = w) {pc : Nat} {Ls : Array Slot} {rest : List Value} (hd : decode c.code pc = .ok (.iaload, 1))
    (k : Done p e s below CC SS Q T (mkF m (pc + 1) Ls (.int w :: rest))) : Done p e s below CC SS Q T (mkF m pc Ls (.int j :: .ref a :: rest)) := by
  obtain ⟨cl, A, r1, r2, r⟩ := F
  exact Done.go (fun t kk => X.iaload hx (j := j) (v := .int w) (by rw [eT]; exact A.1) (State.isArrayOf_alike hZ.alike A.2.1) A.2.2 (Ari.inb r1 hj hi hn) (by rw [hi, ← hw]; exact r i hn) (g := (mkF m pc Ls (.int j :: .ref a :: rest))) rfl rfl hd t kk) k
theorem Done.retD (X : Stand p l e R s m args below meth c T locs cells slots) (hx : p.tables.exec = Jvm.exec) (hlk : meth.locks = false) {pc : Nat} {Ls : Array Slot} {z : UInt64} {rest : List Value} (hret : meth.sig.returnType = some .double) (hd : decode c.code pc = .ok (.dreturn, 1))
    (hq : Q (some (.double z)) T.heap locs) (hc : cells ≤ CC) (hs : slots ≤ SS) : Done p e s below CC SS Q T (mkF m pc Ls (.double z :: rest)) := by
  refine Done.ret X hlk (fun h => by rw [hret] at h; cases h) (fun fs hl => ?_) hq hc hs
  have hm' : T.vm.method? m = some meth := X.method'
  show Steps p.tables e below (T.setTop { method := m, pc := pc, locals := Ls, stack := _ :: rest, locked := none }) _
  jvm_step X.here [X.here.top, hx, hd, hm', hret]
  first | (intro acts; rw [hl _ acts rfl rfl rfl]) | rw [hl _ _ rfl rfl rfl]
  exact Steps.refl _
theorem own_d0 : FP.dconst0 = FP.l2d 0 := by rw [l2d_zero]; rfl
end OwnD
end Jvm.RoadKit
namespace Jvm.RoadKit
open Sem ClassFile Op Lib Jvm.Stand Jvm.Free Jvm.LawKit
theorem own_plainE {Z : State} {h : Heap} {a : Addr} {C : String} (E : Exa Z h a C) : ∃ c : Cell, h[a]? = some c ∧ c.vm.isStatics = false := by obtain ⟨c, _, h1, -, -, h4, -⟩ := E; exact ⟨c, h1, h4⟩
theorem Sta.own_keepL {Z : State} {h h' : Heap} {C n d : String} {w : Value} {ws : List Addr} (F : Sta Z h C n d w) (K : Keep h h' ws) (q : ∀ a ∈ ws, ∃ c : Cell, h[a]? = some c ∧ c.vm.isStatics = false) : Sta Z h' C n d w := by
  obtain ⟨cf, i, kk, ff, st, cell, h1, h2, h3, h4, h5, h6, h7⟩ := F
  have ne : st ∉ ws := fun e => by
    obtain ⟨c, u1, u2⟩ := q st e
    cases h5.symm.trans u1
    rw [u2] at h6; cases h6
  exact ⟨cf, i, kk, ff, st, cell, h1, h2, h3, h4, K.2.1 st cell h5 ne, h6, h7⟩
end Jvm.RoadKit
namespace Jvm.RoadKit
open Sem ClassFile Op Lib Jvm.Stand Jvm.Free Jvm.LawKit
section OwnWD
variable {p : Program} {l : Launch} {e : Env} {R : Room} {s bs : State} {m : MethodId} {args : Array Value} {below : List Frame} {meth : Method} {c : Code} {T T' : State} {locs : List Loc} {cells slots : Nat} {CC SS : Nat} {Q : Option Value → Heap → List Loc → Prop} {g g' : JFrame}
theorem own_dummyW : True := trivial
/-- the base bs over which a walk stands, and the true start s: what was interned since lies below k -/
def Sn (s bs : State) (k : Nat) : Prop := ∃ vm, bs = s.setVm vm ∧ s.Since vm k
theorem Sn.start (s : State) (k : Nat) : Sn s s k := ⟨s.vm, rfl, (State.WarmedH.refl s).since k⟩
def DoneW (p : Program) (e : Env) (s : State) (below : List Frame) (CC SS : Nat) (Q : Option Value → Heap → List Loc → Prop) (T : State) (g : JFrame) : Prop :=
  ∃ s₂ o, Steps p.tables e below (T.setTop g) s₂ ∧ s₂.status = .running ∧ Ended s₂ below o ∧ ∃ v L, o = .returned v ∧ Q v s₂.heap L ∧ ReturnedEndW s o s₂ L CC SS
theorem DoneW.ret (X : Stand p l e R bs m args below meth c T locs cells slots) (hlk : meth.locks = false ∧ ∃ k, Sn s bs k ∧ k ≤ T.heap.size) {v : Option Value} (hv : meth.sig.returnType = none → v = none)
    (st : ∀ fs : List Frame, (∀ (f : JFrame) (acts : List Action), f.method = m → f.locked = none → f.entered = [] → (doReturn e (T.setTop f) acts v).1 = T.setFrames fs) → Steps p.tables e below (T.setTop g) (T.setFrames fs))
    (hq : Q v T.heap locs) (hc : cells ≤ CC) (hs : slots ≤ SS) : DoneW p e s below CC SS Q T g := by
  obtain ⟨hl, k, ⟨vm, rfl, hS⟩, hk⟩ := hlk
  obtain ⟨fs, hr, hrun, hended, hW⟩ := X.leaveW hS hk (v := v) hv hl
  exact ⟨_, _, st fs hr, hrun, hended, _, _, rfl, hq, hW.1, hW.2.1, hW.2.2.1, hW.2.2.2.mono hc hs⟩
theorem DoneW.go (st : ∀ t, Steps p.tables e below (T'.setTop g') t → Steps p.tables e below (T.setTop g) t) (k : DoneW p e s below CC SS Q T' g') : DoneW p e s below CC SS Q T g := by
  obtain ⟨s2, o, h, r⟩ := k; exact ⟨s2, o, st _ h, r⟩
theorem DoneW.via (st : Steps p.tables e below (T.setTop g) (T'.setTop g')) (k : DoneW p e s below CC SS Q T' g') : DoneW p e s below CC SS Q T g := by
  obtain ⟨s2, o, h, r⟩ := k; exact ⟨s2, o, st.trans h, r⟩
theorem DoneW.retI (X : Stand p l e R bs m args below meth c T locs cells slots) (hx : p.tables.exec = Jvm.exec) (hlk : meth.locks = false ∧ ∃ k, Sn s bs k ∧ k ≤ T.heap.size) {pc : Nat} {Ls : Array Slot} {z : Int32} {rest : List Value} (hret : meth.sig.returnType = some .int) (hd : decode c.code pc = .ok (.ireturn, 1))
    (hq : Q (some (.int z)) T.heap locs) (hc : cells ≤ CC) (hs : slots ≤ SS) : DoneW p e s below CC SS Q T (mkF m pc Ls (.int z :: rest)) := by
  refine DoneW.ret X hlk (fun h => by rw [hret] at h; cases h) (fun fs hl => ?_) hq hc hs
  have hm' : T.vm.method? m = some meth := X.method'
  have hn : narrow .int (.int z) = .int z := rfl
  show Steps p.tables e below (T.setTop { method := m, pc := pc, locals := Ls, stack := _ :: rest, locked := none }) _
  jvm_step X.here [X.here.top, hx, hd, hm', hret, hn]
  first | (intro acts; rw [hl _ acts rfl rfl rfl]) | rw [hl _ _ rfl rfl rfl]
  exact Steps.refl _
theorem DoneW.retJ (X : Stand p l e R bs m args below meth c T locs cells slots) (hx : p.tables.exec = Jvm.exec) (hlk : meth.locks = false ∧ ∃ k, Sn s bs k ∧ k ≤ T.heap.size) {pc : Nat} {Ls : Array Slot} {z : Int64} {rest : List Value} (hret : meth.sig.returnType = some .long) (hd : decode c.code pc = .ok (.lreturn, 1))
    (hq : Q (some (.long z)) T.heap locs) (hc : cells ≤ CC) (hs : slots ≤ SS) : DoneW p e s below CC SS Q T (mkF m pc Ls (.long z :: rest)) := by
  refine DoneW.ret X hlk (fun h => by rw [hret] at h; cases h) (fun fs hl => ?_) hq hc hs
  have hm' : T.vm.method? m = some meth := X.method'
  show Steps p.tables e below (T.setTop { method := m, pc := pc, locals := Ls, stack := _ :: rest, locked := none }) _
  jvm_step X.here [X.here.top, hx, hd, hm', hret]
  first | (intro acts; rw [hl _ acts rfl rfl rfl]) | rw [hl _ _ rfl rfl rfl]
  exact Steps.refl _
theorem DoneW.retR (X : Stand p l e R bs m args below meth c T locs cells slots) (hx : p.tables.exec = Jvm.exec) (hlk : meth.locks = false ∧ ∃ k, Sn s bs k ∧ k ≤ T.heap.size) {pc : Nat} {Ls : Array Slot} {v : Value} {t : FieldType} {rest : List Value} (hret : meth.sig.returnType = some t) (ht : t.isReference = true) (hv : v.isRef = true) (hd : decode c.code pc = .ok (.areturn, 1))
    (hq : Q (some v) T.heap locs) (hc : cells ≤ CC) (hs : slots ≤ SS) : DoneW p e s below CC SS Q T (mkF m pc Ls (v :: rest)) := by
  refine DoneW.ret X hlk (fun h => by rw [hret] at h; cases h) (fun fs hl => ?_) hq hc hs
  have hm' : T.vm.method? m = some meth := X.method'
  show Steps p.tables e below (T.setTop { method := m, pc := pc, locals := Ls, stack := _ :: rest, locked := none }) _
  jvm_step X.here [X.here.top, hx, hd, hm', hret, ht, hv]
  first | (intro acts; rw [hl _ acts rfl rfl rfl]) | rw [hl _ _ rfl rfl rfl]
  exact Steps.refl _
theorem DoneW.retV (X : Stand p l e R bs m args below meth c T locs cells slots) (hx : p.tables.exec = Jvm.exec) (hlk : meth.locks = false ∧ ∃ k, Sn s bs k ∧ k ≤ T.heap.size) {pc : Nat} {Ls : Array Slot} (hret : meth.sig.returnType = none) (hd : decode c.code pc = .ok (.return_, 1))
    (hq : Q none T.heap locs) (hc : cells ≤ CC) (hs : slots ≤ SS) : DoneW p e s below CC SS Q T (mkF m pc Ls []) :=
  DoneW.ret X hlk (fun _ => rfl) (fun fs hl => X.returnOut hx hret hd hl) hq hc hs
theorem DoneW.retN (X : Stand p l e R bs m args below meth c T locs cells slots) (hx : p.tables.exec = Jvm.exec) (hlk : meth.locks = false ∧ ∃ k, Sn s bs k ∧ k ≤ T.heap.size) {pc : Nat} {Ls : Array Slot} {z z' : Int32} {t : FieldType} {rest : List Value} (hret : meth.sig.returnType = some t) (ht : t = .boolean ∨ t = .byte ∨ t = .char ∨ t = .short) (hz : nar t z = z')
    (hd : decode c.code pc = .ok (.ireturn, 1)) (hq : Q (some (.int z')) T.heap locs) (hc : cells ≤ CC) (hs : slots ≤ SS) : DoneW p e s below CC SS Q T (mkF m pc Ls (.int z :: rest)) := by
  subst hz
  exact DoneW.ret X hlk (fun h => by rw [hret] at h; cases h) (fun fs hl => Jvm.RoadKit.retN X hx hret ht hd hl) hq hc hs
end OwnWD
section OwnW
variable {p : Program} {l : Launch} {e : Env} {R : Room} {s bs : State} {m : MethodId} {args : Array Value} {below : List Frame} {meth : Method} {c : Code} {T T' : State} {locs : List Loc} {cells slots : Nat} {Z : State} {a0 : Array Value} {h : Heap} {g : JFrame}
theorem own_ldcS (X : Stand p l e R bs m args below meth c T locs cells slots) (hx : p.tables.exec = Jvm.exec) (hZ : Z.Warmed39 bs.vm) {own text : String} {index : Nat} (hown : bs.vm.findClass own = some m.cls) (w : (Cond.stringLink own index text).before a0 Z = true) (wS : ∀ a ∈ Bundle.stringAtoms, a.before a0 Z = true)
    (eT : T.heap = h) {k0 : Nat} (hS : Sn s bs k0) (hk : k0 ≤ h.size) (hg : g.method = m) (hd : decode c.code g.pc = .ok (.ldc index, 2)) {n : Nat} (hn : 4 * text.toList.length ≤ n) (hbig : n ≤ 536870912) (hc : cells + 2 ≤ R.cells) (hl : slots + (n + 4) ≤ R.slots) :
    ∃ (a : Addr) (T' : State) (h' : Heap) (b' : State) (k1 : Nat), Stand p l e R b' m args below meth c T' locs (cells + 2) (slots + (n + 4)) ∧ T'.heap = h' ∧ Ext h h' ∧ Sn s b' k1 ∧ k1 ≤ h'.size ∧ Z.Warmed39 b'.vm ∧ b'.vm.findClass own = some m.cls ∧
      ∀ target, Steps p.tables e below (T'.setTop { g with pc := g.pc + 2, stack := .ref a :: g.stack }) target → Steps p.tables e below (T.setTop g) target := by
  obtain ⟨vm0, rfl, hS⟩ := hS
  obtain ⟨a, T', h', k1, X', e', E, hS', hk', hZ', hown', st⟩ := ldcS X hx hZ hown w wS eT hS hk hg hd hn hbig hc hl
  exact ⟨a, T', h', _, k1, X', e', E, ⟨_, rfl, hS'⟩, hk', hZ', hown', st⟩
theorem own_backW {rc rs : Nat} {rest : List Value} {own : String} {k0 : Nat} {Q0 : Option Value → Heap → List Loc → Prop} (hZ : Z.Warmed39 bs.vm) (hown : bs.vm.findClass own = some m.cls) (hS : Sn s bs k0) (hk : k0 ≤ T.heap.size)
    (h : ∃ (v : Option Value) (vm₁ : Vm) (B : Pt), bs.WarmedH vm₁ ∧ Stand p l e R (bs.setVm B.U.vm) m args below meth c B.U B.locs B.cells B.slots ∧ bs.Since B.U.vm B.U.heap.size ∧ T.heap.size ≤ B.U.heap.size ∧ (∃ L, Q0 v B.U.heap L ∧ B.locs = locs ++ L ∧ B.cells = cells + rc ∧ B.slots = slots + rs) ∧
      Steps p.tables e below (T.setTop g) (B.U.setTop { g with pc := g.pc + 3, stack := v.toList ++ rest })) :
    ∃ v T' Lc b', Stand p l e R b' m args below meth c T' (locs ++ Lc) (cells + rc) (slots + rs) ∧ Q0 v T'.heap Lc ∧ Sn s b' T'.heap.size ∧ Z.Warmed39 b'.vm ∧ b'.vm.findClass own = some m.cls ∧ ∀ target, Steps p.tables e below (T'.setTop { g with pc := g.pc + 3, stack := v.toList ++ rest }) target → Steps p.tables e below (T.setTop g) target := by
  obtain ⟨v, vm, ⟨U, L, k, n⟩, -, X, hS2, hgr, ⟨Lc, hQ, rfl, rfl, rfl⟩, st⟩ := h
  obtain ⟨vm0, rfl, hS⟩ := hS
  exact ⟨v, U, Lc, _, X, hQ, ⟨_, rfl, hS.trans hS2 (Nat.le_trans hk hgr)⟩, State.Warmed39.trans hZ hS2.1, by rw [show ((s.setVm vm0).setVm U.vm).vm = U.vm from rfl, hS2.1.alike.findClass]; exact hown, fun _ k => st.trans k⟩
end OwnW
end Jvm.RoadKit
namespace Jvm.RoadKit
open Sem ClassFile Op Lib Jvm.Stand Jvm.Free Jvm.LawKit
section OwnRD
variable {p : Program} {l : Launch} {e : Env} {R : Room} {s bs : State} {P : Vm → Prop} {m : MethodId} {args : Array Value} {below : List Frame} {meth : Method} {c : Code} {T T' : State} {locs : List Loc} {cells slots : Nat} {CC SS : Nat} {Q : Option Value → Heap → List Loc → Prop} {g g' : JFrame}
/-- the String constant at own's entry i is resolved -/
def Rsd (vm : Vm) (own : String) (i : Nat) : Prop := ∃ c k a, vm.findClass own = some c ∧ vm.classes[c]? = some k ∧ k.resolved[i]? = some (some (.string a))
theorem Rsd.up {s : State} {vm : Vm} {own : String} {i : Nat} (R : Rsd s.vm own i) (W : s.Warmed39 vm) : Rsd vm own i := by
  obtain ⟨c, k, a, h1, h2, h3⟩ := R
  obtain ⟨k', g1, -, -, ee, -⟩ := W.2.2.2 _ k h2
  refine ⟨c, k', a, by rw [W.alike.findClass]; exact h1, g1, ?_⟩
  rcases ee i with q | ⟨q, -⟩
  · rw [q]; exact h3
  · rw [h3] at q; cases q
def DoneR (P : Vm → Prop) (p : Program) (e : Env) (s : State) (below : List Frame) (CC SS : Nat) (Q : Option Value → Heap → List Loc → Prop) (T : State) (g : JFrame) : Prop :=
  ∃ s₂ o, Steps p.tables e below (T.setTop g) s₂ ∧ s₂.status = .running ∧ Ended s₂ below o ∧ ∃ v L, o = .returned v ∧ Q v s₂.heap L ∧ P s₂.vm ∧ ReturnedEndW s o s₂ L CC SS
theorem DoneR.ret (X : Stand p l e R bs m args below meth c T locs cells slots) (hlk : (meth.locks = false ∧ ∃ k, Sn s bs k ∧ k ≤ T.heap.size) ∧ P T.vm) {v : Option Value} (hv : meth.sig.returnType = none → v = none)
    (st : ∀ fs : List Frame, (∀ (f : JFrame) (acts : List Action), f.method = m → f.locked = none → f.entered = [] → (doReturn e (T.setTop f) acts v).1 = T.setFrames fs) → Steps p.tables e below (T.setTop g) (T.setFrames fs))
    (hq : Q v T.heap locs) (hc : cells ≤ CC) (hs : slots ≤ SS) : DoneR P p e s below CC SS Q T g := by
  obtain ⟨⟨hl, k, ⟨vm, rfl, hS⟩, hk⟩, hP⟩ := hlk
  obtain ⟨fs, hr, hrun, hended, hW⟩ := X.leaveW hS hk (v := v) hv hl
  exact ⟨_, _, st fs hr, hrun, hended, _, _, rfl, hq, hP, hW.1, hW.2.1, hW.2.2.1, hW.2.2.2.mono hc hs⟩
theorem DoneR.go (st : ∀ t, Steps p.tables e below (T'.setTop g') t → Steps p.tables e below (T.setTop g) t) (k : DoneR P p e s below CC SS Q T' g') : DoneR P p e s below CC SS Q T g := by
  obtain ⟨s2, o, h, r⟩ := k; exact ⟨s2, o, st _ h, r⟩
theorem DoneR.via (st : Steps p.tables e below (T.setTop g) (T'.setTop g')) (k : DoneR P p e s below CC SS Q T' g') : DoneR P p e s below CC SS Q T g := by
  obtain ⟨s2, o, h, r⟩ := k; exact ⟨s2, o, st.trans h, r⟩
theorem DoneR.retI (X : Stand p l e R bs m args below meth c T locs cells slots) (hx : p.tables.exec = Jvm.exec) (hlk : (meth.locks = false ∧ ∃ k, Sn s bs k ∧ k ≤ T.heap.size) ∧ P T.vm) {pc : Nat} {Ls : Array Slot} {z : Int32} {rest : List Value} (hret : meth.sig.returnType = some .int) (hd : decode c.code pc = .ok (.ireturn, 1))
    (hq : Q (some (.int z)) T.heap locs) (hc : cells ≤ CC) (hs : slots ≤ SS) : DoneR P p e s below CC SS Q T (mkF m pc Ls (.int z :: rest)) := by
  refine DoneR.ret X hlk (fun h => by rw [hret] at h; cases h) (fun fs hl => ?_) hq hc hs
  have hm' : T.vm.method? m = some meth := X.method'
  have hn : narrow .int (.int z) = .int z := rfl
  show Steps p.tables e below (T.setTop { method := m, pc := pc, locals := Ls, stack := _ :: rest, locked := none }) _
  jvm_step X.here [X.here.top, hx, hd, hm', hret, hn]
  first | (intro acts; rw [hl _ acts rfl rfl rfl]) | rw [hl _ _ rfl rfl rfl]
  exact Steps.refl _
theorem DoneR.retJ (X : Stand p l e R bs m args below meth c T locs cells slots) (hx : p.tables.exec = Jvm.exec) (hlk : (meth.locks = false ∧ ∃ k, Sn s bs k ∧ k ≤ T.heap.size) ∧ P T.vm) {pc : Nat} {Ls : Array Slot} {z : Int64} {rest : List Value} (hret : meth.sig.returnType = some .long) (hd : decode c.code pc = .ok (.lreturn, 1))
    (hq : Q (some (.long z)) T.heap locs) (hc : cells ≤ CC) (hs : slots ≤ SS) : DoneR P p e s below CC SS Q T (mkF m pc Ls (.long z :: rest)) := by
  refine DoneR.ret X hlk (fun h => by rw [hret] at h; cases h) (fun fs hl => ?_) hq hc hs
  have hm' : T.vm.method? m = some meth := X.method'
  show Steps p.tables e below (T.setTop { method := m, pc := pc, locals := Ls, stack := _ :: rest, locked := none }) _
  jvm_step X.here [X.here.top, hx, hd, hm', hret]
  first | (intro acts; rw [hl _ acts rfl rfl rfl]) | rw [hl _ _ rfl rfl rfl]
  exact Steps.refl _
theorem DoneR.retR (X : Stand p l e R bs m args below meth c T locs cells slots) (hx : p.tables.exec = Jvm.exec) (hlk : (meth.locks = false ∧ ∃ k, Sn s bs k ∧ k ≤ T.heap.size) ∧ P T.vm) {pc : Nat} {Ls : Array Slot} {v : Value} {t : FieldType} {rest : List Value} (hret : meth.sig.returnType = some t) (ht : t.isReference = true) (hv : v.isRef = true) (hd : decode c.code pc = .ok (.areturn, 1))
    (hq : Q (some v) T.heap locs) (hc : cells ≤ CC) (hs : slots ≤ SS) : DoneR P p e s below CC SS Q T (mkF m pc Ls (v :: rest)) := by
  refine DoneR.ret X hlk (fun h => by rw [hret] at h; cases h) (fun fs hl => ?_) hq hc hs
  have hm' : T.vm.method? m = some meth := X.method'
  show Steps p.tables e below (T.setTop { method := m, pc := pc, locals := Ls, stack := _ :: rest, locked := none }) _
  jvm_step X.here [X.here.top, hx, hd, hm', hret, ht, hv]
  first | (intro acts; rw [hl _ acts rfl rfl rfl]) | rw [hl _ _ rfl rfl rfl]
  exact Steps.refl _
theorem DoneR.retV (X : Stand p l e R bs m args below meth c T locs cells slots) (hx : p.tables.exec = Jvm.exec) (hlk : (meth.locks = false ∧ ∃ k, Sn s bs k ∧ k ≤ T.heap.size) ∧ P T.vm) {pc : Nat} {Ls : Array Slot} (hret : meth.sig.returnType = none) (hd : decode c.code pc = .ok (.return_, 1))
    (hq : Q none T.heap locs) (hc : cells ≤ CC) (hs : slots ≤ SS) : DoneR P p e s below CC SS Q T (mkF m pc Ls []) :=
  DoneR.ret X hlk (fun _ => rfl) (fun fs hl => X.returnOut hx hret hd hl) hq hc hs
theorem DoneR.retN (X : Stand p l e R bs m args below meth c T locs cells slots) (hx : p.tables.exec = Jvm.exec) (hlk : (meth.locks = false ∧ ∃ k, Sn s bs k ∧ k ≤ T.heap.size) ∧ P T.vm) {pc : Nat} {Ls : Array Slot} {z z' : Int32} {t : FieldType} {rest : List Value} (hret : meth.sig.returnType = some t) (ht : t = .boolean ∨ t = .byte ∨ t = .char ∨ t = .short) (hz : nar t z = z')
    (hd : decode c.code pc = .ok (.ireturn, 1)) (hq : Q (some (.int z')) T.heap locs) (hc : cells ≤ CC) (hs : slots ≤ SS) : DoneR P p e s below CC SS Q T (mkF m pc Ls (.int z :: rest)) := by
  subst hz
  exact DoneR.ret X hlk (fun h => by rw [hret] at h; cases h) (fun fs hl => Jvm.RoadKit.retN X hx hret ht hd hl) hq hc hs
end OwnRD
section OwnR
variable {p : Program} {l : Launch} {e : Env} {R : Room} {s bs : State} {m : MethodId} {args : Array Value} {below : List Frame} {meth : Method} {c : Code} {T T' : State} {locs : List Loc} {cells slots : Nat} {Z : State} {a0 : Array Value} {h : Heap} {g : JFrame} {P P0 : Vm → Prop}
theorem own_ldcR (X : Stand p l e R bs m args below meth c T locs cells slots) (hx : p.tables.exec = Jvm.exec) (hZ : Z.Warmed39 bs.vm) {own text : String} {index : Nat} (hown : bs.vm.findClass own = some m.cls) (w : (Cond.stringLink own index text).before a0 Z = true) (wS : ∀ a ∈ Bundle.stringAtoms, a.before a0 Z = true)
    (eT : T.heap = h) {k0 : Nat} (hS : Sn s bs k0) (hk : k0 ≤ h.size) (hg : g.method = m) (hd : decode c.code g.pc = .ok (.ldc index, 2)) {n : Nat} (hn : 4 * text.toList.length ≤ n) (hbig : n ≤ 536870912) (hc : cells + 2 ≤ R.cells) (hl : slots + (n + 4) ≤ R.slots) :
    ∃ (a : Addr) (T' : State) (h' : Heap) (b' : State) (k1 : Nat), Stand p l e R b' m args below meth c T' locs (cells + 2) (slots + (n + 4)) ∧ T'.heap = h' ∧ Ext h h' ∧ Sn s b' k1 ∧ k1 ≤ h'.size ∧ Z.Warmed39 b'.vm ∧ b'.vm.findClass own = some m.cls ∧ bs.Warmed39 b'.vm ∧ Rsd b'.vm own index ∧
      ∀ target, Steps p.tables e below (T'.setTop { g with pc := g.pc + 2, stack := .ref a :: g.stack }) target → Steps p.tables e below (T.setTop g) target := by
  subst eT
  obtain ⟨vm0, rfl, hS⟩ := hS
  obtain ⟨a, T', X', hS', ⟨k2, r1, r2⟩, hb, -, st⟩ := X.ldcStringCold hx (own := own) hown (mvS (s := s) hZ w) (fun d hd => by
    have q := wS d hd
    simp only [Bundle.stringAtoms, List.mem_cons, List.not_mem_nil, or_false] at hd
    rcases hd with rfl | rfl | rfl | rfl | rfl | rfl | rfl
    · exact mv (s := s.setVm vm0) hZ q
    · exact mv (s := s.setVm vm0) hZ q
    · exact mvA (s := s.setVm vm0) hZ q
    · exact mv (s := s.setVm vm0) hZ q
    · exact mv (s := s.setVm vm0) hZ q
    · exact mv (s := s.setVm vm0) hZ q
    · exact mv (s := s.setVm vm0) hZ q) hg hd hn hbig hc hl
  have E := ext_of hb
  have hf : T'.vm.findClass own = some m.cls := by rw [hS'.1.alike.findClass]; exact hown
  exact ⟨a, T', _, _, _, X', rfl, E, ⟨_, rfl, hS.trans hS' (Nat.le_trans hk E.1)⟩, Nat.le_refl _, State.Warmed39.trans (t := s.setVm vm0) hZ hS'.1, hf, hS'.1, ⟨_, _, _, hf, r1, r2⟩, st⟩
theorem own_ldcH (X : Stand p l e R bs m args below meth c T locs cells slots) (hx : p.tables.exec = Jvm.exec) (hZ : Z.Warmed39 bs.vm) {own text : String} {index : Nat} (hown : bs.vm.findClass own = some m.cls) (w : (Cond.stringLink own index text).before a0 Z = true) (hR : Rsd bs.vm own index)
    (hg : g.method = m) (hd : decode c.code g.pc = .ok (.ldc index, 2)) :
    ∃ a : Addr, ∀ target, Steps p.tables e below (T.setTop { g with pc := g.pc + 2, stack := .ref a :: g.stack }) target → Steps p.tables e below (T.setTop g) target := by
  obtain ⟨k, cf, i, units, hk, hcf, hc, -⟩ := Cond.stringLink_spec hown (mvS (s := bs) (args := args) hZ w)
  obtain ⟨c1, k1, a, r1, r2, r3⟩ := hR
  cases hown.symm.trans r1
  cases hk.symm.trans r2
  obtain ⟨k', hk', he⟩ := X.warmed.alike.2.2 _ _ hk
  have hr' : k'.resolved[index]? = some (some (.string a)) := by
    rcases X.warmed.entry hk hk' index with q | ⟨q, -⟩
    · rw [q]; exact r3
    · rw [r3] at q; cases q
  refine ⟨a, fun target hrest => ?_⟩
  subst hg
  jvm_step X.here [hx, hd, ldc.wp_string (e := e) (s := T) (f := g) X.here.top hk' (by rw [he]; exact hcf) hc hr']
  exact hrest
theorem own_backOfSR {y : MethodName} {bytes : ByteArray} {maxL : Nat} {ret : Option FieldType} {rm : Room} {len W : Nat} {as' : Array Value} {Q : Option Value → Heap → List Loc → Prop}
    (hM : MetFree l y (head1 [Cond.code y bytes maxL ret] rm) (fun a U => a = as' ∧ Z.Warmed39 U.vm ∧ U.heap = h ∧ P0 U.vm) (fun _ _ _ _ _ => True) (fun _ U o U' => ∃ v L, o = .returned v ∧ Q v U'.heap L ∧ P U'.vm ∧ ReturnedEndW U o U' L rm.cells rm.slots))
    (hZ : Z.Warmed39 s.vm) (wc : (Cond.code y bytes maxL ret).before a0 Z = true) (wz : (Cond.initialized y.cls).before a0 Z = true) (hf : rm.frames + 1 ≤ R.frames) (hl : W + (maxL + 11) + rm.locals ≤ R.locals) (hP : ∀ vm, s.Warmed39 vm → P0 vm) :
    BackS l R p e below s args y len W (fun A a => a = as' ∧ A.U.heap = h ∧ A.cells + rm.cells ≤ R.cells ∧ A.slots + rm.slots ≤ R.slots)
      (fun A _ v B => ∃ L, (Q v B.U.heap L ∧ P B.U.vm) ∧ B.locs = A.locs ++ L ∧ B.cells = A.cells + rm.cells ∧ B.slots = A.slots + rm.slots) :=
  BackS.of_freeW (bytes := bytes) (maxL := maxL) (ret := ret) (E := fun _ _ o t L k n => k = rm.cells ∧ n = rm.slots ∧ ∃ v, o = .returned v ∧ Q v t.heap L ∧ P t.vm) hM hf hl
    (fun m meth c A a Y hp => have hU : Z.Warmed39 A.U.vm := wtrans hZ Y.warmed
      ⟨by show (Cond.and _ .tt).before a A.U = true; rw [Cond.before_and, mv hU wc]; rfl, mv hU wc, mv hU wz, hp.2.2.1, hp.2.2.2⟩)
    (fun m meth c A a g mk Y hp => ⟨hp.1, wtrans hZ Y.warmed, hp.2.1, hP _ Y.warmed.wide⟩) (fun _ _ _ _ _ _ _ _ _ => trivial)
    (fun _ _ _ _ ⟨v, L, h1, h2, h3, h4⟩ => ⟨L, _, _, h4, rfl, rfl, v, h1, h2, h3⟩)
    (fun m meth c A a g mk v t L k n Y hp _ _ ⟨e1, e2, v', e3, e4⟩ => by cases e3; subst e1 e2; exact ⟨L, e4, rfl, rfl, rfl⟩)
theorem own_backWR {rc rs : Nat} {rest : List Value} {own : String} {k0 : Nat} {Q0 : Option Value → Heap → List Loc → Prop} (hZ : Z.Warmed39 bs.vm) (hown : bs.vm.findClass own = some m.cls) (hS : Sn s bs k0) (hk : k0 ≤ T.heap.size)
    (h : ∃ (v : Option Value) (vm₁ : Vm) (B : Pt), bs.WarmedH vm₁ ∧ Stand p l e R (bs.setVm B.U.vm) m args below meth c B.U B.locs B.cells B.slots ∧ bs.Since B.U.vm B.U.heap.size ∧ T.heap.size ≤ B.U.heap.size ∧ (∃ L, (Q0 v B.U.heap L ∧ P B.U.vm) ∧ B.locs = locs ++ L ∧ B.cells = cells + rc ∧ B.slots = slots + rs) ∧
      Steps p.tables e below (T.setTop g) (B.U.setTop { g with pc := g.pc + 3, stack := v.toList ++ rest })) :
    ∃ v T' Lc b', Stand p l e R b' m args below meth c T' (locs ++ Lc) (cells + rc) (slots + rs) ∧ Q0 v T'.heap Lc ∧ Sn s b' T'.heap.size ∧ Z.Warmed39 b'.vm ∧ b'.vm.findClass own = some m.cls ∧ bs.Warmed39 b'.vm ∧ P b'.vm ∧ ∀ target, Steps p.tables e below (T'.setTop { g with pc := g.pc + 3, stack := v.toList ++ rest }) target → Steps p.tables e below (T.setTop g) target := by
  obtain ⟨v, vm, ⟨U, L, k, n⟩, -, X, hS2, hgr, ⟨Lc, ⟨hQ, hP⟩, rfl, rfl, rfl⟩, st⟩ := h
  obtain ⟨vm0, rfl, hS⟩ := hS
  exact ⟨v, U, Lc, _, X, hQ, ⟨_, rfl, hS.trans hS2 (Nat.le_trans hk hgr)⟩, State.Warmed39.trans hZ hS2.1, by rw [show ((s.setVm vm0).setVm U.vm).vm = U.vm from rfl, hS2.1.alike.findClass]; exact hown, hS2.1, hP, fun _ k => st.trans k⟩
end OwnR
section OwnRX
variable {p : Program} {l : Launch} {e : Env} {R : Room} {s bs : State} {P : Vm → Prop} {m : MethodId} {args : Array Value} {below : List Frame} {meth : Method} {c : Code} {T : State} {locs : List Loc} {cells slots : Nat} {CC SS : Nat} {Q : Option Value → Heap → List Loc → Prop} {Z : State} {h h' : Heap} {a b : Addr} {ws : List Addr} {sl : Nat} {v w : Value} {n : Nat} {f f' : Nat → Int64}
theorem DoneR.retD (X : Stand p l e R bs m args below meth c T locs cells slots) (hx : p.tables.exec = Jvm.exec) (hlk : (meth.locks = false ∧ ∃ k, Sn s bs k ∧ k ≤ T.heap.size) ∧ P T.vm) {pc : Nat} {Ls : Array Slot} {z : UInt64} {rest : List Value} (hret : meth.sig.returnType = some .double) (hd : decode c.code pc = .ok (.dreturn, 1))
    (hq : Q (some (.double z)) T.heap locs) (hc : cells ≤ CC) (hs : slots ≤ SS) : DoneR P p e s below CC SS Q T (mkF m pc Ls (.double z :: rest)) := by
  refine DoneR.ret X hlk (fun h => by rw [hret] at h; cases h) (fun fs hl => ?_) hq hc hs
  have hm' : T.vm.method? m = some meth := X.method'
  show Steps p.tables e below (T.setTop { method := m, pc := pc, locals := Ls, stack := _ :: rest, locked := none }) _
  jvm_step X.here [X.here.top, hx, hd, hm', hret]
  first | (intro acts; rw [hl _ acts rfl rfl rfl]) | rw [hl _ _ rfl rfl rfl]
  exact Steps.refl _
end OwnRX
end Jvm.RoadKit
namespace Jvm.Pilot.@@N@@
open Jvm Jvm.ClassFile Sem Op Lib Jvm.Free Jvm.Stand Jvm.LawKit Jvm.RoadKit Bundle Jvm.Pilot.@@N@@.Jvm.D
theorem own_wS {Z : State} {a0 : Array Value} (hw : ∀ d ∈ tables_1, d.before a0 Z = true) : ∀ a ∈ Bundle.stringAtoms, a.before a0 Z = true := fun a ha => by
  simp only [Bundle.stringAtoms, List.mem_cons, List.not_mem_nil, or_false] at ha
  rcases ha with rfl | rfl | rfl | rfl | rfl | rfl | rfl
  · exact (hw _ (List.mem_of_getElem? (i := 20) rfl))
  · exact (hw _ (List.mem_of_getElem? (i := 21) rfl))
  · exact (hw _ (List.mem_of_getElem? (i := 22) rfl))
  · exact (hw _ (List.mem_of_getElem? (i := 23) rfl))
  · exact (hw _ (List.mem_of_getElem? (i := 24) rfl))
  · exact (hw _ (List.mem_of_getElem? (i := 25) rfl))
  · exact (hw _ (List.mem_of_getElem? (i := 26) rfl))
abbrev PT (_ : Vm) : Prop := True
abbrev PF (vm : Vm) : Prop := Rsd vm "com/example/citadel_hill/citadelhill/channel/ParameterChecks" 13
def own_dk (p : Int32) : Int32 := if (p &&& (3 : Int32)) = (0 : Int32) then (p &&& (4 : Int32)) else (p &&& (3 : Int32))
def own_num (k : Int32) : UInt64 := if (k &&& (4 : Int32)) = (0 : Int32) then (FP.l2d ((k &&& (3 : Int32)).toInt64)) else FP.dneg (FP.l2d ((k &&& (3 : Int32)).toInt64))
def own_K (k : Int32) : Prop := k = 0 ∨ k = 1 ∨ k = 2 ∨ k = 3 ∨ k = 4 ∨ k = 5 ∨ k = 6 ∨ k = 7
theorem own_K_of {k : Int32} (h1 : 0 ≤ k.toInt) (h2 : k.toInt ≤ 7) : own_K k := by
  have q : k.toInt = (0 : Int32).toInt ∨ k.toInt = (1 : Int32).toInt ∨ k.toInt = (2 : Int32).toInt ∨ k.toInt = (3 : Int32).toInt ∨ k.toInt = (4 : Int32).toInt ∨ k.toInt = (5 : Int32).toInt ∨ k.toInt = (6 : Int32).toInt ∨ k.toInt = (7 : Int32).toInt := by
    have e0 : (0 : Int32).toInt = 0 := by decide
    have e1 : (1 : Int32).toInt = 1 := by decide
    have e2 : (2 : Int32).toInt = 2 := by decide
    have e3 : (3 : Int32).toInt = 3 := by decide
    have e4 : (4 : Int32).toInt = 4 := by decide
    have e5 : (5 : Int32).toInt = 5 := by decide
    have e6 : (6 : Int32).toInt = 6 := by decide
    have e7 : (7 : Int32).toInt = 7 := by decide
    omega
  unfold own_K
  rcases q with q | q | q | q | q | q | q | q <;> simp only [Int32.toInt_inj.mp q] <;> decide
theorem own_kk (p : Int32) : own_K (p &&& (7 : Int32)) := by
  have q := c_and p 7 (by decide)
  have e7 : (7 : Int32).toInt = 7 := by decide
  exact own_K_of q.1 (by omega)
theorem own_dk7 (p : Int32) : own_dk p = own_dk (p &&& (7 : Int32)) := by
  unfold own_dk
  rw [Int32.and_assoc, Int32.and_assoc, show (7 &&& 3 : Int32) = 3 from by decide, show (7 &&& 4 : Int32) = 4 from by decide]
theorem own_kd (p : Int32) : own_K (own_dk p) := by
  rw [own_dk7]
  rcases own_kk p with q | q | q | q | q | q | q | q <;> rw [q] <;> unfold own_K <;> decide
def own_inv (d : UInt64) : Int32 := if d = own_num 0 then 0 else if d = own_num 1 then 1 else if d = own_num 2 then 2 else if d = own_num 3 then 3 else if d = own_num 4 then 4 else if d = own_num 5 then 5 else if d = own_num 6 then 6 else 7
theorem own_invK {k : Int32} (h : own_K k) : own_inv (own_num k) = k := by
  rcases h with rfl | rfl | rfl | rfl | rfl | rfl | rfl | rfl <;> decide +kernel
theorem own_inj {a b : Int32} (ha : own_K a) (hb : own_K b) (q : own_num a = own_num b) : a = b := by rw [← own_invK ha, q, own_invK hb]
theorem own_fin {k : Int32} (h : own_K k) : ¬ (0 : Int32) < cmpValue (FP.dcmp (own_num k &&& (0x7fffffffffffffff : UInt64)) (9218868437227405311 : UInt64)) .g := by
  rcases h with rfl | rfl | rfl | rfl | rfl | rfl | rfl | rfl <;> decide +kernel
theorem own_nn {k : Int32} (h : own_K k) : Jvm.Free.Fl.NoNaN64 (own_num k) := by
  unfold Jvm.Free.Fl.NoNaN64
  rcases h with rfl | rfl | rfl | rfl | rfl | rfl | rfl | rfl <;> decide +kernel
theorem own_ge (p : Int32) : ¬ cmpValue (FP.dcmp (own_num (own_dk p)) (FP.l2d (0 : Int64))) .l < (0 : Int32) := by
  rw [own_dk7]
  rcases own_kk p with q | q | q | q | q | q | q | q <;> rw [q] <;> decide +kernel
theorem own_r0 {r : Int32} {A : Prop} (hb : r = 0 ∨ r = 1) (hI : r = 1 ↔ A) (hn : ¬ A) : r = 0 := by
  rcases hb with q | q
  · exact q
  · exact absurd (hI.mp q) hn
theorem own_i64 {x y : UInt64} (h : x.toInt64 = y.toInt64) : x = y := by
  have q := congrArg Int64.toUInt64 h
  simpa using q
theorem own_j {p : Int32} (h1 : ¬ p < (-128 : Int32)) (h2 : ¬ (127 : Int32) < p) : ¬ (p + (128 : Int32) < 0 ∨ 256 ≤ (p + (128 : Int32)).toNatClampNeg) := by
  rw [Int32.lt_iff_toInt_lt] at h1 h2
  have e1 : (-128 : Int32).toInt = -128 := by decide
  have e2 : (127 : Int32).toInt = 127 := by decide
  have e3 : (128 : Int32).toInt = 128 := by decide
  have e0 : (0 : Int32).toInt = 0 := by decide
  have q : (p + (128 : Int32)).toInt = p.toInt + 128 := by rw [Int32.toInt_add, e3]; exact Int.bmod_eq_of_le (by omega) (by omega)
  rw [Int32.lt_iff_toInt_lt, e0, q, Int32.toNatClampNeg, q]
  omega
def own_Bx (Z : State) (h : Heap) (a : Addr) : Prop := ∃ c : Cell, Arr Z h a c (.object "java/lang/Integer") ∧ c.slots.size = 256 ∧ ∀ j : Int32, ¬ (j < 0 ∨ c.slots.size ≤ j.toNatClampNeg) → ∃ b : Addr, c.slots[j.toNatClampNeg]? = some (.ref b) ∧ Exa Z h b "java/lang/Integer"
theorem own_Bx.keep {Z : State} {h h' : Heap} {a : Addr} (F : own_Bx Z h a) (K : Keep h h' []) : own_Bx Z h' a := by
  obtain ⟨c, A, r1, r⟩ := F
  exact ⟨c, ⟨K.2.1 a c A.1 (by simp), A.2⟩, r1, fun j hj => by obtain ⟨b, q1, q2⟩ := r j hj; exact ⟨b, q1, q2.keep K⟩⟩
theorem own_bxs {Z : State} {args : Array Value} {t F : Term} {a : Addr} {d : String} (et : ∀ idx, t.eval args Z none idx Z = some (.ref a)) (hA : (Cond.arrayOf t (.object "java/lang/Integer")).value args Z none Z [] = some true)
    (hl : (Cond.eq (Term.length t) (Term.int 256)).value args Z none Z [] = some true) (h : (Cond.all t (.and (.exactly (.elem t (.index 0)) "java/lang/Integer") (.eq (.field (.elem t (.index 0)) "java/lang/Integer" "value" d) F))).value args Z none Z [] = some true) : own_Bx Z Z.heap a := by
  obtain ⟨c, A⟩ := Arr.start (et []) hA
  have el := eqv_i (Term.int_eval 256) hl
  have ha := A.fin (Vm.Alike.refl _)
  refine ⟨c, A, ?_, fun j hj => ?_⟩
  · simp [Term.eval, et [], ha] at el
    have z := Int32.toInt_inj.mpr el.2
    have z2 : (256 : Int32).toInt = 256 := by decide
    rw [len_toInt (by omega)] at z
    omega
  have nn : ¬ j < 0 := fun x => hj (Or.inl x)
  obtain ⟨u1, u2⟩ := and_e (Cond.all_elim (et []) ha h j.toNatClampNeg (Nat.lt_of_not_le fun x => hj (Or.inr x)))
  obtain ⟨box, eb⟩ := exa_v u1
  exact ⟨box, (elem_f (et _) (idx_at nn) ha nn).symm.trans eb, exa_at eb u1⟩
theorem own_noI {Z : State} {a0 : Array Value} (hw : ∀ d ∈ tables_1, d.before a0 Z = true) : ∃ c t, Z.vm.findClass "java/lang/Integer" = some c ∧ Z.vm.findClass "com/example/citadel_hill/citadelhill/cell/CurrentPulse" = some t ∧ Z.vm.assignable c t = false := by
  obtain ⟨t, kt, g1, g2, g3, g4, -⟩ := Cond.instantiable_spec (hw _ (List.mem_of_getElem? (i := 8) rfl))
  obtain ⟨cO, kO, o1, o2, o3, -, -⟩ := Cond.noSuperclass_spec (hw _ (List.mem_of_getElem? (i := 96) rfl))
  have nO : NS Z "java/lang/Object" "com/example/citadel_hill/citadelhill/cell/CurrentPulse" := by
    have ne := ids_ne o1 g1 (by decide)
    refine ⟨cO, t, o1, g1, fun fuel => ?_⟩
    cases fuel with
    | zero => rfl
    | succ f => simp [Vm.isSubclassAux, ne, o2, o3]
  have nN := NS.step (hw _ (List.mem_of_getElem? (i := 95) rfl)) nO (by decide)
  obtain ⟨c, t', h0, g1', n3⟩ := NS.step (hw _ (List.mem_of_getElem? (i := 94) rfl)) nN (by decide)
  cases g1.symm.trans g1'
  obtain ⟨p, k, kp, h1, h2, h3, h4, h5, -, h7⟩ := Cond.superclass_spec h0 (hw _ (List.mem_of_getElem? (i := 94) rfl))
  have ne := ids_ne h0 g1 (by decide)
  refine ⟨c, t, h0, g1, ?_⟩
  show Z.vm.assignableAux (255 + 1) c t = false
  have g5 : kt.isInterface = false := by cases hq : kt.isInterface <;> simp [hq] at g4 ⊢
  simp [Vm.assignableAux, ne, h2, g2, h5, g3, g5, Vm.isSubclass, n3]
theorem own_pd0 : parseMethodDescriptor "(D)D" = some ⟨[.double], some .double⟩ := by decide +kernel
theorem own_pd1 : parseMethodDescriptor "(D)Z" = some ⟨[.double], some .boolean⟩ := by decide +kernel
theorem own_pd2 : parseMethodDescriptor "(ZLjava/lang/String;Ljava/lang/String;D)D" = some ⟨[.boolean, (.object "java/lang/String"), (.object "java/lang/String"), .double], some .double⟩ := by decide +kernel
theorem own_pd3 : parseMethodDescriptor "(Ljava/lang/String;D)D" = some ⟨[(.object "java/lang/String"), .double], some .double⟩ := by decide +kernel
theorem own_pd4 : parseMethodDescriptor "(D)J" = some ⟨[.double], some .long⟩ := by decide +kernel
theorem own_pd5 : parseMethodDescriptor "(DD)I" = some ⟨[.double, .double], some .int⟩ := by decide +kernel
theorem own_pd6 : parseMethodDescriptor "()V" = some ⟨[], none⟩ := by decide +kernel
theorem own_pd7 : parseMethodDescriptor "(I)V" = some ⟨[.int], none⟩ := by decide +kernel
theorem own_pd8 : parseMethodDescriptor "(I)I" = some ⟨[.int], some .int⟩ := by decide +kernel
theorem own_pd9 : parseMethodDescriptor "(I)D" = some ⟨[.int], some .double⟩ := by decide +kernel
theorem own_pd10 : parseMethodDescriptor "(DDD)V" = some ⟨[.double, .double, .double], none⟩ := by decide +kernel
theorem own_pd11 : parseMethodDescriptor "(Ljava/lang/Object;)Z" = some ⟨[(.object "java/lang/Object")], some .boolean⟩ := by decide +kernel
theorem own_pd12 : parseMethodDescriptor "(I)Ljava/lang/Integer;" = some ⟨[.int], some (.object "java/lang/Integer")⟩ := by decide +kernel
def QI (r : Int32) (h0 : Heap) (n0 : Nat) (v : Option Value) (h : Heap) (L : List Loc) : Prop := v = some (.int r) ∧ Fr n0 L ∧ h = h0
def QD (r : UInt64) (h0 : Heap) (n0 : Nat) (v : Option Value) (h : Heap) (L : List Loc) : Prop := v = some (.double r) ∧ Fr n0 L ∧ h = h0
theorem d1_0 : decode method_2_code 0 = .ok (.iload_n 0, 1) := by decide +kernel
theorem d1_1 : decode method_2_code 1 = .ok (.bipush 7, 2) := by decide +kernel
theorem d1_3 : decode method_2_code 3 = .ok (.iand, 1) := by decide +kernel
theorem d1_4 : decode method_2_code 4 = .ok (.ireturn, 1) := by decide +kernel
theorem own_pn0 : plainName "com/example/citadel_hill/citadelhill/cell/CurrentPulseEqualsPinLaw" = true := by first | (simp [plainName, overriddenIn]; done) | decide +kernel
theorem ef_rm1 (m : MethodId) (p1 : Int32) : entryFrame m #[(.int p1)] 1 = mkF m 0 #[.val (.int p1)] [] := by first | (simp [entryFrame, mkF, argsToLocals, Value.category]; done) | rfl
set_option maxRecDepth 65536 in
set_option maxHeartbeats 40000000 in
theorem rm1 (l : Launch) (Z : State) (a0 : Array Value) (hw : ∀ d ∈ tables_1, d.before a0 Z = true) (ws : List Jvm.Cond) (p1 : Int32) (h0 : Heap) (n0 : Nat) (Z0 : n0 ≤ h0.size) :
    MetFree l (⟨"com/example/citadel_hill/citadelhill/cell/CurrentPulseEqualsPinLaw", "key", "(I)I"⟩ : MethodName) (head1 (Jvm.Cond.code (⟨"com/example/citadel_hill/citadelhill/cell/CurrentPulseEqualsPinLaw", "key", "(I)I"⟩ : MethodName) method_2_code 1 (some .int) :: ws) ({ frames := 0, cells := 0, slots := 0, locals := 0 } : Room)) (fun a U => a = #[(.int p1)] ∧ Z.Warmed39 U.vm ∧ U.heap = h0) (fun _ _ _ _ _ => True) (fun _ U o U' => ∃ vr Lr, o = .returned vr ∧ QI (p1 &&& (7 : Int32)) h0 n0 vr U'.heap Lr ∧ FrameEnd U o U' Lr 0 0) := by
  refine MetFree.of_bodySF (plainFor_of_name own_pn0) hisR ?_
  intro p e s m args below meth c s₁ Bd hml0 hP hK
  obtain ⟨rfl, hZ, hh⟩ := hP
  have hx := Bd.exec
  have hby := Bd.bytes
  have hml : c.maxLocals = 1 := hml0
  have hown : s.vm.findClass "com/example/citadel_hill/citadelhill/cell/CurrentPulseEqualsPinLaw" = some m.cls := findClass_of_methodNamed Bd.named
  have hnm := (name_of_methodNamed Bd.named Bd.method).1
  have hlk : meth.locks = false := Bd.notSynchronized
  have hrt := Bd.returns
  have X0 : Stand p l e ({ frames := 0, cells := 0, slots := 0, locals := 0 } : Room) s m #[(.int p1)] below meth c s₁ [] 0 0 := Stand.of_body Bd
  have e0 : s₁.heap = h0 := by rw [← hh, Bd.state]; rfl
  have N0 := Fr.nil n0
  show Done p e s below 0 0 (QI (p1 &&& (7 : Int32)) h0 n0) s₁ (entryFrame m #[(.int p1)] 1)
  rw [ef_rm1]
  show Done p e s below _ _ _ s₁ (mkF m 0 #[.val (.int p1)] [])
  refine Done.go (fun _ kt_ => XS.iloadN X0.here hx rfl (hb hby d1_0) rfl kt_) ?_
  show Done p e s below _ _ _ s₁ (mkF m 1 #[.val (.int p1)] [(.int p1)])
  refine Done.go (fun _ kt_ => XS.bipush X0.here hx rfl (hb hby d1_1) kt_) ?_
  show Done p e s below _ _ _ s₁ (mkF m 3 #[.val (.int p1)] [(.int (7 : Int32)), (.int p1)])
  refine Done.go (fun _ kt_ => XS.iand X0.here hx rfl (hb hby d1_3) rfl kt_) ?_
  show Done p e s below _ _ _ s₁ (mkF m 4 #[.val (.int p1)] [(.int (p1 &&& (7 : Int32)))])
  refine Done.retI X0 hx hlk hrt (hb hby d1_4) ?_ (by first | decide | omega) (by first | decide | omega)
  rw [e0]
  exact ⟨rfl, N0, rfl⟩
theorem d2_0 : decode method_3_code 0 = .ok (.iload_n 0, 1) := by decide +kernel
theorem d2_1 : decode method_3_code 1 = .ok (.iconst 3, 1) := by decide +kernel
theorem d2_2 : decode method_3_code 2 = .ok (.iand, 1) := by decide +kernel
theorem d2_3 : decode method_3_code 3 = .ok (.istore_n 1, 1) := by decide +kernel
theorem d2_4 : decode method_3_code 4 = .ok (.iload_n 1, 1) := by decide +kernel
theorem d2_5 : decode method_3_code 5 = .ok (.ifCond .ne 9, 3) := by decide +kernel
theorem d2_8 : decode method_3_code 8 = .ok (.iload_n 0, 1) := by decide +kernel
theorem d2_9 : decode method_3_code 9 = .ok (.iconst 4, 1) := by decide +kernel
theorem d2_10 : decode method_3_code 10 = .ok (.iand, 1) := by decide +kernel
theorem d2_11 : decode method_3_code 11 = .ok (.goto 4, 3) := by decide +kernel
theorem d2_14 : decode method_3_code 14 = .ok (.iload_n 1, 1) := by decide +kernel
theorem d2_15 : decode method_3_code 15 = .ok (.ireturn, 1) := by decide +kernel
theorem ef_rm2 (m : MethodId) (p1 : Int32) : entryFrame m #[(.int p1)] 2 = mkF m 0 #[.val (.int p1), .unset] [] := by first | (simp [entryFrame, mkF, argsToLocals, Value.category]; done) | rfl
set_option maxRecDepth 65536 in
set_option maxHeartbeats 40000000 in
theorem rm2 (l : Launch) (Z : State) (a0 : Array Value) (hw : ∀ d ∈ tables_1, d.before a0 Z = true) (ws : List Jvm.Cond) (p1 : Int32) (h0 : Heap) (n0 : Nat) (Z0 : n0 ≤ h0.size) :
    MetFree l (⟨"com/example/citadel_hill/citadelhill/cell/CurrentPulseEqualsPinLaw", "durKey", "(I)I"⟩ : MethodName) (head1 (Jvm.Cond.code (⟨"com/example/citadel_hill/citadelhill/cell/CurrentPulseEqualsPinLaw", "durKey", "(I)I"⟩ : MethodName) method_3_code 2 (some .int) :: ws) ({ frames := 0, cells := 0, slots := 0, locals := 0 } : Room)) (fun a U => a = #[(.int p1)] ∧ Z.Warmed39 U.vm ∧ U.heap = h0) (fun _ _ _ _ _ => True) (fun _ U o U' => ∃ vr Lr, o = .returned vr ∧ QI (own_dk p1) h0 n0 vr U'.heap Lr ∧ FrameEnd U o U' Lr 0 0) := by
  refine MetFree.of_bodySF (plainFor_of_name own_pn0) hisR ?_
  intro p e s m args below meth c s₁ Bd hml0 hP hK
  obtain ⟨rfl, hZ, hh⟩ := hP
  have hx := Bd.exec
  have hby := Bd.bytes
  have hml : c.maxLocals = 2 := hml0
  have hown : s.vm.findClass "com/example/citadel_hill/citadelhill/cell/CurrentPulseEqualsPinLaw" = some m.cls := findClass_of_methodNamed Bd.named
  have hnm := (name_of_methodNamed Bd.named Bd.method).1
  have hlk : meth.locks = false := Bd.notSynchronized
  have hrt := Bd.returns
  have X0 : Stand p l e ({ frames := 0, cells := 0, slots := 0, locals := 0 } : Room) s m #[(.int p1)] below meth c s₁ [] 0 0 := Stand.of_body Bd
  have e0 : s₁.heap = h0 := by rw [← hh, Bd.state]; rfl
  have N0 := Fr.nil n0
  show Done p e s below 0 0 (QI (own_dk p1) h0 n0) s₁ (entryFrame m #[(.int p1)] 2)
  rw [ef_rm2]
  show Done p e s below _ _ _ s₁ (mkF m 0 #[.val (.int p1), .unset] [])
  refine Done.go (fun _ kt_ => XS.iloadN X0.here hx rfl (hb hby d2_0) rfl kt_) ?_
  show Done p e s below _ _ _ s₁ (mkF m 1 #[.val (.int p1), .unset] [(.int p1)])
  refine Done.go (fun _ kt_ => XS.iconst X0.here hx rfl (hb hby d2_1) kt_) ?_
  show Done p e s below _ _ _ s₁ (mkF m 2 #[.val (.int p1), .unset] [(.int (3 : Int32)), (.int p1)])
  refine Done.go (fun _ kt_ => XS.iand X0.here hx rfl (hb hby d2_2) rfl kt_) ?_
  show Done p e s below _ _ _ s₁ (mkF m 3 #[.val (.int p1), .unset] [(.int (p1 &&& (3 : Int32)))])
  refine Done.go (fun _ kt_ => XS.istoreN X0.here hx rfl (hb hby d2_3) rfl (l' := #[.val (.int p1), .val (.int (p1 &&& (3 : Int32)))]) rfl kt_) ?_
  show Done p e s below _ _ _ s₁ (mkF m 4 #[.val (.int p1), .val (.int (p1 &&& (3 : Int32)))] [])
  refine Done.go (fun _ kt_ => XS.iloadN X0.here hx rfl (hb hby d2_4) rfl kt_) ?_
  show Done p e s below _ _ _ s₁ (mkF m 5 #[.val (.int p1), .val (.int (p1 &&& (3 : Int32)))] [(.int (p1 &&& (3 : Int32)))])
  by_cases hc5 : (p1 &&& (3 : Int32)) = (0 : Int32)
  · skip
    refine Done.go (fun _ kt_ => XS.ifNo X0.here hx rfl (hb hby d2_5) rfl ((if0 _ _).trans (teq hc5).2) kt_) ?_
    show Done p e s below _ _ _ s₁ (mkF m 8 #[.val (.int p1), .val (.int (p1 &&& (3 : Int32)))] [])
    refine Done.go (fun _ kt_ => XS.iloadN X0.here hx rfl (hb hby d2_8) rfl kt_) ?_
    show Done p e s below _ _ _ s₁ (mkF m 9 #[.val (.int p1), .val (.int (p1 &&& (3 : Int32)))] [(.int p1)])
    refine Done.go (fun _ kt_ => XS.iconst X0.here hx rfl (hb hby d2_9) kt_) ?_
    show Done p e s below _ _ _ s₁ (mkF m 10 #[.val (.int p1), .val (.int (p1 &&& (3 : Int32)))] [(.int (4 : Int32)), (.int p1)])
    refine Done.go (fun _ kt_ => XS.iand X0.here hx rfl (hb hby d2_10) rfl kt_) ?_
    show Done p e s below _ _ _ s₁ (mkF m 11 #[.val (.int p1), .val (.int (p1 &&& (3 : Int32)))] [(.int (p1 &&& (4 : Int32)))])
    refine Done.go (fun _ kt_ => XS.goto X0.here hx rfl (pc0 := 11) (pc' := 15) rfl (hb hby d2_11) (by decide) (by decide) kt_) ?_
    show Done p e s below _ _ _ s₁ (mkF m 15 #[.val (.int p1), .val (.int (p1 &&& (3 : Int32)))] [(.int (p1 &&& (4 : Int32)))])
    refine Done.retI X0 hx hlk hrt (hb hby d2_15) ?_ (by first | decide | omega) (by first | decide | omega)
    rw [e0]
    exact ⟨by rw [own_dk, if_pos hc5], N0, rfl⟩
  · skip
    refine Done.go (fun _ kt_ => XS.ifYes X0.here hx rfl (pc0 := 5) (pc' := 14) rfl (hb hby d2_5) rfl ((if0 _ _).trans (feq hc5).2) (by decide) (by decide) kt_) ?_
    show Done p e s below _ _ _ s₁ (mkF m 14 #[.val (.int p1), .val (.int (p1 &&& (3 : Int32)))] [])
    refine Done.go (fun _ kt_ => XS.iloadN X0.here hx rfl (hb hby d2_14) rfl kt_) ?_
    show Done p e s below _ _ _ s₁ (mkF m 15 #[.val (.int p1), .val (.int (p1 &&& (3 : Int32)))] [(.int (p1 &&& (3 : Int32)))])
    refine Done.retI X0 hx hlk hrt (hb hby d2_15) ?_ (by first | decide | omega) (by first | decide | omega)
    rw [e0]
    exact ⟨by rw [own_dk, if_neg hc5], N0, rfl⟩
theorem d3_0 : decode method_4_code 0 = .ok (.iload_n 0, 1) := by decide +kernel
theorem d3_1 : decode method_4_code 1 = .ok (.iconst 3, 1) := by decide +kernel
theorem d3_2 : decode method_4_code 2 = .ok (.iand, 1) := by decide +kernel
theorem d3_3 : decode method_4_code 3 = .ok (.i2d, 1) := by decide +kernel
theorem d3_4 : decode method_4_code 4 = .ok (.dstore_n 1, 1) := by decide +kernel
theorem d3_5 : decode method_4_code 5 = .ok (.iload_n 0, 1) := by decide +kernel
theorem d3_6 : decode method_4_code 6 = .ok (.iconst 4, 1) := by decide +kernel
theorem d3_7 : decode method_4_code 7 = .ok (.iand, 1) := by decide +kernel
theorem d3_8 : decode method_4_code 8 = .ok (.ifCond .eq 8, 3) := by decide +kernel
theorem d3_11 : decode method_4_code 11 = .ok (.dload_n 1, 1) := by decide +kernel
theorem d3_12 : decode method_4_code 12 = .ok (.dneg, 1) := by decide +kernel
theorem d3_13 : decode method_4_code 13 = .ok (.goto 4, 3) := by decide +kernel
theorem d3_16 : decode method_4_code 16 = .ok (.dload_n 1, 1) := by decide +kernel
theorem d3_17 : decode method_4_code 17 = .ok (.dreturn, 1) := by decide +kernel
theorem ef_rm3 (m : MethodId) (p1 : Int32) : entryFrame m #[(.int p1)] 3 = mkF m 0 #[.val (.int p1), .unset, .unset] [] := by first | (simp [entryFrame, mkF, argsToLocals, Value.category]; done) | rfl
set_option maxRecDepth 65536 in
set_option maxHeartbeats 40000000 in
theorem rm3 (l : Launch) (Z : State) (a0 : Array Value) (hw : ∀ d ∈ tables_1, d.before a0 Z = true) (ws : List Jvm.Cond) (p1 : Int32) (h0 : Heap) (n0 : Nat) (Z0 : n0 ≤ h0.size) :
    MetFree l (⟨"com/example/citadel_hill/citadelhill/cell/CurrentPulseEqualsPinLaw", "num", "(I)D"⟩ : MethodName) (head1 (Jvm.Cond.code (⟨"com/example/citadel_hill/citadelhill/cell/CurrentPulseEqualsPinLaw", "num", "(I)D"⟩ : MethodName) method_4_code 3 (some .double) :: ws) ({ frames := 0, cells := 0, slots := 0, locals := 0 } : Room)) (fun a U => a = #[(.int p1)] ∧ Z.Warmed39 U.vm ∧ U.heap = h0) (fun _ _ _ _ _ => True) (fun _ U o U' => ∃ vr Lr, o = .returned vr ∧ QD (own_num p1) h0 n0 vr U'.heap Lr ∧ FrameEnd U o U' Lr 0 0) := by
  refine MetFree.of_bodySF (plainFor_of_name own_pn0) hisR ?_
  intro p e s m args below meth c s₁ Bd hml0 hP hK
  obtain ⟨rfl, hZ, hh⟩ := hP
  have hx := Bd.exec
  have hby := Bd.bytes
  have hml : c.maxLocals = 3 := hml0
  have hown : s.vm.findClass "com/example/citadel_hill/citadelhill/cell/CurrentPulseEqualsPinLaw" = some m.cls := findClass_of_methodNamed Bd.named
  have hnm := (name_of_methodNamed Bd.named Bd.method).1
  have hlk : meth.locks = false := Bd.notSynchronized
  have hrt := Bd.returns
  have X0 : Stand p l e ({ frames := 0, cells := 0, slots := 0, locals := 0 } : Room) s m #[(.int p1)] below meth c s₁ [] 0 0 := Stand.of_body Bd
  have e0 : s₁.heap = h0 := by rw [← hh, Bd.state]; rfl
  have N0 := Fr.nil n0
  show Done p e s below 0 0 (QD (own_num p1) h0 n0) s₁ (entryFrame m #[(.int p1)] 3)
  rw [ef_rm3]
  show Done p e s below _ _ _ s₁ (mkF m 0 #[.val (.int p1), .unset, .unset] [])
  refine Done.go (fun _ kt_ => XS.iloadN X0.here hx rfl (hb hby d3_0) rfl kt_) ?_
  show Done p e s below _ _ _ s₁ (mkF m 1 #[.val (.int p1), .unset, .unset] [(.int p1)])
  refine Done.go (fun _ kt_ => XS.iconst X0.here hx rfl (hb hby d3_1) kt_) ?_
  show Done p e s below _ _ _ s₁ (mkF m 2 #[.val (.int p1), .unset, .unset] [(.int (3 : Int32)), (.int p1)])
  refine Done.go (fun _ kt_ => XS.iand X0.here hx rfl (hb hby d3_2) rfl kt_) ?_
  show Done p e s below _ _ _ s₁ (mkF m 3 #[.val (.int p1), .unset, .unset] [(.int (p1 &&& (3 : Int32)))])
  refine Done.go (fun _ kt_ => XS.i2dS X0.here hx rfl (hb hby d3_3) rfl (i2d_w (p1 &&& (3 : Int32))) kt_) ?_
  show Done p e s below _ _ _ s₁ (mkF m 4 #[.val (.int p1), .unset, .unset] [(.double (FP.l2d ((p1 &&& (3 : Int32)).toInt64)))])
  refine Done.go (fun _ kt_ => XS.dstoreN X0.here hx rfl (hb hby d3_4) rfl (l' := #[.val (.int p1), .val (.double (FP.l2d ((p1 &&& (3 : Int32)).toInt64))), .second]) rfl kt_) ?_
  show Done p e s below _ _ _ s₁ (mkF m 5 #[.val (.int p1), .val (.double (FP.l2d ((p1 &&& (3 : Int32)).toInt64))), .second] [])
  refine Done.go (fun _ kt_ => XS.iloadN X0.here hx rfl (hb hby d3_5) rfl kt_) ?_
  show Done p e s below _ _ _ s₁ (mkF m 6 #[.val (.int p1), .val (.double (FP.l2d ((p1 &&& (3 : Int32)).toInt64))), .second] [(.int p1)])
  refine Done.go (fun _ kt_ => XS.iconst X0.here hx rfl (hb hby d3_6) kt_) ?_
  show Done p e s below _ _ _ s₁ (mkF m 7 #[.val (.int p1), .val (.double (FP.l2d ((p1 &&& (3 : Int32)).toInt64))), .second] [(.int (4 : Int32)), (.int p1)])
  refine Done.go (fun _ kt_ => XS.iand X0.here hx rfl (hb hby d3_7) rfl kt_) ?_
  show Done p e s below _ _ _ s₁ (mkF m 8 #[.val (.int p1), .val (.double (FP.l2d ((p1 &&& (3 : Int32)).toInt64))), .second] [(.int (p1 &&& (4 : Int32)))])
  by_cases hc8 : (p1 &&& (4 : Int32)) = (0 : Int32)
  · skip
    refine Done.go (fun _ kt_ => XS.ifYes X0.here hx rfl (pc0 := 8) (pc' := 16) rfl (hb hby d3_8) rfl ((if0 _ _).trans (teq hc8).1) (by decide) (by decide) kt_) ?_
    show Done p e s below _ _ _ s₁ (mkF m 16 #[.val (.int p1), .val (.double (FP.l2d ((p1 &&& (3 : Int32)).toInt64))), .second] [])
    refine Done.go (fun _ kt_ => XS.dloadN X0.here hx rfl (hb hby d3_16) rfl kt_) ?_
    show Done p e s below _ _ _ s₁ (mkF m 17 #[.val (.int p1), .val (.double (FP.l2d ((p1 &&& (3 : Int32)).toInt64))), .second] [(.double (FP.l2d ((p1 &&& (3 : Int32)).toInt64)))])
    refine Done.retD X0 hx hlk hrt (hb hby d3_17) ?_ (by first | decide | omega) (by first | decide | omega)
    rw [e0]
    exact ⟨by rw [own_num, if_pos hc8], N0, rfl⟩
  · skip
    refine Done.go (fun _ kt_ => XS.ifNo X0.here hx rfl (hb hby d3_8) rfl ((if0 _ _).trans (feq hc8).1) kt_) ?_
    show Done p e s below _ _ _ s₁ (mkF m 11 #[.val (.int p1), .val (.double (FP.l2d ((p1 &&& (3 : Int32)).toInt64))), .second] [])
    refine Done.go (fun _ kt_ => XS.dloadN X0.here hx rfl (hb hby d3_11) rfl kt_) ?_
    show Done p e s below _ _ _ s₁ (mkF m 12 #[.val (.int p1), .val (.double (FP.l2d ((p1 &&& (3 : Int32)).toInt64))), .second] [(.double (FP.l2d ((p1 &&& (3 : Int32)).toInt64)))])
    refine Done.go (fun _ kt_ => XS.dnegS X0.here hx rfl (hb hby d3_12) rfl rfl kt_) ?_
    show Done p e s below _ _ _ s₁ (mkF m 13 #[.val (.int p1), .val (.double (FP.l2d ((p1 &&& (3 : Int32)).toInt64))), .second] [(.double (FP.dneg (FP.l2d ((p1 &&& (3 : Int32)).toInt64))))])
    refine Done.go (fun _ kt_ => XS.goto X0.here hx rfl (pc0 := 13) (pc' := 17) rfl (hb hby d3_13) (by decide) (by decide) kt_) ?_
    show Done p e s below _ _ _ s₁ (mkF m 17 #[.val (.int p1), .val (.double (FP.l2d ((p1 &&& (3 : Int32)).toInt64))), .second] [(.double (FP.dneg (FP.l2d ((p1 &&& (3 : Int32)).toInt64))))])
    refine Done.retD X0 hx hlk hrt (hb hby d3_17) ?_ (by first | decide | omega) (by first | decide | omega)
    rw [e0]
    exact ⟨by rw [own_num, if_neg hc8], N0, rfl⟩
theorem d7_0 : decode jdk_117_method_8_code 0 = .ok (.dload_n 0, 1) := by decide +kernel
theorem d7_1 : decode jdk_117_method_8_code 1 = .ok (.invokestatic 38, 3) := by decide +kernel
theorem d7_4 : decode jdk_117_method_8_code 4 = .ok (.ldc2_w 111, 3) := by decide +kernel
theorem d7_7 : decode jdk_117_method_8_code 7 = .ok (.dcmp .g, 1) := by decide +kernel
theorem d7_8 : decode jdk_117_method_8_code 8 = .ok (.ifCond .gt 7, 3) := by decide +kernel
theorem d7_11 : decode jdk_117_method_8_code 11 = .ok (.iconst 1, 1) := by decide +kernel
theorem d7_12 : decode jdk_117_method_8_code 12 = .ok (.goto 4, 3) := by decide +kernel
theorem d7_15 : decode jdk_117_method_8_code 15 = .ok (.iconst 0, 1) := by decide +kernel
theorem d7_16 : decode jdk_117_method_8_code 16 = .ok (.ireturn, 1) := by decide +kernel
theorem own_pn1 : plainName "java/lang/Double" = true := by first | (simp [plainName, overriddenIn]; done) | decide +kernel
theorem ef_rm7 (m : MethodId) (d1 : UInt64) : entryFrame m #[(.double d1)] 2 = mkF m 0 #[.val (.double d1), .second] [] := by first | (simp [entryFrame, mkF, argsToLocals, Value.category]; done) | rfl
set_option maxRecDepth 65536 in
set_option maxHeartbeats 40000000 in
theorem rm7 (l : Launch) (Z : State) (a0 : Array Value) (hw : ∀ d ∈ tables_1, d.before a0 Z = true) (ws : List Jvm.Cond) (d1 : UInt64) (h0 : Heap) (n0 : Nat) (Z0 : n0 ≤ h0.size) (hn : Jvm.Free.Fl.NoNaN64 d1) (hf : ¬ (0 : Int32) < cmpValue (FP.dcmp (d1 &&& (0x7fffffffffffffff : UInt64)) (9218868437227405311 : UInt64)) .g) :
    MetFree l (⟨"java/lang/Double", "isFinite", "(D)Z"⟩ : MethodName) (head1 (Jvm.Cond.code (⟨"java/lang/Double", "isFinite", "(D)Z"⟩ : MethodName) jdk_117_method_8_code 2 (some .boolean) :: ws) ({ frames := 1, cells := 0, slots := 0, locals := 13 } : Room)) (fun a U => a = #[(.double d1)] ∧ Z.Warmed39 U.vm ∧ U.heap = h0) (fun _ _ _ _ _ => True) (fun _ U o U' => ∃ vr Lr, o = .returned vr ∧ QI 1 h0 n0 vr U'.heap Lr ∧ FrameEnd U o U' Lr 0 0) := by
  refine MetFree.of_bodySF (plainFor_of_name own_pn1) hisR ?_
  intro p e s m args below meth c s₁ Bd hml0 hP hK
  obtain ⟨rfl, hZ, hh⟩ := hP
  have hx := Bd.exec
  have hby := Bd.bytes
  have hml : c.maxLocals = 2 := hml0
  have hown : s.vm.findClass "java/lang/Double" = some m.cls := findClass_of_methodNamed Bd.named
  have hnm := (name_of_methodNamed Bd.named Bd.method).1
  have hlk : meth.locks = false := Bd.notSynchronized
  have hrt := Bd.returns
  have X0 : Stand p l e ({ frames := 1, cells := 0, slots := 0, locals := 13 } : Room) s m #[(.double d1)] below meth c s₁ [] 0 0 := Stand.of_body Bd
  have e0 : s₁.heap = h0 := by rw [← hh, Bd.state]; rfl
  have N0 := Fr.nil n0
  show Done p e s below 0 0 (QI 1 h0 n0) s₁ (entryFrame m #[(.double d1)] 2)
  rw [ef_rm7]
  show Done p e s below _ _ _ s₁ (mkF m 0 #[.val (.double d1), .second] [])
  refine Done.go (fun _ kt_ => XS.dloadN X0.here hx rfl (hb hby d7_0) rfl kt_) ?_
  show Done p e s below _ _ _ s₁ (mkF m 1 #[.val (.double d1), .second] [(.double d1)])
  obtain ⟨T1, X1, e1, st1⟩ := natS X0 hx hZ (y := (⟨"java/lang/Math", "abs", "(D)D"⟩ : MethodName)) hown (hw _ (List.mem_of_getElem? (i := 35) rfl)) (hw _ (List.mem_of_getElem? (i := 36) rfl)) (hw _ (List.mem_of_getElem? (i := 37) rfl)) (hw _ (List.mem_of_getElem? (i := 38) rfl)) (by decide) e0 (W := 0) (fun q_ => Jvm.Free.Fl.Abs.absD_pays d1 q_ (by decide) (by decide)) (g := (mkF m 1 #[.val (.double d1), .second] [(.double d1)])) rfl (by rw [hml]; rfl) (argsL := [.double d1]) (rest := []) (lenOf own_pd0 rfl) rfl (by show 2 * 0 + _ ≤ _; exact Nat.le_of_eq rfl) (hb hby d7_1) (by decide) (by decide) ⟨rfl, hn⟩ rfl
  refine Done.go st1 ?_
  clear st1
  show Done p e s below _ _ _ T1 (mkF m 4 #[.val (.double d1), .second] [(.double (d1 &&& (0x7fffffffffffffff : UInt64)))])
  refine Done.go (fun t_ kt_ => X1.ldc2DoubleC hx hown (mvT hZ (hw _ (List.mem_of_getElem? (i := 39) rfl))) (g := (mkF m 4 #[.val (.double d1), .second] [(.double (d1 &&& (0x7fffffffffffffff : UInt64)))])) rfl (hb hby d7_4) t_ kt_) ?_
  show Done p e s below _ _ _ T1 (mkF m 7 #[.val (.double d1), .second] [(.double (9218868437227405311 : UInt64)), (.double (d1 &&& (0x7fffffffffffffff : UInt64)))])
  refine Done.go (fun _ kt_ => XS.dcmpS X1.here hx rfl (hb hby d7_7) rfl rfl kt_) ?_
  show Done p e s below _ _ _ T1 (mkF m 8 #[.val (.double d1), .second] [(.int (cmpValue (FP.dcmp (d1 &&& (0x7fffffffffffffff : UInt64)) (9218868437227405311 : UInt64)) .g))])
  refine Done.go (fun _ kt_ => XS.ifNo X1.here hx rfl (hb hby d7_8) rfl ((if0 _ _).trans (flt hf).2.2.1) kt_) ?_
  show Done p e s below _ _ _ T1 (mkF m 11 #[.val (.double d1), .second] [])
  refine Done.go (fun _ kt_ => XS.iconst X1.here hx rfl (hb hby d7_11) kt_) ?_
  show Done p e s below _ _ _ T1 (mkF m 12 #[.val (.double d1), .second] [(.int (1 : Int32))])
  refine Done.go (fun _ kt_ => XS.goto X1.here hx rfl (pc0 := 12) (pc' := 16) rfl (hb hby d7_12) (by decide) (by decide) kt_) ?_
  show Done p e s below _ _ _ T1 (mkF m 16 #[.val (.double d1), .second] [(.int (1 : Int32))])
  refine Done.retN X1 hx hlk (t := .boolean) hrt (by simp) (z' := (1 : Int32)) rfl (hb hby d7_16) ?_ (by first | decide | omega) (by first | decide | omega)
  rw [e1]
  exact ⟨rfl, N0, rfl⟩
theorem d9_0 : decode prog_24_method_6_code 0 = .ok (.iload_n 0, 1) := by decide +kernel
theorem d9_1 : decode prog_24_method_6_code 1 = .ok (.ifCond .ne 35, 3) := by decide +kernel
theorem d9_4 : decode prog_24_method_6_code 4 = .ok (.new 27, 3) := by decide +kernel
theorem d9_7 : decode prog_24_method_6_code 7 = .ok (.dup, 1) := by decide +kernel
theorem d9_8 : decode prog_24_method_6_code 8 = .ok (.ldc 29, 2) := by decide +kernel
theorem d9_10 : decode prog_24_method_6_code 10 = .ok (.iconst 3, 1) := by decide +kernel
theorem d9_11 : decode prog_24_method_6_code 11 = .ok (.anewarray 2, 3) := by decide +kernel
theorem d9_14 : decode prog_24_method_6_code 14 = .ok (.dup, 1) := by decide +kernel
theorem d9_15 : decode prog_24_method_6_code 15 = .ok (.iconst 0, 1) := by decide +kernel
theorem d9_16 : decode prog_24_method_6_code 16 = .ok (.aload_n 1, 1) := by decide +kernel
theorem d9_17 : decode prog_24_method_6_code 17 = .ok (.aastore, 1) := by decide +kernel
theorem d9_18 : decode prog_24_method_6_code 18 = .ok (.dup, 1) := by decide +kernel
theorem d9_19 : decode prog_24_method_6_code 19 = .ok (.iconst 1, 1) := by decide +kernel
theorem d9_20 : decode prog_24_method_6_code 20 = .ok (.aload_n 2, 1) := by decide +kernel
theorem d9_21 : decode prog_24_method_6_code 21 = .ok (.aastore, 1) := by decide +kernel
theorem d9_22 : decode prog_24_method_6_code 22 = .ok (.dup, 1) := by decide +kernel
theorem d9_23 : decode prog_24_method_6_code 23 = .ok (.iconst 2, 1) := by decide +kernel
theorem d9_24 : decode prog_24_method_6_code 24 = .ok (.dload_n 3, 1) := by decide +kernel
theorem d9_25 : decode prog_24_method_6_code 25 = .ok (.invokestatic 31, 3) := by decide +kernel
theorem d9_28 : decode prog_24_method_6_code 28 = .ok (.aastore, 1) := by decide +kernel
theorem d9_29 : decode prog_24_method_6_code 29 = .ok (.invokestatic 35, 3) := by decide +kernel
theorem d9_32 : decode prog_24_method_6_code 32 = .ok (.invokespecial 41, 3) := by decide +kernel
theorem d9_35 : decode prog_24_method_6_code 35 = .ok (.athrow, 1) := by decide +kernel
theorem d9_36 : decode prog_24_method_6_code 36 = .ok (.dload_n 3, 1) := by decide +kernel
theorem d9_37 : decode prog_24_method_6_code 37 = .ok (.dreturn, 1) := by decide +kernel
theorem own_pn2 : plainName "com/example/citadel_hill/citadelhill/channel/ParameterChecks" = true := by first | (simp [plainName, overriddenIn]; done) | decide +kernel
theorem ef_rm9 (m : MethodId) (a1 : Addr) (a2 : Addr) (d1 : UInt64) : entryFrame m #[(.int (1 : Int32)), (.ref a1), (.ref a2), (.double d1)] 5 = mkF m 0 #[.val (.int (1 : Int32)), .val (.ref a1), .val (.ref a2), .val (.double d1), .second] [] := by first | (simp [entryFrame, mkF, argsToLocals, Value.category]; done) | rfl
set_option maxRecDepth 65536 in
set_option maxHeartbeats 40000000 in
theorem rm9 (l : Launch) (Z : State) (a0 : Array Value) (hw : ∀ d ∈ tables_1, d.before a0 Z = true) (ws : List Jvm.Cond) (a1 : Addr) (a2 : Addr) (d1 : UInt64) (h0 : Heap) (n0 : Nat) (Z0 : n0 ≤ h0.size) :
    MetFree l (⟨"com/example/citadel_hill/citadelhill/channel/ParameterChecks", "require", "(ZLjava/lang/String;Ljava/lang/String;D)D"⟩ : MethodName) (head1 (Jvm.Cond.code (⟨"com/example/citadel_hill/citadelhill/channel/ParameterChecks", "require", "(ZLjava/lang/String;Ljava/lang/String;D)D"⟩ : MethodName) prog_24_method_6_code 5 (some .double) :: ws) ({ frames := 0, cells := 0, slots := 0, locals := 0 } : Room)) (fun a U => a = #[(.int (1 : Int32)), (.ref a1), (.ref a2), (.double d1)] ∧ Z.Warmed39 U.vm ∧ U.heap = h0) (fun _ _ _ _ _ => True) (fun _ U o U' => ∃ vr Lr, o = .returned vr ∧ QD d1 h0 n0 vr U'.heap Lr ∧ FrameEnd U o U' Lr 0 0) := by
  refine MetFree.of_bodySF (plainFor_of_name own_pn2) hisR ?_
  intro p e s m args below meth c s₁ Bd hml0 hP hK
  obtain ⟨rfl, hZ, hh⟩ := hP
  have hx := Bd.exec
  have hby := Bd.bytes
  have hml : c.maxLocals = 5 := hml0
  have hown : s.vm.findClass "com/example/citadel_hill/citadelhill/channel/ParameterChecks" = some m.cls := findClass_of_methodNamed Bd.named
  have hnm := (name_of_methodNamed Bd.named Bd.method).1
  have hlk : meth.locks = false := Bd.notSynchronized
  have hrt := Bd.returns
  have X0 : Stand p l e ({ frames := 0, cells := 0, slots := 0, locals := 0 } : Room) s m #[(.int (1 : Int32)), (.ref a1), (.ref a2), (.double d1)] below meth c s₁ [] 0 0 := Stand.of_body Bd
  have e0 : s₁.heap = h0 := by rw [← hh, Bd.state]; rfl
  have N0 := Fr.nil n0
  show Done p e s below 0 0 (QD d1 h0 n0) s₁ (entryFrame m #[(.int (1 : Int32)), (.ref a1), (.ref a2), (.double d1)] 5)
  rw [ef_rm9]
  show Done p e s below _ _ _ s₁ (mkF m 0 #[.val (.int (1 : Int32)), .val (.ref a1), .val (.ref a2), .val (.double d1), .second] [])
  refine Done.go (fun _ kt_ => XS.iloadN X0.here hx rfl (hb hby d9_0) rfl kt_) ?_
  show Done p e s below _ _ _ s₁ (mkF m 1 #[.val (.int (1 : Int32)), .val (.ref a1), .val (.ref a2), .val (.double d1), .second] [(.int (1 : Int32))])
  refine Done.go (fun _ kt_ => XS.ifYes X0.here hx rfl (pc0 := 1) (pc' := 36) rfl (hb hby d9_1) rfl ((if0 _ _).trans (feq (by decide)).2) (by decide) (by decide) kt_) ?_
  show Done p e s below _ _ _ s₁ (mkF m 36 #[.val (.int (1 : Int32)), .val (.ref a1), .val (.ref a2), .val (.double d1), .second] [])
  refine Done.go (fun _ kt_ => XS.dloadN X0.here hx rfl (hb hby d9_36) rfl kt_) ?_
  show Done p e s below _ _ _ s₁ (mkF m 37 #[.val (.int (1 : Int32)), .val (.ref a1), .val (.ref a2), .val (.double d1), .second] [(.double d1)])
  refine Done.retD X0 hx hlk hrt (hb hby d9_37) ?_ (by first | decide | omega) (by first | decide | omega)
  rw [e0]
  exact ⟨rfl, N0, rfl⟩
def QS (r : UInt64) (h0 : Heap) (n0 : Nat) (v : Option Value) (h : Heap) (L : List Loc) : Prop := v = some (.double r) ∧ Fr n0 L ∧ Keep h0 h []
theorem d6_0 : decode prog_24_method_2_code 0 = .ok (.dload_n 1, 1) := by decide +kernel
theorem d6_1 : decode prog_24_method_2_code 1 = .ok (.invokestatic 7, 3) := by decide +kernel
theorem d6_4 : decode prog_24_method_2_code 4 = .ok (.aload_n 0, 1) := by decide +kernel
theorem d6_5 : decode prog_24_method_2_code 5 = .ok (.ldc 13, 2) := by decide +kernel
theorem d6_7 : decode prog_24_method_2_code 7 = .ok (.dload_n 1, 1) := by decide +kernel
theorem d6_8 : decode prog_24_method_2_code 8 = .ok (.invokestatic 15, 3) := by decide +kernel
theorem d6_11 : decode prog_24_method_2_code 11 = .ok (.dreturn, 1) := by decide +kernel
theorem ef_rm6c (m : MethodId) (a1 : Addr) (d1 : UInt64) : entryFrame m #[(.ref a1), (.double d1)] 3 = mkF m 0 #[.val (.ref a1), .val (.double d1), .second] [] := by first | (simp [entryFrame, mkF, argsToLocals, Value.category]; done) | rfl
set_option maxRecDepth 65536 in
set_option maxHeartbeats 40000000 in
theorem rm6c (l : Launch) (Z : State) (a0 : Array Value) (hw : ∀ d ∈ tables_1, d.before a0 Z = true) (ws : List Jvm.Cond) (a1 : Addr) (d1 : UInt64) (h0 : Heap) (n0 : Nat) (Z0 : n0 ≤ h0.size) (hn : Jvm.Free.Fl.NoNaN64 d1) (hf : ¬ (0 : Int32) < cmpValue (FP.dcmp (d1 &&& (0x7fffffffffffffff : UInt64)) (9218868437227405311 : UInt64)) .g) :
    MetFree l (⟨"com/example/citadel_hill/citadelhill/channel/ParameterChecks", "requireFinite", "(Ljava/lang/String;D)D"⟩ : MethodName) (head1 (Jvm.Cond.code (⟨"com/example/citadel_hill/citadelhill/channel/ParameterChecks", "requireFinite", "(Ljava/lang/String;D)D"⟩ : MethodName) prog_24_method_2_code 3 (some .double) :: ws) ({ frames := 2, cells := 2, slots := 28, locals := 30 } : Room)) (fun a U => a = #[(.ref a1), (.double d1)] ∧ Z.Warmed39 U.vm ∧ U.heap = h0 ∧ PT U.vm) (fun _ _ _ _ _ => True) (fun _ U o U' => ∃ vr Lr, o = .returned vr ∧ QS d1 h0 n0 vr U'.heap Lr ∧ PF U'.vm ∧ ReturnedEndW U o U' Lr 2 28) := by
  refine MetFree.of_bodySF (plainFor_of_name own_pn2) hisR ?_
  intro p e s m args below meth c s₁ Bd hml0 hP hK
  obtain ⟨rfl, hZ, hh, hR0⟩ := hP
  have hx := Bd.exec
  have hby := Bd.bytes
  have hml : c.maxLocals = 3 := hml0
  have hown : s.vm.findClass "com/example/citadel_hill/citadelhill/channel/ParameterChecks" = some m.cls := findClass_of_methodNamed Bd.named
  have hnm := (name_of_methodNamed Bd.named Bd.method).1
  have hlk : meth.locks = false := Bd.notSynchronized
  have hrt := Bd.returns
  have X0 : Stand p l e ({ frames := 2, cells := 2, slots := 28, locals := 30 } : Room) s m #[(.ref a1), (.double d1)] below meth c s₁ [] 0 0 := Stand.of_body Bd
  have e0 : s₁.heap = h0 := by rw [← hh, Bd.state]; rfl
  have N0 := Fr.nil n0
  have hS0 : Sn s s s.heap.size := Sn.start s _
  have HK0 : s.heap.size ≤ h0.size := by rw [hh]; exact Nat.le_refl _
  show DoneR PF p e s below 2 28 (QS d1 h0 n0) s₁ (entryFrame m #[(.ref a1), (.double d1)] 3)
  rw [ef_rm6c]
  show DoneR PF p e s below _ _ _ s₁ (mkF m 0 #[.val (.ref a1), .val (.double d1), .second] [])
  refine DoneR.go (fun _ kt_ => XS.dloadN X0.here hx rfl (hb hby d6_0) rfl kt_) ?_
  show DoneR PF p e s below _ _ _ s₁ (mkF m 1 #[.val (.ref a1), .val (.double d1), .second] [(.double d1)])
  obtain ⟨v2, T2, Lc2, X2, hQ2, st2⟩ := own_backG (Jvm.LawKit.callS X0 hx (y := (⟨"java/lang/Double", "isFinite", "(D)Z"⟩ : MethodName)) hown (mvT hZ (hw _ (List.mem_of_getElem? (i := 31) rfl))) (mvT hZ (hw _ (List.mem_of_getElem? (i := 32) rfl))) (mvT hZ (hw _ (List.mem_of_getElem? (i := 33) rfl))) (mvT hZ (hw _ (List.mem_of_getElem? (i := 34) rfl))) (by decide) (backOf (W := 0)  (rm7 l Z a0 hw [] d1 h0 n0 Z0 hn hf) hZ (hw _ (List.mem_of_getElem? (i := 34) rfl)) (hw _ (List.mem_of_getElem? (i := 33) rfl)) (by decide) (by decide)) (g := (mkF m 1 #[.val (.ref a1), .val (.double d1), .second] [(.double d1)])) rfl (by rw [hml]; rfl) (argsL := [(.double d1)]) (rest := []) (lenOf own_pd1 rfl) rfl (by show 2 * 0 + _ ≤ _; exact Nat.le_of_eq rfl) (hb hby d6_1) (fun _ _ => ⟨rfl, e0, (by first | decide | omega : 0 + 0 ≤ _), (by first | decide | omega : 0 + 0 ≤ _)⟩))
  obtain ⟨rfl, N2q, e2⟩ := hQ2
  refine DoneR.go st2 ?_
  clear st2
  have N2 := Fr.app N0 N2q
  clear N2q
  obtain ⟨Lh2, X2h, N2h⟩ : ∃ L, Stand p l e ({ frames := 2, cells := 2, slots := 28, locals := 30 } : Room) s m #[(.ref a1), (.double d1)] below meth c T2 L 0 0 ∧ Fr n0 L := ⟨_, X2, N2⟩
  clear X2 N2
  show DoneR PF p e s below _ _ _ T2 (mkF m 4 #[.val (.ref a1), .val (.double d1), .second] [(.int (1 : Int32))])
  refine DoneR.go (fun _ kt_ => XS.aloadN X2h.here hx rfl (hb hby d6_4) rfl rfl kt_) ?_
  show DoneR PF p e s below _ _ _ T2 (mkF m 5 #[.val (.ref a1), .val (.double d1), .second] [(.ref a1), (.int (1 : Int32))])
  obtain ⟨sa3, T3, h3, bs3, kk3, X3, e3, E3, hS3, HK3, hZ, hown, U3, R3, st3⟩ := own_ldcR X2h hx hZ hown (hw _ (List.mem_of_getElem? (i := 40) rfl)) (own_wS hw) e2 hS0 HK0 (g := (mkF m 5 #[.val (.ref a1), .val (.double d1), .second] [(.ref a1), (.int (1 : Int32))])) rfl (hb hby d6_5) (n := 24) (by decide) (by decide) (by decide) (by decide)
  have Z3 : n0 ≤ h3.size := Nat.le_trans Z0 E3.1
  have K3 : Keep h0 h3 [] := (Keep.refl h0 []).ext E3
  obtain ⟨Lh3, X3h, N3h⟩ : ∃ L, Stand p l e ({ frames := 2, cells := 2, slots := 28, locals := 30 } : Room) bs3 m #[(.ref a1), (.double d1)] below meth c T3 L 2 28 ∧ Fr n0 L := ⟨_, X3, N2h⟩
  clear X3 N2h X2h e2
  refine DoneR.go st3 ?_
  clear st3
  show DoneR PF p e s below _ _ _ T3 (mkF m 7 #[.val (.ref a1), .val (.double d1), .second] [(.ref sa3), (.ref a1), (.int (1 : Int32))])
  refine DoneR.go (fun _ kt_ => XS.dloadN X3h.here hx rfl (hb hby d6_7) rfl kt_) ?_
  show DoneR PF p e s below _ _ _ T3 (mkF m 8 #[.val (.ref a1), .val (.double d1), .second] [(.double d1), (.ref sa3), (.ref a1), (.int (1 : Int32))])
  obtain ⟨v4, T4, Lc4, X4, hQ4, st4⟩ := own_backG (Jvm.LawKit.callS X3h hx (y := (⟨"com/example/citadel_hill/citadelhill/channel/ParameterChecks", "require", "(ZLjava/lang/String;Ljava/lang/String;D)D"⟩ : MethodName)) hown (mvT hZ (hw _ (List.mem_of_getElem? (i := 41) rfl))) (mvT hZ (hw _ (List.mem_of_getElem? (i := 42) rfl))) (mvT hZ (hw _ (List.mem_of_getElem? (i := 29) rfl))) (mvT hZ (hw _ (List.mem_of_getElem? (i := 43) rfl))) (by decide) (backOf (W := 0)  (rm9 l Z a0 hw [] a1 sa3 d1 h3 n0 Z3) hZ (hw _ (List.mem_of_getElem? (i := 43) rfl)) (hw _ (List.mem_of_getElem? (i := 29) rfl)) (by decide) (by decide)) (g := (mkF m 8 #[.val (.ref a1), .val (.double d1), .second] [(.double d1), (.ref sa3), (.ref a1), (.int (1 : Int32))])) rfl (by rw [hml]; rfl) (argsL := [(.int (1 : Int32)), (.ref a1), (.ref sa3), (.double d1)]) (rest := []) (lenOf own_pd2 rfl) rfl (by show 2 * 0 + _ ≤ _; exact Nat.le_of_eq rfl) (hb hby d6_8) (fun _ _ => ⟨rfl, e3, (by first | decide | omega : 2 + 0 ≤ _), (by first | decide | omega : 28 + 0 ≤ _)⟩))
  obtain ⟨rfl, N4q, e4⟩ := hQ4
  refine DoneR.go st4 ?_
  clear st4
  have N4 := Fr.app N3h N4q
  clear N4q
  obtain ⟨Lh4, X4h, N4h⟩ : ∃ L, Stand p l e ({ frames := 2, cells := 2, slots := 28, locals := 30 } : Room) bs3 m #[(.ref a1), (.double d1)] below meth c T4 L 2 28 ∧ Fr n0 L := ⟨_, X4, N4⟩
  clear X4 N4 X3h e3 N3h
  show DoneR PF p e s below _ _ _ T4 (mkF m 11 #[.val (.ref a1), .val (.double d1), .second] [(.double d1)])
  refine DoneR.retD X4h hx ⟨⟨hlk, _, hS3, (by rw [e4]; exact HK3)⟩, (Rsd.up R3 X4h.warmed.wide)⟩ hrt (hb hby d6_11) ?_ (by first | decide | omega) (by first | decide | omega)
  rw [e4]
  exact ⟨rfl, N4h, K3⟩
theorem ef_rm6h (m : MethodId) (a1 : Addr) (d1 : UInt64) : entryFrame m #[(.ref a1), (.double d1)] 3 = mkF m 0 #[.val (.ref a1), .val (.double d1), .second] [] := by first | (simp [entryFrame, mkF, argsToLocals, Value.category]; done) | rfl
set_option maxRecDepth 65536 in
set_option maxHeartbeats 40000000 in
theorem rm6h (l : Launch) (Z : State) (a0 : Array Value) (hw : ∀ d ∈ tables_1, d.before a0 Z = true) (ws : List Jvm.Cond) (a1 : Addr) (d1 : UInt64) (h0 : Heap) (n0 : Nat) (Z0 : n0 ≤ h0.size) (hn : Jvm.Free.Fl.NoNaN64 d1) (hf : ¬ (0 : Int32) < cmpValue (FP.dcmp (d1 &&& (0x7fffffffffffffff : UInt64)) (9218868437227405311 : UInt64)) .g) :
    MetFree l (⟨"com/example/citadel_hill/citadelhill/channel/ParameterChecks", "requireFinite", "(Ljava/lang/String;D)D"⟩ : MethodName) (head1 (Jvm.Cond.code (⟨"com/example/citadel_hill/citadelhill/channel/ParameterChecks", "requireFinite", "(Ljava/lang/String;D)D"⟩ : MethodName) prog_24_method_2_code 3 (some .double) :: ws) ({ frames := 2, cells := 0, slots := 0, locals := 30 } : Room)) (fun a U => a = #[(.ref a1), (.double d1)] ∧ Z.Warmed39 U.vm ∧ U.heap = h0 ∧ PF U.vm) (fun _ _ _ _ _ => True) (fun _ U o U' => ∃ vr Lr, o = .returned vr ∧ QS d1 h0 n0 vr U'.heap Lr ∧ PF U'.vm ∧ ReturnedEndW U o U' Lr 0 0) := by
  refine MetFree.of_bodySF (plainFor_of_name own_pn2) hisR ?_
  intro p e s m args below meth c s₁ Bd hml0 hP hK
  obtain ⟨rfl, hZ, hh, hR0⟩ := hP
  have hx := Bd.exec
  have hby := Bd.bytes
  have hml : c.maxLocals = 3 := hml0
  have hown : s.vm.findClass "com/example/citadel_hill/citadelhill/channel/ParameterChecks" = some m.cls := findClass_of_methodNamed Bd.named
  have hnm := (name_of_methodNamed Bd.named Bd.method).1
  have hlk : meth.locks = false := Bd.notSynchronized
  have hrt := Bd.returns
  have X0 : Stand p l e ({ frames := 2, cells := 0, slots := 0, locals := 30 } : Room) s m #[(.ref a1), (.double d1)] below meth c s₁ [] 0 0 := Stand.of_body Bd
  have e0 : s₁.heap = h0 := by rw [← hh, Bd.state]; rfl
  have N0 := Fr.nil n0
  have hS0 : Sn s s s.heap.size := Sn.start s _
  have HK0 : s.heap.size ≤ h0.size := by rw [hh]; exact Nat.le_refl _
  show DoneR PF p e s below 0 0 (QS d1 h0 n0) s₁ (entryFrame m #[(.ref a1), (.double d1)] 3)
  rw [ef_rm6h]
  show DoneR PF p e s below _ _ _ s₁ (mkF m 0 #[.val (.ref a1), .val (.double d1), .second] [])
  refine DoneR.go (fun _ kt_ => XS.dloadN X0.here hx rfl (hb hby d6_0) rfl kt_) ?_
  show DoneR PF p e s below _ _ _ s₁ (mkF m 1 #[.val (.ref a1), .val (.double d1), .second] [(.double d1)])
  obtain ⟨v5, T5, Lc5, X5, hQ5, st5⟩ := own_backG (Jvm.LawKit.callS X0 hx (y := (⟨"java/lang/Double", "isFinite", "(D)Z"⟩ : MethodName)) hown (mvT hZ (hw _ (List.mem_of_getElem? (i := 31) rfl))) (mvT hZ (hw _ (List.mem_of_getElem? (i := 32) rfl))) (mvT hZ (hw _ (List.mem_of_getElem? (i := 33) rfl))) (mvT hZ (hw _ (List.mem_of_getElem? (i := 34) rfl))) (by decide) (backOf (W := 0)  (rm7 l Z a0 hw [] d1 h0 n0 Z0 hn hf) hZ (hw _ (List.mem_of_getElem? (i := 34) rfl)) (hw _ (List.mem_of_getElem? (i := 33) rfl)) (by decide) (by decide)) (g := (mkF m 1 #[.val (.ref a1), .val (.double d1), .second] [(.double d1)])) rfl (by rw [hml]; rfl) (argsL := [(.double d1)]) (rest := []) (lenOf own_pd1 rfl) rfl (by show 2 * 0 + _ ≤ _; exact Nat.le_of_eq rfl) (hb hby d6_1) (fun _ _ => ⟨rfl, e0, (by first | decide | omega : 0 + 0 ≤ _), (by first | decide | omega : 0 + 0 ≤ _)⟩))
  obtain ⟨rfl, N5q, e5⟩ := hQ5
  refine DoneR.go st5 ?_
  clear st5
  have N5 := Fr.app N0 N5q
  clear N5q
  obtain ⟨Lh5, X5h, N5h⟩ : ∃ L, Stand p l e ({ frames := 2, cells := 0, slots := 0, locals := 30 } : Room) s m #[(.ref a1), (.double d1)] below meth c T5 L 0 0 ∧ Fr n0 L := ⟨_, X5, N5⟩
  clear X5 N5
  show DoneR PF p e s below _ _ _ T5 (mkF m 4 #[.val (.ref a1), .val (.double d1), .second] [(.int (1 : Int32))])
  refine DoneR.go (fun _ kt_ => XS.aloadN X5h.here hx rfl (hb hby d6_4) rfl rfl kt_) ?_
  show DoneR PF p e s below _ _ _ T5 (mkF m 5 #[.val (.ref a1), .val (.double d1), .second] [(.ref a1), (.int (1 : Int32))])
  obtain ⟨sa6, st6⟩ := own_ldcH X5h hx hZ hown (hw _ (List.mem_of_getElem? (i := 40) rfl)) hR0 (g := (mkF m 5 #[.val (.ref a1), .val (.double d1), .second] [(.ref a1), (.int (1 : Int32))])) rfl (hb hby d6_5)
  refine DoneR.go st6 ?_
  clear st6
  show DoneR PF p e s below _ _ _ T5 (mkF m 7 #[.val (.ref a1), .val (.double d1), .second] [(.ref sa6), (.ref a1), (.int (1 : Int32))])
  refine DoneR.go (fun _ kt_ => XS.dloadN X5h.here hx rfl (hb hby d6_7) rfl kt_) ?_
  show DoneR PF p e s below _ _ _ T5 (mkF m 8 #[.val (.ref a1), .val (.double d1), .second] [(.double d1), (.ref sa6), (.ref a1), (.int (1 : Int32))])
  obtain ⟨v7, T7, Lc7, X7, hQ7, st7⟩ := own_backG (Jvm.LawKit.callS X5h hx (y := (⟨"com/example/citadel_hill/citadelhill/channel/ParameterChecks", "require", "(ZLjava/lang/String;Ljava/lang/String;D)D"⟩ : MethodName)) hown (mvT hZ (hw _ (List.mem_of_getElem? (i := 41) rfl))) (mvT hZ (hw _ (List.mem_of_getElem? (i := 42) rfl))) (mvT hZ (hw _ (List.mem_of_getElem? (i := 29) rfl))) (mvT hZ (hw _ (List.mem_of_getElem? (i := 43) rfl))) (by decide) (backOf (W := 0)  (rm9 l Z a0 hw [] a1 sa6 d1 h0 n0 Z0) hZ (hw _ (List.mem_of_getElem? (i := 43) rfl)) (hw _ (List.mem_of_getElem? (i := 29) rfl)) (by decide) (by decide)) (g := (mkF m 8 #[.val (.ref a1), .val (.double d1), .second] [(.double d1), (.ref sa6), (.ref a1), (.int (1 : Int32))])) rfl (by rw [hml]; rfl) (argsL := [(.int (1 : Int32)), (.ref a1), (.ref sa6), (.double d1)]) (rest := []) (lenOf own_pd2 rfl) rfl (by show 2 * 0 + _ ≤ _; exact Nat.le_of_eq rfl) (hb hby d6_8) (fun _ _ => ⟨rfl, e5, (by first | decide | omega : 0 + 0 ≤ _), (by first | decide | omega : 0 + 0 ≤ _)⟩))
  obtain ⟨rfl, N7q, e7⟩ := hQ7
  refine DoneR.go st7 ?_
  clear st7
  have N7 := Fr.app N5h N7q
  clear N7q
  obtain ⟨Lh7, X7h, N7h⟩ : ∃ L, Stand p l e ({ frames := 2, cells := 0, slots := 0, locals := 30 } : Room) s m #[(.ref a1), (.double d1)] below meth c T7 L 0 0 ∧ Fr n0 L := ⟨_, X7, N7⟩
  clear X7 N7 X5h e5 N5h
  show DoneR PF p e s below _ _ _ T7 (mkF m 11 #[.val (.ref a1), .val (.double d1), .second] [(.double d1)])
  refine DoneR.retD X7h hx ⟨⟨hlk, _, hS0, (by rw [e7]; exact HK0)⟩, (Rsd.up hR0 X7h.warmed.wide)⟩ hrt (hb hby d6_11) ?_ (by first | decide | omega) (by first | decide | omega)
  rw [e7]
  exact ⟨rfl, N7h, (Keep.refl h0 [])⟩
theorem d10_0 : decode prog_24_method_5_code 0 = .ok (.dload_n 1, 1) := by decide +kernel
theorem d10_1 : decode prog_24_method_5_code 1 = .ok (.invokestatic 7, 3) := by decide +kernel
theorem d10_4 : decode prog_24_method_5_code 4 = .ok (.ifCond .eq 13, 3) := by decide +kernel
theorem d10_7 : decode prog_24_method_5_code 7 = .ok (.dload_n 1, 1) := by decide +kernel
theorem d10_8 : decode prog_24_method_5_code 8 = .ok (.dconst 0, 1) := by decide +kernel
theorem d10_9 : decode prog_24_method_5_code 9 = .ok (.dcmp .l, 1) := by decide +kernel
theorem d10_10 : decode prog_24_method_5_code 10 = .ok (.ifCond .lt 7, 3) := by decide +kernel
theorem d10_13 : decode prog_24_method_5_code 13 = .ok (.iconst 1, 1) := by decide +kernel
theorem d10_14 : decode prog_24_method_5_code 14 = .ok (.goto 4, 3) := by decide +kernel
theorem d10_17 : decode prog_24_method_5_code 17 = .ok (.iconst 0, 1) := by decide +kernel
theorem d10_18 : decode prog_24_method_5_code 18 = .ok (.aload_n 0, 1) := by decide +kernel
theorem d10_19 : decode prog_24_method_5_code 19 = .ok (.ldc 25, 2) := by decide +kernel
theorem d10_21 : decode prog_24_method_5_code 21 = .ok (.dload_n 1, 1) := by decide +kernel
theorem d10_22 : decode prog_24_method_5_code 22 = .ok (.invokestatic 15, 3) := by decide +kernel
theorem d10_25 : decode prog_24_method_5_code 25 = .ok (.dreturn, 1) := by decide +kernel
theorem ef_rm10 (m : MethodId) (a1 : Addr) (d1 : UInt64) : entryFrame m #[(.ref a1), (.double d1)] 3 = mkF m 0 #[.val (.ref a1), .val (.double d1), .second] [] := by first | (simp [entryFrame, mkF, argsToLocals, Value.category]; done) | rfl
set_option maxRecDepth 65536 in
set_option maxHeartbeats 40000000 in
theorem rm10 (l : Launch) (Z : State) (a0 : Array Value) (hw : ∀ d ∈ tables_1, d.before a0 Z = true) (ws : List Jvm.Cond) (a1 : Addr) (d1 : UInt64) (h0 : Heap) (n0 : Nat) (Z0 : n0 ≤ h0.size) (hn : Jvm.Free.Fl.NoNaN64 d1) (hf : ¬ (0 : Int32) < cmpValue (FP.dcmp (d1 &&& (0x7fffffffffffffff : UInt64)) (9218868437227405311 : UInt64)) .g) (hg : ¬ cmpValue (FP.dcmp d1 (FP.l2d (0 : Int64))) .l < (0 : Int32)) :
    MetFree l (⟨"com/example/citadel_hill/citadelhill/channel/ParameterChecks", "requireNonNegative", "(Ljava/lang/String;D)D"⟩ : MethodName) (head1 (Jvm.Cond.code (⟨"com/example/citadel_hill/citadelhill/channel/ParameterChecks", "requireNonNegative", "(Ljava/lang/String;D)D"⟩ : MethodName) prog_24_method_5_code 3 (some .double) :: ws) ({ frames := 2, cells := 2, slots := 96, locals := 30 } : Room)) (fun a U => a = #[(.ref a1), (.double d1)] ∧ Z.Warmed39 U.vm ∧ U.heap = h0 ∧ PT U.vm) (fun _ _ _ _ _ => True) (fun _ U o U' => ∃ vr Lr, o = .returned vr ∧ QS d1 h0 n0 vr U'.heap Lr ∧ PT U'.vm ∧ ReturnedEndW U o U' Lr 2 96) := by
  refine MetFree.of_bodySF (plainFor_of_name own_pn2) hisR ?_
  intro p e s m args below meth c s₁ Bd hml0 hP hK
  obtain ⟨rfl, hZ, hh, hR0⟩ := hP
  have hx := Bd.exec
  have hby := Bd.bytes
  have hml : c.maxLocals = 3 := hml0
  have hown : s.vm.findClass "com/example/citadel_hill/citadelhill/channel/ParameterChecks" = some m.cls := findClass_of_methodNamed Bd.named
  have hnm := (name_of_methodNamed Bd.named Bd.method).1
  have hlk : meth.locks = false := Bd.notSynchronized
  have hrt := Bd.returns
  have X0 : Stand p l e ({ frames := 2, cells := 2, slots := 96, locals := 30 } : Room) s m #[(.ref a1), (.double d1)] below meth c s₁ [] 0 0 := Stand.of_body Bd
  have e0 : s₁.heap = h0 := by rw [← hh, Bd.state]; rfl
  have N0 := Fr.nil n0
  have hS0 : Sn s s s.heap.size := Sn.start s _
  have HK0 : s.heap.size ≤ h0.size := by rw [hh]; exact Nat.le_refl _
  show DoneR PT p e s below 2 96 (QS d1 h0 n0) s₁ (entryFrame m #[(.ref a1), (.double d1)] 3)
  rw [ef_rm10]
  show DoneR PT p e s below _ _ _ s₁ (mkF m 0 #[.val (.ref a1), .val (.double d1), .second] [])
  refine DoneR.go (fun _ kt_ => XS.dloadN X0.here hx rfl (hb hby d10_0) rfl kt_) ?_
  show DoneR PT p e s below _ _ _ s₁ (mkF m 1 #[.val (.ref a1), .val (.double d1), .second] [(.double d1)])
  obtain ⟨v8, T8, Lc8, X8, hQ8, st8⟩ := own_backG (Jvm.LawKit.callS X0 hx (y := (⟨"java/lang/Double", "isFinite", "(D)Z"⟩ : MethodName)) hown (mvT hZ (hw _ (List.mem_of_getElem? (i := 31) rfl))) (mvT hZ (hw _ (List.mem_of_getElem? (i := 32) rfl))) (mvT hZ (hw _ (List.mem_of_getElem? (i := 33) rfl))) (mvT hZ (hw _ (List.mem_of_getElem? (i := 34) rfl))) (by decide) (backOf (W := 0)  (rm7 l Z a0 hw [] d1 h0 n0 Z0 hn hf) hZ (hw _ (List.mem_of_getElem? (i := 34) rfl)) (hw _ (List.mem_of_getElem? (i := 33) rfl)) (by decide) (by decide)) (g := (mkF m 1 #[.val (.ref a1), .val (.double d1), .second] [(.double d1)])) rfl (by rw [hml]; rfl) (argsL := [(.double d1)]) (rest := []) (lenOf own_pd1 rfl) rfl (by show 2 * 0 + _ ≤ _; exact Nat.le_of_eq rfl) (hb hby d10_1) (fun _ _ => ⟨rfl, e0, (by first | decide | omega : 0 + 0 ≤ _), (by first | decide | omega : 0 + 0 ≤ _)⟩))
  obtain ⟨rfl, N8q, e8⟩ := hQ8
  refine DoneR.go st8 ?_
  clear st8
  have N8 := Fr.app N0 N8q
  clear N8q
  obtain ⟨Lh8, X8h, N8h⟩ : ∃ L, Stand p l e ({ frames := 2, cells := 2, slots := 96, locals := 30 } : Room) s m #[(.ref a1), (.double d1)] below meth c T8 L 0 0 ∧ Fr n0 L := ⟨_, X8, N8⟩
  clear X8 N8
  show DoneR PT p e s below _ _ _ T8 (mkF m 4 #[.val (.ref a1), .val (.double d1), .second] [(.int (1 : Int32))])
  refine DoneR.go (fun _ kt_ => XS.ifNo X8h.here hx rfl (hb hby d10_4) rfl ((if0 _ _).trans (feq (by decide)).1) kt_) ?_
  show DoneR PT p e s below _ _ _ T8 (mkF m 7 #[.val (.ref a1), .val (.double d1), .second] [])
  refine DoneR.go (fun _ kt_ => XS.dloadN X8h.here hx rfl (hb hby d10_7) rfl kt_) ?_
  show DoneR PT p e s below _ _ _ T8 (mkF m 8 #[.val (.ref a1), .val (.double d1), .second] [(.double d1)])
  refine DoneR.go (fun _ kt_ => XS.dconst0 X8h.here hx rfl (hb hby d10_8) own_d0 kt_) ?_
  show DoneR PT p e s below _ _ _ T8 (mkF m 9 #[.val (.ref a1), .val (.double d1), .second] [(.double (FP.l2d (0 : Int64))), (.double d1)])
  refine DoneR.go (fun _ kt_ => XS.dcmpS X8h.here hx rfl (hb hby d10_9) rfl rfl kt_) ?_
  show DoneR PT p e s below _ _ _ T8 (mkF m 10 #[.val (.ref a1), .val (.double d1), .second] [(.int (cmpValue (FP.dcmp d1 (FP.l2d (0 : Int64))) .l))])
  refine DoneR.go (fun _ kt_ => XS.ifNo X8h.here hx rfl (hb hby d10_10) rfl ((if0 _ _).trans (flt hg).1) kt_) ?_
  show DoneR PT p e s below _ _ _ T8 (mkF m 13 #[.val (.ref a1), .val (.double d1), .second] [])
  refine DoneR.go (fun _ kt_ => XS.iconst X8h.here hx rfl (hb hby d10_13) kt_) ?_
  show DoneR PT p e s below _ _ _ T8 (mkF m 14 #[.val (.ref a1), .val (.double d1), .second] [(.int (1 : Int32))])
  refine DoneR.go (fun _ kt_ => XS.goto X8h.here hx rfl (pc0 := 14) (pc' := 18) rfl (hb hby d10_14) (by decide) (by decide) kt_) ?_
  show DoneR PT p e s below _ _ _ T8 (mkF m 18 #[.val (.ref a1), .val (.double d1), .second] [(.int (1 : Int32))])
  refine DoneR.go (fun _ kt_ => XS.aloadN X8h.here hx rfl (hb hby d10_18) rfl rfl kt_) ?_
  show DoneR PT p e s below _ _ _ T8 (mkF m 19 #[.val (.ref a1), .val (.double d1), .second] [(.ref a1), (.int (1 : Int32))])
  obtain ⟨sa9, T9, h9, bs9, kk9, X9, e9, E9, hS9, HK9, hZ, hown, U9, R9, st9⟩ := own_ldcR X8h hx hZ hown (hw _ (List.mem_of_getElem? (i := 48) rfl)) (own_wS hw) e8 hS0 HK0 (g := (mkF m 19 #[.val (.ref a1), .val (.double d1), .second] [(.ref a1), (.int (1 : Int32))])) rfl (hb hby d10_19) (n := 92) (by decide) (by decide) (by decide) (by decide)
  have Z9 : n0 ≤ h9.size := Nat.le_trans Z0 E9.1
  have K9 : Keep h0 h9 [] := (Keep.refl h0 []).ext E9
  obtain ⟨Lh9, X9h, N9h⟩ : ∃ L, Stand p l e ({ frames := 2, cells := 2, slots := 96, locals := 30 } : Room) bs9 m #[(.ref a1), (.double d1)] below meth c T9 L 2 96 ∧ Fr n0 L := ⟨_, X9, N8h⟩
  clear X9 N8h X8h e8
  refine DoneR.go st9 ?_
  clear st9
  show DoneR PT p e s below _ _ _ T9 (mkF m 21 #[.val (.ref a1), .val (.double d1), .second] [(.ref sa9), (.ref a1), (.int (1 : Int32))])
  refine DoneR.go (fun _ kt_ => XS.dloadN X9h.here hx rfl (hb hby d10_21) rfl kt_) ?_
  show DoneR PT p e s below _ _ _ T9 (mkF m 22 #[.val (.ref a1), .val (.double d1), .second] [(.double d1), (.ref sa9), (.ref a1), (.int (1 : Int32))])
  obtain ⟨v10, T10, Lc10, X10, hQ10, st10⟩ := own_backG (Jvm.LawKit.callS X9h hx (y := (⟨"com/example/citadel_hill/citadelhill/channel/ParameterChecks", "require", "(ZLjava/lang/String;Ljava/lang/String;D)D"⟩ : MethodName)) hown (mvT hZ (hw _ (List.mem_of_getElem? (i := 41) rfl))) (mvT hZ (hw _ (List.mem_of_getElem? (i := 42) rfl))) (mvT hZ (hw _ (List.mem_of_getElem? (i := 29) rfl))) (mvT hZ (hw _ (List.mem_of_getElem? (i := 43) rfl))) (by decide) (backOf (W := 0)  (rm9 l Z a0 hw [] a1 sa9 d1 h9 n0 Z9) hZ (hw _ (List.mem_of_getElem? (i := 43) rfl)) (hw _ (List.mem_of_getElem? (i := 29) rfl)) (by decide) (by decide)) (g := (mkF m 22 #[.val (.ref a1), .val (.double d1), .second] [(.double d1), (.ref sa9), (.ref a1), (.int (1 : Int32))])) rfl (by rw [hml]; rfl) (argsL := [(.int (1 : Int32)), (.ref a1), (.ref sa9), (.double d1)]) (rest := []) (lenOf own_pd2 rfl) rfl (by show 2 * 0 + _ ≤ _; exact Nat.le_of_eq rfl) (hb hby d10_22) (fun _ _ => ⟨rfl, e9, (by first | decide | omega : 2 + 0 ≤ _), (by first | decide | omega : 96 + 0 ≤ _)⟩))
  obtain ⟨rfl, N10q, e10⟩ := hQ10
  refine DoneR.go st10 ?_
  clear st10
  have N10 := Fr.app N9h N10q
  clear N10q
  obtain ⟨Lh10, X10h, N10h⟩ : ∃ L, Stand p l e ({ frames := 2, cells := 2, slots := 96, locals := 30 } : Room) bs9 m #[(.ref a1), (.double d1)] below meth c T10 L 2 96 ∧ Fr n0 L := ⟨_, X10, N10⟩
  clear X10 N10 X9h e9 N9h
  show DoneR PT p e s below _ _ _ T10 (mkF m 25 #[.val (.ref a1), .val (.double d1), .second] [(.double d1)])
  refine DoneR.retD X10h hx ⟨⟨hlk, _, hS9, (by rw [e10]; exact HK9)⟩, trivial⟩ hrt (hb hby d10_25) ?_ (by first | decide | omega) (by first | decide | omega)
  rw [e10]
  exact ⟨rfl, N10h, K9⟩
def Q4 (Z : State) (a1 : Addr) (d1 d2 d3 : UInt64) (h0 : Heap) (n0 : Nat) (v : Option Value) (h : Heap) (L : List Loc) : Prop := v = none ∧ Fr n0 L ∧ Keep h0 h [a1] ∧ Exa Z h a1 "com/example/citadel_hill/citadelhill/cell/CurrentPulse" ∧ Fld Z h a1 "com/example/citadel_hill/citadelhill/cell/CurrentPulse" "delay" "D" (.double d1) ∧ Fld Z h a1 "com/example/citadel_hill/citadelhill/cell/CurrentPulse" "duration" "D" (.double d2) ∧ Fld Z h a1 "com/example/citadel_hill/citadelhill/cell/CurrentPulse" "amplitude" "D" (.double d3)
theorem d4_0 : decode prog_4_method_1_code 0 = .ok (.aload_n 0, 1) := by decide +kernel
theorem d4_1 : decode prog_4_method_1_code 1 = .ok (.invokespecial 1, 3) := by decide +kernel
theorem d4_4 : decode prog_4_method_1_code 4 = .ok (.ldc 7, 2) := by decide +kernel
theorem d4_6 : decode prog_4_method_1_code 6 = .ok (.dload_n 1, 1) := by decide +kernel
theorem d4_7 : decode prog_4_method_1_code 7 = .ok (.invokestatic 9, 3) := by decide +kernel
theorem d4_10 : decode prog_4_method_1_code 10 = .ok (.pop2, 1) := by decide +kernel
theorem d4_11 : decode prog_4_method_1_code 11 = .ok (.ldc 15, 2) := by decide +kernel
theorem d4_13 : decode prog_4_method_1_code 13 = .ok (.dload_n 3, 1) := by decide +kernel
theorem d4_14 : decode prog_4_method_1_code 14 = .ok (.invokestatic 17, 3) := by decide +kernel
theorem d4_17 : decode prog_4_method_1_code 17 = .ok (.pop2, 1) := by decide +kernel
theorem d4_18 : decode prog_4_method_1_code 18 = .ok (.ldc 20, 2) := by decide +kernel
theorem d4_20 : decode prog_4_method_1_code 20 = .ok (.dload 5, 2) := by decide +kernel
theorem d4_22 : decode prog_4_method_1_code 22 = .ok (.invokestatic 9, 3) := by decide +kernel
theorem d4_25 : decode prog_4_method_1_code 25 = .ok (.pop2, 1) := by decide +kernel
theorem d4_26 : decode prog_4_method_1_code 26 = .ok (.aload_n 0, 1) := by decide +kernel
theorem d4_27 : decode prog_4_method_1_code 27 = .ok (.dload_n 1, 1) := by decide +kernel
theorem d4_28 : decode prog_4_method_1_code 28 = .ok (.putfield 22, 3) := by decide +kernel
theorem d4_31 : decode prog_4_method_1_code 31 = .ok (.aload_n 0, 1) := by decide +kernel
theorem d4_32 : decode prog_4_method_1_code 32 = .ok (.dload_n 3, 1) := by decide +kernel
theorem d4_33 : decode prog_4_method_1_code 33 = .ok (.putfield 27, 3) := by decide +kernel
theorem d4_36 : decode prog_4_method_1_code 36 = .ok (.aload_n 0, 1) := by decide +kernel
theorem d4_37 : decode prog_4_method_1_code 37 = .ok (.dload 5, 2) := by decide +kernel
theorem d4_39 : decode prog_4_method_1_code 39 = .ok (.putfield 29, 3) := by decide +kernel
theorem d4_42 : decode prog_4_method_1_code 42 = .ok (.return_, 1) := by decide +kernel
theorem own_pn3 : plainName "com/example/citadel_hill/citadelhill/cell/CurrentPulse" = true := by first | (simp [plainName, overriddenIn]; done) | decide +kernel
theorem ef_rm4 (m : MethodId) (a1 : Addr) (d1 : UInt64) (d2 : UInt64) (d3 : UInt64) : entryFrame m #[(.ref a1), (.double d1), (.double d2), (.double d3)] 7 = mkF m 0 #[.val (.ref a1), .val (.double d1), .second, .val (.double d2), .second, .val (.double d3), .second] [] := by first | (simp [entryFrame, mkF, argsToLocals, Value.category]; done) | rfl
set_option maxRecDepth 65536 in
set_option maxHeartbeats 40000000 in
theorem rm4 (l : Launch) (Z : State) (a0 : Array Value) (hw : ∀ d ∈ tables_1, d.before a0 Z = true) (ws : List Jvm.Cond) (a1 : Addr) (d1 : UInt64) (d2 : UInt64) (d3 : UInt64) (h0 : Heap) (n0 : Nat) (Z0 : n0 ≤ h0.size) (E1 : Exa Z h0 a1 "com/example/citadel_hill/citadelhill/cell/CurrentPulse") (g1 : n0 ≤ a1) (F_delay : Fld Z h0 a1 "com/example/citadel_hill/citadelhill/cell/CurrentPulse" "delay" "D" (.double (0 : UInt64))) (F_duration : Fld Z h0 a1 "com/example/citadel_hill/citadelhill/cell/CurrentPulse" "duration" "D" (.double (0 : UInt64))) (F_amplitude : Fld Z h0 a1 "com/example/citadel_hill/citadelhill/cell/CurrentPulse" "amplitude" "D" (.double (0 : UInt64))) (hn1 : Jvm.Free.Fl.NoNaN64 d1) (hf1 : ¬ (0 : Int32) < cmpValue (FP.dcmp (d1 &&& (0x7fffffffffffffff : UInt64)) (9218868437227405311 : UInt64)) .g) (hn2 : Jvm.Free.Fl.NoNaN64 d2) (hf2 : ¬ (0 : Int32) < cmpValue (FP.dcmp (d2 &&& (0x7fffffffffffffff : UInt64)) (9218868437227405311 : UInt64)) .g) (hn3 : Jvm.Free.Fl.NoNaN64 d3) (hf3 : ¬ (0 : Int32) < cmpValue (FP.dcmp (d3 &&& (0x7fffffffffffffff : UInt64)) (9218868437227405311 : UInt64)) .g) (hg2 : ¬ cmpValue (FP.dcmp d2 (FP.l2d (0 : Int64))) .l < (0 : Int32)) :
    MetFree l (⟨"com/example/citadel_hill/citadelhill/cell/CurrentPulse", "<init>", "(DDD)V"⟩ : MethodName) (head1 (Jvm.Cond.code (⟨"com/example/citadel_hill/citadelhill/cell/CurrentPulse", "<init>", "(DDD)V"⟩ : MethodName) prog_4_method_1_code 7 none :: ws) ({ frames := 3, cells := 10, slots := 224, locals := 50 } : Room)) (fun a U => a = #[(.ref a1), (.double d1), (.double d2), (.double d3)] ∧ Z.Warmed39 U.vm ∧ U.heap = h0 ∧ PT U.vm) (fun _ _ _ _ _ => True) (fun _ U o U' => ∃ vr Lr, o = .returned vr ∧ Q4 Z a1 d1 d2 d3 h0 n0 vr U'.heap Lr ∧ PT U'.vm ∧ ReturnedEndW U o U' Lr 10 224) := by
  refine MetFree.of_bodySF (plainFor_of_name own_pn3) hisR ?_
  intro p e s m args below meth c s₁ Bd hml0 hP hK
  obtain ⟨rfl, hZ, hh, hR0⟩ := hP
  have hx := Bd.exec
  have hby := Bd.bytes
  have hml : c.maxLocals = 7 := hml0
  have hown : s.vm.findClass "com/example/citadel_hill/citadelhill/cell/CurrentPulse" = some m.cls := findClass_of_methodNamed Bd.named
  have hnm := (name_of_methodNamed Bd.named Bd.method).1
  have hlk : meth.locks = false := Bd.notSynchronized
  have hrt := Bd.returns
  have X0 : Stand p l e ({ frames := 3, cells := 10, slots := 224, locals := 50 } : Room) s m #[(.ref a1), (.double d1), (.double d2), (.double d3)] below meth c s₁ [] 0 0 := Stand.of_body Bd
  have e0 : s₁.heap = h0 := by rw [← hh, Bd.state]; rfl
  have N0 := Fr.nil n0
  have hS0 : Sn s s s.heap.size := Sn.start s _
  have HK0 : s.heap.size ≤ h0.size := by rw [hh]; exact Nat.le_refl _
  show DoneR PT p e s below 10 224 (Q4 Z a1 d1 d2 d3 h0 n0) s₁ (entryFrame m #[(.ref a1), (.double d1), (.double d2), (.double d3)] 7)
  rw [ef_rm4]
  show DoneR PT p e s below _ _ _ s₁ (mkF m 0 #[.val (.ref a1), .val (.double d1), .second, .val (.double d2), .second, .val (.double d3), .second] [])
  refine DoneR.go (fun _ kt_ => XS.aloadN X0.here hx rfl (hb hby d4_0) rfl rfl kt_) ?_
  show DoneR PT p e s below _ _ _ s₁ (mkF m 1 #[.val (.ref a1), .val (.double d1), .second, .val (.double d2), .second, .val (.double d3), .second] [(.ref a1)])
  obtain ⟨T11, X11, e11, st11⟩ := initO X0 hx hZ hown (hw _ (List.mem_of_getElem? (i := 16) rfl)) (hw _ (List.mem_of_getElem? (i := 17) rfl)) (hw _ (List.mem_of_getElem? (i := 18) rfl)) e0 (g := (mkF m 1 #[.val (.ref a1), .val (.double d1), .second, .val (.double d2), .second, .val (.double d3), .second] [(.ref a1)])) rfl (by rw [hml]; rfl) rfl (hb hby d4_1) (by decide) (W := 0) (by show 2 * 0 + _ ≤ _; exact Nat.le_of_eq rfl) (by decide)
  refine DoneR.go st11 ?_
  clear st11
  show DoneR PT p e s below _ _ _ T11 (mkF m 4 #[.val (.ref a1), .val (.double d1), .second, .val (.double d2), .second, .val (.double d3), .second] [])
  obtain ⟨sa12, T12, h12, bs12, kk12, X12, e12, E12, hS12, HK12, hZ, hown, U12, R12, st12⟩ := own_ldcR X11 hx hZ hown (hw _ (List.mem_of_getElem? (i := 19) rfl)) (own_wS hw) e11 hS0 HK0 (g := (mkF m 4 #[.val (.ref a1), .val (.double d1), .second, .val (.double d2), .second, .val (.double d3), .second] [])) rfl (hb hby d4_4) (n := 20) (by decide) (by decide) (by decide) (by decide)
  have Z12 : n0 ≤ h12.size := Nat.le_trans Z0 E12.1
  have K12 : Keep h0 h12 [a1] := (Keep.refl h0 [a1]).ext E12
  obtain ⟨Lh12, X12h, N12h⟩ : ∃ L, Stand p l e ({ frames := 3, cells := 10, slots := 224, locals := 50 } : Room) bs12 m #[(.ref a1), (.double d1), (.double d2), (.double d3)] below meth c T12 L 2 24 ∧ Fr n0 L := ⟨_, X12, N0⟩
  clear X12 X11 e11
  refine DoneR.go st12 ?_
  clear st12
  show DoneR PT p e s below _ _ _ T12 (mkF m 6 #[.val (.ref a1), .val (.double d1), .second, .val (.double d2), .second, .val (.double d3), .second] [(.ref sa12)])
  refine DoneR.go (fun _ kt_ => XS.dloadN X12h.here hx rfl (hb hby d4_6) rfl kt_) ?_
  show DoneR PT p e s below _ _ _ T12 (mkF m 7 #[.val (.ref a1), .val (.double d1), .second, .val (.double d2), .second, .val (.double d3), .second] [(.double d1), (.ref sa12)])
  obtain ⟨v13, T13, Lc13, bs13, X13, hQ13, hS13, hZ, hown, U13, R13, st13⟩ := own_backWR hZ hown hS12 (by rw [e12]; exact HK12) (callSS X12h hx (y := (⟨"com/example/citadel_hill/citadelhill/channel/ParameterChecks", "requireFinite", "(Ljava/lang/String;D)D"⟩ : MethodName)) hown (mvT hZ (hw _ (List.mem_of_getElem? (i := 27) rfl))) (mvT hZ (hw _ (List.mem_of_getElem? (i := 28) rfl))) (mvT hZ (hw _ (List.mem_of_getElem? (i := 29) rfl))) (mvT hZ (hw _ (List.mem_of_getElem? (i := 30) rfl))) (by decide) (own_backOfSR (W := 0) (rm6c l Z a0 hw [] sa12 d1 h12 n0 Z12 hn1 hf1) hZ (hw _ (List.mem_of_getElem? (i := 30) rfl)) (hw _ (List.mem_of_getElem? (i := 29) rfl)) (by decide) (by decide) (fun _ _ => trivial)) (g := (mkF m 7 #[.val (.ref a1), .val (.double d1), .second, .val (.double d2), .second, .val (.double d3), .second] [(.double d1), (.ref sa12)])) rfl (by rw [hml]; rfl) (argsL := [(.ref sa12), (.double d1)]) (rest := []) (lenOf own_pd3 rfl) rfl (by show 2 * 0 + _ ≤ _; exact Nat.le_of_eq rfl) (hb hby d4_7) (fun _ _ => ⟨rfl, e12, (by first | decide | omega : 2 + 2 ≤ _), (by first | decide | omega : 24 + 28 ≤ _)⟩))
  obtain ⟨rfl, N13q, K13k⟩ := hQ13
  refine DoneR.go st13 ?_
  clear st13
  have N13 := Fr.app N12h N13q
  clear N13q
  have HK13 := Nat.le_refl T13.heap.size
  have Z13 : n0 ≤ T13.heap.size := Nat.le_trans Z12 K13k.1
  have KK13 : Keep h0 T13.heap [a1] := K12.trans K13k all0
  obtain ⟨Lh13, X13h, N13h⟩ : ∃ L, Stand p l e ({ frames := 3, cells := 10, slots := 224, locals := 50 } : Room) bs13 m #[(.ref a1), (.double d1), (.double d2), (.double d3)] below meth c T13 L 4 52 ∧ Fr n0 L := ⟨_, X13, N13⟩
  clear X13 N13 X12h e12 N12h Z12 K12
  show DoneR PT p e s below _ _ _ T13 (mkF m 10 #[.val (.ref a1), .val (.double d1), .second, .val (.double d2), .second, .val (.double d3), .second] [(.double d1)])
  refine DoneR.go (fun t_ kt_ => by jvm_step X13h.here [X13h.here.top, hx, (hb hby d4_10), Value.category]; exact kt_) ?_
  show DoneR PT p e s below _ _ _ T13 (mkF m 11 #[.val (.ref a1), .val (.double d1), .second, .val (.double d2), .second, .val (.double d3), .second] [])
  obtain ⟨sa14, T14, h14, bs14, kk14, X14, e14, E14, hS14, HK14, hZ, hown, U14, R14, st14⟩ := own_ldcR X13h hx hZ hown (hw _ (List.mem_of_getElem? (i := 44) rfl)) (own_wS hw) rfl hS13 HK13 (g := (mkF m 11 #[.val (.ref a1), .val (.double d1), .second, .val (.double d2), .second, .val (.double d3), .second] [])) rfl (hb hby d4_11) (n := 32) (by decide) (by decide) (by decide) (by decide)
  have hR14 := Rsd.up R13 U14
  have Z14 : n0 ≤ h14.size := Nat.le_trans Z13 E14.1
  have K14 : Keep h0 h14 [a1] := KK13.ext E14
  obtain ⟨Lh14, X14h, N14h⟩ : ∃ L, Stand p l e ({ frames := 3, cells := 10, slots := 224, locals := 50 } : Room) bs14 m #[(.ref a1), (.double d1), (.double d2), (.double d3)] below meth c T14 L 6 88 ∧ Fr n0 L := ⟨_, X14, N13h⟩
  clear X14 N13h X13h Z13 KK13
  refine DoneR.go st14 ?_
  clear st14
  show DoneR PT p e s below _ _ _ T14 (mkF m 13 #[.val (.ref a1), .val (.double d1), .second, .val (.double d2), .second, .val (.double d3), .second] [(.ref sa14)])
  refine DoneR.go (fun _ kt_ => XS.dloadN X14h.here hx rfl (hb hby d4_13) rfl kt_) ?_
  show DoneR PT p e s below _ _ _ T14 (mkF m 14 #[.val (.ref a1), .val (.double d1), .second, .val (.double d2), .second, .val (.double d3), .second] [(.double d2), (.ref sa14)])
  obtain ⟨v15, T15, Lc15, bs15, X15, hQ15, hS15, hZ, hown, U15, R15, st15⟩ := own_backWR hZ hown hS14 (by rw [e14]; exact HK14) (callSS X14h hx (y := (⟨"com/example/citadel_hill/citadelhill/channel/ParameterChecks", "requireNonNegative", "(Ljava/lang/String;D)D"⟩ : MethodName)) hown (mvT hZ (hw _ (List.mem_of_getElem? (i := 45) rfl))) (mvT hZ (hw _ (List.mem_of_getElem? (i := 46) rfl))) (mvT hZ (hw _ (List.mem_of_getElem? (i := 29) rfl))) (mvT hZ (hw _ (List.mem_of_getElem? (i := 47) rfl))) (by decide) (own_backOfSR (W := 0) (rm10 l Z a0 hw [] sa14 d2 h14 n0 Z14 hn2 hf2 hg2) hZ (hw _ (List.mem_of_getElem? (i := 47) rfl)) (hw _ (List.mem_of_getElem? (i := 29) rfl)) (by decide) (by decide) (fun _ _ => trivial)) (g := (mkF m 14 #[.val (.ref a1), .val (.double d1), .second, .val (.double d2), .second, .val (.double d3), .second] [(.double d2), (.ref sa14)])) rfl (by rw [hml]; rfl) (argsL := [(.ref sa14), (.double d2)]) (rest := []) (lenOf own_pd3 rfl) rfl (by show 2 * 0 + _ ≤ _; exact Nat.le_of_eq rfl) (hb hby d4_14) (fun _ _ => ⟨rfl, e14, (by first | decide | omega : 6 + 2 ≤ _), (by first | decide | omega : 88 + 96 ≤ _)⟩))
  obtain ⟨rfl, N15q, K15k⟩ := hQ15
  refine DoneR.go st15 ?_
  clear st15
  have N15 := Fr.app N14h N15q
  clear N15q
  have hR15 := Rsd.up hR14 U15
  have HK15 := Nat.le_refl T15.heap.size
  have Z15 : n0 ≤ T15.heap.size := Nat.le_trans Z14 K15k.1
  have KK15 : Keep h0 T15.heap [a1] := K14.trans K15k all0
  obtain ⟨Lh15, X15h, N15h⟩ : ∃ L, Stand p l e ({ frames := 3, cells := 10, slots := 224, locals := 50 } : Room) bs15 m #[(.ref a1), (.double d1), (.double d2), (.double d3)] below meth c T15 L 8 184 ∧ Fr n0 L := ⟨_, X15, N15⟩
  clear X15 N15 X14h e14 N14h Z14 K14
  show DoneR PT p e s below _ _ _ T15 (mkF m 17 #[.val (.ref a1), .val (.double d1), .second, .val (.double d2), .second, .val (.double d3), .second] [(.double d2)])
  refine DoneR.go (fun t_ kt_ => by jvm_step X15h.here [X15h.here.top, hx, (hb hby d4_17), Value.category]; exact kt_) ?_
  show DoneR PT p e s below _ _ _ T15 (mkF m 18 #[.val (.ref a1), .val (.double d1), .second, .val (.double d2), .second, .val (.double d3), .second] [])
  obtain ⟨sa16, T16, h16, bs16, kk16, X16, e16, E16, hS16, HK16, hZ, hown, U16, R16, st16⟩ := own_ldcR X15h hx hZ hown (hw _ (List.mem_of_getElem? (i := 49) rfl)) (own_wS hw) rfl hS15 HK15 (g := (mkF m 18 #[.val (.ref a1), .val (.double d1), .second, .val (.double d2), .second, .val (.double d3), .second] [])) rfl (hb hby d4_18) (n := 36) (by decide) (by decide) (by decide) (by decide)
  have hR16 := Rsd.up hR15 U16
  have Z16 : n0 ≤ h16.size := Nat.le_trans Z15 E16.1
  have K16 : Keep h0 h16 [a1] := KK15.ext E16
  obtain ⟨Lh16, X16h, N16h⟩ : ∃ L, Stand p l e ({ frames := 3, cells := 10, slots := 224, locals := 50 } : Room) bs16 m #[(.ref a1), (.double d1), (.double d2), (.double d3)] below meth c T16 L 10 224 ∧ Fr n0 L := ⟨_, X16, N15h⟩
  clear X16 N15h X15h Z15 KK15
  refine DoneR.go st16 ?_
  clear st16
  show DoneR PT p e s below _ _ _ T16 (mkF m 20 #[.val (.ref a1), .val (.double d1), .second, .val (.double d2), .second, .val (.double d3), .second] [(.ref sa16)])
  refine DoneR.go (fun _ kt_ => XS.dload X16h.here hx rfl (hb hby d4_20) rfl kt_) ?_
  show DoneR PT p e s below _ _ _ T16 (mkF m 22 #[.val (.ref a1), .val (.double d1), .second, .val (.double d2), .second, .val (.double d3), .second] [(.double d3), (.ref sa16)])
  obtain ⟨v17, T17, Lc17, bs17, X17, hQ17, hS17, hZ, hown, U17, R17, st17⟩ := own_backWR hZ hown hS16 (by rw [e16]; exact HK16) (callSS X16h hx (y := (⟨"com/example/citadel_hill/citadelhill/channel/ParameterChecks", "requireFinite", "(Ljava/lang/String;D)D"⟩ : MethodName)) hown (mvT hZ (hw _ (List.mem_of_getElem? (i := 27) rfl))) (mvT hZ (hw _ (List.mem_of_getElem? (i := 28) rfl))) (mvT hZ (hw _ (List.mem_of_getElem? (i := 29) rfl))) (mvT hZ (hw _ (List.mem_of_getElem? (i := 30) rfl))) (by decide) (own_backOfSR (W := 0) (rm6h l Z a0 hw [] sa16 d3 h16 n0 Z16 hn3 hf3) hZ (hw _ (List.mem_of_getElem? (i := 30) rfl)) (hw _ (List.mem_of_getElem? (i := 29) rfl)) (by decide) (by decide) (fun _ q_ => Rsd.up hR16 q_)) (g := (mkF m 22 #[.val (.ref a1), .val (.double d1), .second, .val (.double d2), .second, .val (.double d3), .second] [(.double d3), (.ref sa16)])) rfl (by rw [hml]; rfl) (argsL := [(.ref sa16), (.double d3)]) (rest := []) (lenOf own_pd3 rfl) rfl (by show 2 * 0 + _ ≤ _; exact Nat.le_of_eq rfl) (hb hby d4_22) (fun _ _ => ⟨rfl, e16, (by first | decide | omega : 10 + 0 ≤ _), (by first | decide | omega : 224 + 0 ≤ _)⟩))
  obtain ⟨rfl, N17q, K17k⟩ := hQ17
  refine DoneR.go st17 ?_
  clear st17
  have N17 := Fr.app N16h N17q
  clear N17q
  have HK17 := Nat.le_refl T17.heap.size
  have Z17 : n0 ≤ T17.heap.size := Nat.le_trans Z16 K17k.1
  have KK17 : Keep h0 T17.heap [a1] := K16.trans K17k all0
  obtain ⟨Lh17, X17h, N17h⟩ : ∃ L, Stand p l e ({ frames := 3, cells := 10, slots := 224, locals := 50 } : Room) bs17 m #[(.ref a1), (.double d1), (.double d2), (.double d3)] below meth c T17 L 10 224 ∧ Fr n0 L := ⟨_, X17, N17⟩
  clear X17 N17 X16h e16 N16h Z16 K16
  show DoneR PT p e s below _ _ _ T17 (mkF m 25 #[.val (.ref a1), .val (.double d1), .second, .val (.double d2), .second, .val (.double d3), .second] [(.double d3)])
  refine DoneR.go (fun t_ kt_ => by jvm_step X17h.here [X17h.here.top, hx, (hb hby d4_25), Value.category]; exact kt_) ?_
  show DoneR PT p e s below _ _ _ T17 (mkF m 26 #[.val (.ref a1), .val (.double d1), .second, .val (.double d2), .second, .val (.double d3), .second] [])
  refine DoneR.go (fun _ kt_ => XS.aloadN X17h.here hx rfl (hb hby d4_26) rfl rfl kt_) ?_
  show DoneR PT p e s below _ _ _ T17 (mkF m 27 #[.val (.ref a1), .val (.double d1), .second, .val (.double d2), .second, .val (.double d3), .second] [(.ref a1)])
  refine DoneR.go (fun _ kt_ => XS.dloadN X17h.here hx rfl (hb hby d4_27) rfl kt_) ?_
  show DoneR PT p e s below _ _ _ T17 (mkF m 28 #[.val (.ref a1), .val (.double d1), .second, .val (.double d2), .second, .val (.double d3), .second] [(.double d1), (.ref a1)])
  have f18 := ((((((E1.ext E12).keep K13k).ext E14).keep K15k).ext E16).keep K17k)
  have f19 := ((((((F_delay.ext E12).keep K13k nin0).ext E14).keep K15k nin0).ext E16).keep K17k nin0)
  obtain ⟨T20, h20, X20, e20, W20, st20⟩ := putF X17h hx hZ hown (host := "") (Or.inl (hw _ (List.mem_of_getElem? (i := 50) rfl))) Via.refl rfl f19 f18 (Or.inr ⟨(hw _ (List.mem_of_getElem? (i := 51) rfl)), rfl, hnm⟩) (hw _ (List.mem_of_getElem? (i := 8) rfl)) (ty := .double) (by decide) rfl rfl (g := (mkF m 28 #[.val (.ref a1), .val (.double d1), .second, .val (.double d2), .second, .val (.double d3), .second] [(.double d1), (.ref a1)])) rfl rfl (hb hby d4_28)
  have Fw20 : Fld Z h20 a1 "com/example/citadel_hill/citadelhill/cell/CurrentPulse" "delay" "D" (.double d1) := f19.same W20
  have N20 := Fr.snoc X20 N17h g1
  have Z20 : n0 ≤ h20.size := by rw [W20.size]; exact Z17
  have HK20 := Nat.le_trans HK17 (Nat.le_of_eq W20.size.symm)
  have K20 : Keep h0 h20 [a1] := KK17.wr W20 (Or.inl (List.mem_of_getElem? (i := 0) rfl))
  obtain ⟨Lh20, X20h, N20h⟩ : ∃ L, Stand p l e ({ frames := 3, cells := 10, slots := 224, locals := 50 } : Room) bs17 m #[(.ref a1), (.double d1), (.double d2), (.double d3)] below meth c T20 L 10 224 ∧ Fr n0 L := ⟨_, X20, N20⟩
  clear X20 N20 X17h N17h Z17 KK17
  refine DoneR.go st20 ?_
  clear st20
  show DoneR PT p e s below _ _ _ T20 (mkF m 31 #[.val (.ref a1), .val (.double d1), .second, .val (.double d2), .second, .val (.double d3), .second] [])
  refine DoneR.go (fun _ kt_ => XS.aloadN X20h.here hx rfl (hb hby d4_31) rfl rfl kt_) ?_
  show DoneR PT p e s below _ _ _ T20 (mkF m 32 #[.val (.ref a1), .val (.double d1), .second, .val (.double d2), .second, .val (.double d3), .second] [(.ref a1)])
  refine DoneR.go (fun _ kt_ => XS.dloadN X20h.here hx rfl (hb hby d4_32) rfl kt_) ?_
  show DoneR PT p e s below _ _ _ T20 (mkF m 33 #[.val (.ref a1), .val (.double d1), .second, .val (.double d2), .second, .val (.double d3), .second] [(.double d2), (.ref a1)])
  have f21 := (f18.wr W20)
  have f22 := (((((((F_duration.ext E12).keep K13k nin0).ext E14).keep K15k nin0).ext E16).keep K17k nin0).other W20 (Or.inr (slot_ne (Or.inr (hw _ (List.mem_of_getElem? (i := 53) rfl))) (Or.inr (hw _ (List.mem_of_getElem? (i := 51) rfl))) (by decide) (t := .double) (t' := .double) (by decide) (by decide))))
  obtain ⟨T23, h23, X23, e23, W23, st23⟩ := putF X20h hx hZ hown (host := "") (Or.inl (hw _ (List.mem_of_getElem? (i := 52) rfl))) Via.refl e20 f22 f21 (Or.inr ⟨(hw _ (List.mem_of_getElem? (i := 53) rfl)), rfl, hnm⟩) (hw _ (List.mem_of_getElem? (i := 8) rfl)) (ty := .double) (by decide) rfl rfl (g := (mkF m 33 #[.val (.ref a1), .val (.double d1), .second, .val (.double d2), .second, .val (.double d3), .second] [(.double d2), (.ref a1)])) rfl rfl (hb hby d4_33)
  have Fw23 : Fld Z h23 a1 "com/example/citadel_hill/citadelhill/cell/CurrentPulse" "duration" "D" (.double d2) := f22.same W23
  have N23 := Fr.snoc X23 N20h g1
  have Z23 : n0 ≤ h23.size := by rw [W23.size]; exact Z20
  have HK23 := Nat.le_trans HK20 (Nat.le_of_eq W23.size.symm)
  have K23 : Keep h0 h23 [a1] := K20.wr W23 (Or.inl (List.mem_of_getElem? (i := 0) rfl))
  obtain ⟨Lh23, X23h, N23h⟩ : ∃ L, Stand p l e ({ frames := 3, cells := 10, slots := 224, locals := 50 } : Room) bs17 m #[(.ref a1), (.double d1), (.double d2), (.double d3)] below meth c T23 L 10 224 ∧ Fr n0 L := ⟨_, X23, N23⟩
  clear X23 N23 X20h e20 N20h Z20 K20
  refine DoneR.go st23 ?_
  clear st23
  show DoneR PT p e s below _ _ _ T23 (mkF m 36 #[.val (.ref a1), .val (.double d1), .second, .val (.double d2), .second, .val (.double d3), .second] [])
  refine DoneR.go (fun _ kt_ => XS.aloadN X23h.here hx rfl (hb hby d4_36) rfl rfl kt_) ?_
  show DoneR PT p e s below _ _ _ T23 (mkF m 37 #[.val (.ref a1), .val (.double d1), .second, .val (.double d2), .second, .val (.double d3), .second] [(.ref a1)])
  refine DoneR.go (fun _ kt_ => XS.dload X23h.here hx rfl (hb hby d4_37) rfl kt_) ?_
  show DoneR PT p e s below _ _ _ T23 (mkF m 39 #[.val (.ref a1), .val (.double d1), .second, .val (.double d2), .second, .val (.double d3), .second] [(.double d3), (.ref a1)])
  have f24 := (f21.wr W23)
  have f25 := ((((((((F_amplitude.ext E12).keep K13k nin0).ext E14).keep K15k nin0).ext E16).keep K17k nin0).other W20 (Or.inr (slot_ne (Or.inr (hw _ (List.mem_of_getElem? (i := 55) rfl))) (Or.inr (hw _ (List.mem_of_getElem? (i := 51) rfl))) (by decide) (t := .double) (t' := .double) (by decide) (by decide)))).other W23 (Or.inr (slot_ne (Or.inr (hw _ (List.mem_of_getElem? (i := 55) rfl))) (Or.inr (hw _ (List.mem_of_getElem? (i := 53) rfl))) (by decide) (t := .double) (t' := .double) (by decide) (by decide))))
  obtain ⟨T26, h26, X26, e26, W26, st26⟩ := putF X23h hx hZ hown (host := "") (Or.inl (hw _ (List.mem_of_getElem? (i := 54) rfl))) Via.refl e23 f25 f24 (Or.inr ⟨(hw _ (List.mem_of_getElem? (i := 55) rfl)), rfl, hnm⟩) (hw _ (List.mem_of_getElem? (i := 8) rfl)) (ty := .double) (by decide) rfl rfl (g := (mkF m 39 #[.val (.ref a1), .val (.double d1), .second, .val (.double d2), .second, .val (.double d3), .second] [(.double d3), (.ref a1)])) rfl rfl (hb hby d4_39)
  have Fw26 : Fld Z h26 a1 "com/example/citadel_hill/citadelhill/cell/CurrentPulse" "amplitude" "D" (.double d3) := f25.same W26
  have N26 := Fr.snoc X26 N23h g1
  have Z26 : n0 ≤ h26.size := by rw [W26.size]; exact Z23
  have HK26 := Nat.le_trans HK23 (Nat.le_of_eq W26.size.symm)
  have K26 : Keep h0 h26 [a1] := K23.wr W26 (Or.inl (List.mem_of_getElem? (i := 0) rfl))
  obtain ⟨Lh26, X26h, N26h⟩ : ∃ L, Stand p l e ({ frames := 3, cells := 10, slots := 224, locals := 50 } : Room) bs17 m #[(.ref a1), (.double d1), (.double d2), (.double d3)] below meth c T26 L 10 224 ∧ Fr n0 L := ⟨_, X26, N26⟩
  clear X26 N26 X23h e23 N23h Z23 K23
  refine DoneR.go st26 ?_
  clear st26
  show DoneR PT p e s below _ _ _ T26 (mkF m 42 #[.val (.ref a1), .val (.double d1), .second, .val (.double d2), .second, .val (.double d3), .second] [])
  refine DoneR.retV X26h hx ⟨⟨hlk, _, hS17, (by rw [e26]; exact HK26)⟩, trivial⟩ hrt (hb hby d4_42) ?_ (by first | decide | omega) (by first | decide | omega)
  rw [e26]
  have f27 := (f24.wr W26)
  have f28 := ((Fw20.other W23 (Or.inr (slot_ne (Or.inr (hw _ (List.mem_of_getElem? (i := 51) rfl))) (Or.inr (hw _ (List.mem_of_getElem? (i := 53) rfl))) (by decide) (t := .double) (t' := .double) (by decide) (by decide)))).other W26 (Or.inr (slot_ne (Or.inr (hw _ (List.mem_of_getElem? (i := 51) rfl))) (Or.inr (hw _ (List.mem_of_getElem? (i := 55) rfl))) (by decide) (t := .double) (t' := .double) (by decide) (by decide))))
  have f29 := (Fw23.other W26 (Or.inr (slot_ne (Or.inr (hw _ (List.mem_of_getElem? (i := 53) rfl))) (Or.inr (hw _ (List.mem_of_getElem? (i := 55) rfl))) (by decide) (t := .double) (t' := .double) (by decide) (by decide))))
  exact ⟨rfl, N26h, K26, f27, f28, f29, Fw26⟩
theorem d14_0 : decode jdk_117_method_6_code 0 = .ok (.dload_n 0, 1) := by decide +kernel
theorem d14_1 : decode jdk_117_method_6_code 1 = .ok (.dload_n 0, 1) := by decide +kernel
theorem d14_2 : decode jdk_117_method_6_code 2 = .ok (.dcmp .l, 1) := by decide +kernel
theorem d14_3 : decode jdk_117_method_6_code 3 = .ok (.ifCond .eq 7, 3) := by decide +kernel
theorem d14_6 : decode jdk_117_method_6_code 6 = .ok (.iconst 1, 1) := by decide +kernel
theorem d14_7 : decode jdk_117_method_6_code 7 = .ok (.goto 4, 3) := by decide +kernel
theorem d14_10 : decode jdk_117_method_6_code 10 = .ok (.iconst 0, 1) := by decide +kernel
theorem d14_11 : decode jdk_117_method_6_code 11 = .ok (.ireturn, 1) := by decide +kernel
theorem ef_rm14 (m : MethodId) (d1 : UInt64) : entryFrame m #[(.double d1)] 2 = mkF m 0 #[.val (.double d1), .second] [] := by first | (simp [entryFrame, mkF, argsToLocals, Value.category]; done) | rfl
set_option maxRecDepth 65536 in
set_option maxHeartbeats 40000000 in
theorem rm14 (l : Launch) (Z : State) (a0 : Array Value) (hw : ∀ d ∈ tables_1, d.before a0 Z = true) (ws : List Jvm.Cond) (d1 : UInt64) (h0 : Heap) (n0 : Nat) (Z0 : n0 ≤ h0.size) (hn : Jvm.Free.Fl.NoNaN64 d1) :
    MetFree l (⟨"java/lang/Double", "isNaN", "(D)Z"⟩ : MethodName) (head1 (Jvm.Cond.code (⟨"java/lang/Double", "isNaN", "(D)Z"⟩ : MethodName) jdk_117_method_6_code 2 (some .boolean) :: ws) ({ frames := 0, cells := 0, slots := 0, locals := 0 } : Room)) (fun a U => a = #[(.double d1)] ∧ Z.Warmed39 U.vm ∧ U.heap = h0) (fun _ _ _ _ _ => True) (fun _ U o U' => ∃ vr Lr, o = .returned vr ∧ QI 0 h0 n0 vr U'.heap Lr ∧ FrameEnd U o U' Lr 0 0) := by
  refine MetFree.of_bodySF (plainFor_of_name own_pn1) hisR ?_
  intro p e s m args below meth c s₁ Bd hml0 hP hK
  obtain ⟨rfl, hZ, hh⟩ := hP
  have hx := Bd.exec
  have hby := Bd.bytes
  have hml : c.maxLocals = 2 := hml0
  have hown : s.vm.findClass "java/lang/Double" = some m.cls := findClass_of_methodNamed Bd.named
  have hnm := (name_of_methodNamed Bd.named Bd.method).1
  have hlk : meth.locks = false := Bd.notSynchronized
  have hrt := Bd.returns
  have X0 : Stand p l e ({ frames := 0, cells := 0, slots := 0, locals := 0 } : Room) s m #[(.double d1)] below meth c s₁ [] 0 0 := Stand.of_body Bd
  have e0 : s₁.heap = h0 := by rw [← hh, Bd.state]; rfl
  have N0 := Fr.nil n0
  show Done p e s below 0 0 (QI 0 h0 n0) s₁ (entryFrame m #[(.double d1)] 2)
  rw [ef_rm14]
  show Done p e s below _ _ _ s₁ (mkF m 0 #[.val (.double d1), .second] [])
  refine Done.go (fun _ kt_ => XS.dloadN X0.here hx rfl (hb hby d14_0) rfl kt_) ?_
  show Done p e s below _ _ _ s₁ (mkF m 1 #[.val (.double d1), .second] [(.double d1)])
  refine Done.go (fun _ kt_ => XS.dloadN X0.here hx rfl (hb hby d14_1) rfl kt_) ?_
  show Done p e s below _ _ _ s₁ (mkF m 2 #[.val (.double d1), .second] [(.double d1), (.double d1)])
  refine Done.go (fun _ kt_ => XS.dcmpS X0.here hx rfl (hb hby d14_2) rfl rfl kt_) ?_
  show Done p e s below _ _ _ s₁ (mkF m 3 #[.val (.double d1), .second] [(.int (cmpValue (FP.dcmp d1 d1) .l))])
  refine Done.go (fun _ kt_ => XS.ifYes X0.here hx rfl (pc0 := 3) (pc' := 10) rfl (hb hby d14_3) rfl ((if0 _ _).trans (teq (dcmpV_self hn _)).1) (by decide) (by decide) kt_) ?_
  show Done p e s below _ _ _ s₁ (mkF m 10 #[.val (.double d1), .second] [])
  refine Done.go (fun _ kt_ => XS.iconst X0.here hx rfl (hb hby d14_10) kt_) ?_
  show Done p e s below _ _ _ s₁ (mkF m 11 #[.val (.double d1), .second] [(.int (0 : Int32))])
  refine Done.retN X0 hx hlk (t := .boolean) hrt (by simp) (z' := (0 : Int32)) rfl (hb hby d14_11) ?_ (by first | decide | omega) (by first | decide | omega)
  rw [e0]
  exact ⟨rfl, N0, rfl⟩
def QJ (r : Int64) (h0 : Heap) (n0 : Nat) (v : Option Value) (h : Heap) (L : List Loc) : Prop := v = some (.long r) ∧ Fr n0 L ∧ h = h0
theorem d13_0 : decode jdk_117_method_23_code 0 = .ok (.dload_n 0, 1) := by decide +kernel
theorem d13_1 : decode jdk_117_method_23_code 1 = .ok (.invokestatic 122, 3) := by decide +kernel
theorem d13_4 : decode jdk_117_method_23_code 4 = .ok (.ifCond .ne 8, 3) := by decide +kernel
theorem d13_7 : decode jdk_117_method_23_code 7 = .ok (.dload_n 0, 1) := by decide +kernel
theorem d13_8 : decode jdk_117_method_23_code 8 = .ok (.invokestatic 134, 3) := by decide +kernel
theorem d13_11 : decode jdk_117_method_23_code 11 = .ok (.lreturn, 1) := by decide +kernel
theorem d13_12 : decode jdk_117_method_23_code 12 = .ok (.ldc2_w 137, 3) := by decide +kernel
theorem d13_15 : decode jdk_117_method_23_code 15 = .ok (.lreturn, 1) := by decide +kernel
theorem ef_rm13 (m : MethodId) (d1 : UInt64) : entryFrame m #[(.double d1)] 2 = mkF m 0 #[.val (.double d1), .second] [] := by first | (simp [entryFrame, mkF, argsToLocals, Value.category]; done) | rfl
set_option maxRecDepth 65536 in
set_option maxHeartbeats 40000000 in
theorem rm13 (l : Launch) (Z : State) (a0 : Array Value) (hw : ∀ d ∈ tables_1, d.before a0 Z = true) (ws : List Jvm.Cond) (d1 : UInt64) (h0 : Heap) (n0 : Nat) (Z0 : n0 ≤ h0.size) (hn : Jvm.Free.Fl.NoNaN64 d1) :
    MetFree l (⟨"java/lang/Double", "doubleToLongBits", "(D)J"⟩ : MethodName) (head1 (Jvm.Cond.code (⟨"java/lang/Double", "doubleToLongBits", "(D)J"⟩ : MethodName) jdk_117_method_23_code 2 (some .long) :: ws) ({ frames := 1, cells := 0, slots := 0, locals := 20 } : Room)) (fun a U => a = #[(.double d1)] ∧ Z.Warmed39 U.vm ∧ U.heap = h0) (fun _ _ _ _ _ => True) (fun _ U o U' => ∃ vr Lr, o = .returned vr ∧ QJ d1.toInt64 h0 n0 vr U'.heap Lr ∧ FrameEnd U o U' Lr 0 0) := by
  refine MetFree.of_bodySF (plainFor_of_name own_pn1) hisR ?_
  intro p e s m args below meth c s₁ Bd hml0 hP hK
  obtain ⟨rfl, hZ, hh⟩ := hP
  have hx := Bd.exec
  have hby := Bd.bytes
  have hml : c.maxLocals = 2 := hml0
  have hown : s.vm.findClass "java/lang/Double" = some m.cls := findClass_of_methodNamed Bd.named
  have hnm := (name_of_methodNamed Bd.named Bd.method).1
  have hlk : meth.locks = false := Bd.notSynchronized
  have hrt := Bd.returns
  have X0 : Stand p l e ({ frames := 1, cells := 0, slots := 0, locals := 20 } : Room) s m #[(.double d1)] below meth c s₁ [] 0 0 := Stand.of_body Bd
  have e0 : s₁.heap = h0 := by rw [← hh, Bd.state]; rfl
  have N0 := Fr.nil n0
  show Done p e s below 0 0 (QJ d1.toInt64 h0 n0) s₁ (entryFrame m #[(.double d1)] 2)
  rw [ef_rm13]
  show Done p e s below _ _ _ s₁ (mkF m 0 #[.val (.double d1), .second] [])
  refine Done.go (fun _ kt_ => XS.dloadN X0.here hx rfl (hb hby d13_0) rfl kt_) ?_
  show Done p e s below _ _ _ s₁ (mkF m 1 #[.val (.double d1), .second] [(.double d1)])
  obtain ⟨v30, T30, Lc30, X30, hQ30, st30⟩ := own_backG (Jvm.LawKit.callS X0 hx (y := (⟨"java/lang/Double", "isNaN", "(D)Z"⟩ : MethodName)) hown (mvT hZ (hw _ (List.mem_of_getElem? (i := 69) rfl))) (mvT hZ (hw _ (List.mem_of_getElem? (i := 70) rfl))) (mvT hZ (hw _ (List.mem_of_getElem? (i := 33) rfl))) (mvT hZ (hw _ (List.mem_of_getElem? (i := 71) rfl))) (by decide) (backOf (W := 0)  (rm14 l Z a0 hw [] d1 h0 n0 Z0 hn) hZ (hw _ (List.mem_of_getElem? (i := 71) rfl)) (hw _ (List.mem_of_getElem? (i := 33) rfl)) (by decide) (by decide)) (g := (mkF m 1 #[.val (.double d1), .second] [(.double d1)])) rfl (by rw [hml]; rfl) (argsL := [(.double d1)]) (rest := []) (lenOf own_pd1 rfl) rfl (by show 2 * 0 + _ ≤ _; exact Nat.le_of_eq rfl) (hb hby d13_1) (fun _ _ => ⟨rfl, e0, (by first | decide | omega : 0 + 0 ≤ _), (by first | decide | omega : 0 + 0 ≤ _)⟩))
  obtain ⟨rfl, N30q, e30⟩ := hQ30
  refine Done.go st30 ?_
  clear st30
  have N30 := Fr.app N0 N30q
  clear N30q
  obtain ⟨Lh30, X30h, N30h⟩ : ∃ L, Stand p l e ({ frames := 1, cells := 0, slots := 0, locals := 20 } : Room) s m #[(.double d1)] below meth c T30 L 0 0 ∧ Fr n0 L := ⟨_, X30, N30⟩
  clear X30 N30
  show Done p e s below _ _ _ T30 (mkF m 4 #[.val (.double d1), .second] [(.int (0 : Int32))])
  refine Done.go (fun _ kt_ => XS.ifNo X30h.here hx rfl (hb hby d13_4) rfl ((if0 _ _).trans (teq rfl).2) kt_) ?_
  show Done p e s below _ _ _ T30 (mkF m 7 #[.val (.double d1), .second] [])
  refine Done.go (fun _ kt_ => XS.dloadN X30h.here hx rfl (hb hby d13_7) rfl kt_) ?_
  show Done p e s below _ _ _ T30 (mkF m 8 #[.val (.double d1), .second] [(.double d1)])
  obtain ⟨vm31, X31, st31⟩ := X30h.doubleToRawLongBits hx hown (mvT hZ (hw _ (List.mem_of_getElem? (i := 72) rfl))) (mvT hZ (hw _ (List.mem_of_getElem? (i := 74) rfl))) (mvT hZ (hw _ (List.mem_of_getElem? (i := 73) rfl))) (mvT hZ (hw _ (List.mem_of_getElem? (i := 33) rfl))) (g := (mkF m 8 #[.val (.double d1), .second] [(.double d1)])) rfl (by rw [hml]; rfl) (rest := []) (b := d1) rfl (hb hby d13_8) (by decide) (by show 2 * 0 + 0 + (nativeFrameWords "java/lang/Double" "doubleToRawLongBits" 2 + 11) ≤ 20; decide +kernel)
  have e31 : (T30.setVm vm31).heap = h0 := e30
  refine Done.go st31 ?_
  clear st31
  show Done p e s below _ _ _ (T30.setVm vm31) (mkF m 11 #[.val (.double d1), .second] [(.long (d1.toInt64))])
  refine Done.retJ X31 hx hlk hrt (hb hby d13_11) ?_ (by first | decide | omega) (by first | decide | omega)
  rw [e31]
  exact ⟨rfl, N30h, rfl⟩
def Q12 (x y : UInt64) (h0 : Heap) (n0 : Nat) (v : Option Value) (h : Heap) (L : List Loc) : Prop := ∃ r : Int32, v = some (.int r) ∧ Fr n0 L ∧ h = h0 ∧ (r = 0 ↔ x = y)
theorem d12_0 : decode jdk_117_method_27_code 0 = .ok (.dload_n 0, 1) := by decide +kernel
theorem d12_1 : decode jdk_117_method_27_code 1 = .ok (.dload_n 2, 1) := by decide +kernel
theorem d12_2 : decode jdk_117_method_27_code 2 = .ok (.dcmp .g, 1) := by decide +kernel
theorem d12_3 : decode jdk_117_method_27_code 3 = .ok (.ifCond .ge 5, 3) := by decide +kernel
theorem d12_6 : decode jdk_117_method_27_code 6 = .ok (.iconst (-1), 1) := by decide +kernel
theorem d12_7 : decode jdk_117_method_27_code 7 = .ok (.ireturn, 1) := by decide +kernel
theorem d12_8 : decode jdk_117_method_27_code 8 = .ok (.dload_n 0, 1) := by decide +kernel
theorem d12_9 : decode jdk_117_method_27_code 9 = .ok (.dload_n 2, 1) := by decide +kernel
theorem d12_10 : decode jdk_117_method_27_code 10 = .ok (.dcmp .l, 1) := by decide +kernel
theorem d12_11 : decode jdk_117_method_27_code 11 = .ok (.ifCond .le 5, 3) := by decide +kernel
theorem d12_14 : decode jdk_117_method_27_code 14 = .ok (.iconst 1, 1) := by decide +kernel
theorem d12_15 : decode jdk_117_method_27_code 15 = .ok (.ireturn, 1) := by decide +kernel
theorem d12_16 : decode jdk_117_method_27_code 16 = .ok (.dload_n 0, 1) := by decide +kernel
theorem d12_17 : decode jdk_117_method_27_code 17 = .ok (.invokestatic 46, 3) := by decide +kernel
theorem d12_20 : decode jdk_117_method_27_code 20 = .ok (.lstore 4, 2) := by decide +kernel
theorem d12_22 : decode jdk_117_method_27_code 22 = .ok (.dload_n 2, 1) := by decide +kernel
theorem d12_23 : decode jdk_117_method_27_code 23 = .ok (.invokestatic 46, 3) := by decide +kernel
theorem d12_26 : decode jdk_117_method_27_code 26 = .ok (.lstore 6, 2) := by decide +kernel
theorem d12_28 : decode jdk_117_method_27_code 28 = .ok (.lload 4, 2) := by decide +kernel
theorem d12_30 : decode jdk_117_method_27_code 30 = .ok (.lload 6, 2) := by decide +kernel
theorem d12_32 : decode jdk_117_method_27_code 32 = .ok (.lcmp, 1) := by decide +kernel
theorem d12_33 : decode jdk_117_method_27_code 33 = .ok (.ifCond .ne 7, 3) := by decide +kernel
theorem d12_36 : decode jdk_117_method_27_code 36 = .ok (.iconst 0, 1) := by decide +kernel
theorem d12_37 : decode jdk_117_method_27_code 37 = .ok (.goto 16, 3) := by decide +kernel
theorem d12_40 : decode jdk_117_method_27_code 40 = .ok (.lload 4, 2) := by decide +kernel
theorem d12_42 : decode jdk_117_method_27_code 42 = .ok (.lload 6, 2) := by decide +kernel
theorem d12_44 : decode jdk_117_method_27_code 44 = .ok (.lcmp, 1) := by decide +kernel
theorem d12_45 : decode jdk_117_method_27_code 45 = .ok (.ifCond .ge 7, 3) := by decide +kernel
theorem d12_48 : decode jdk_117_method_27_code 48 = .ok (.iconst (-1), 1) := by decide +kernel
theorem d12_49 : decode jdk_117_method_27_code 49 = .ok (.goto 4, 3) := by decide +kernel
theorem d12_52 : decode jdk_117_method_27_code 52 = .ok (.iconst 1, 1) := by decide +kernel
theorem d12_53 : decode jdk_117_method_27_code 53 = .ok (.ireturn, 1) := by decide +kernel
theorem ef_rm12 (m : MethodId) (d1 : UInt64) (d2 : UInt64) : entryFrame m #[(.double d1), (.double d2)] 8 = mkF m 0 #[.val (.double d1), .second, .val (.double d2), .second, .unset, .unset, .unset, .unset] [] := by first | (simp [entryFrame, mkF, argsToLocals, Value.category]; done) | rfl
set_option maxRecDepth 65536 in
set_option maxHeartbeats 40000000 in
theorem rm12 (l : Launch) (Z : State) (a0 : Array Value) (hw : ∀ d ∈ tables_1, d.before a0 Z = true) (ws : List Jvm.Cond) (d1 : UInt64) (d2 : UInt64) (h0 : Heap) (n0 : Nat) (Z0 : n0 ≤ h0.size) (hn1 : Jvm.Free.Fl.NoNaN64 d1) (hn2 : Jvm.Free.Fl.NoNaN64 d2) :
    MetFree l (⟨"java/lang/Double", "compare", "(DD)I"⟩ : MethodName) (head1 (Jvm.Cond.code (⟨"java/lang/Double", "compare", "(DD)I"⟩ : MethodName) jdk_117_method_27_code 8 (some .int) :: ws) ({ frames := 2, cells := 0, slots := 0, locals := 36 } : Room)) (fun a U => a = #[(.double d1), (.double d2)] ∧ Z.Warmed39 U.vm ∧ U.heap = h0) (fun _ _ _ _ _ => True) (fun _ U o U' => ∃ vr Lr, o = .returned vr ∧ Q12 d1 d2 h0 n0 vr U'.heap Lr ∧ FrameEnd U o U' Lr 0 0) := by
  refine MetFree.of_bodySF (plainFor_of_name own_pn1) hisR ?_
  intro p e s m args below meth c s₁ Bd hml0 hP hK
  obtain ⟨rfl, hZ, hh⟩ := hP
  have hx := Bd.exec
  have hby := Bd.bytes
  have hml : c.maxLocals = 8 := hml0
  have hown : s.vm.findClass "java/lang/Double" = some m.cls := findClass_of_methodNamed Bd.named
  have hnm := (name_of_methodNamed Bd.named Bd.method).1
  have hlk : meth.locks = false := Bd.notSynchronized
  have hrt := Bd.returns
  have X0 : Stand p l e ({ frames := 2, cells := 0, slots := 0, locals := 36 } : Room) s m #[(.double d1), (.double d2)] below meth c s₁ [] 0 0 := Stand.of_body Bd
  have e0 : s₁.heap = h0 := by rw [← hh, Bd.state]; rfl
  have N0 := Fr.nil n0
  show Done p e s below 0 0 (Q12 d1 d2 h0 n0) s₁ (entryFrame m #[(.double d1), (.double d2)] 8)
  rw [ef_rm12]
  show Done p e s below _ _ _ s₁ (mkF m 0 #[.val (.double d1), .second, .val (.double d2), .second, .unset, .unset, .unset, .unset] [])
  refine Done.go (fun _ kt_ => XS.dloadN X0.here hx rfl (hb hby d12_0) rfl kt_) ?_
  show Done p e s below _ _ _ s₁ (mkF m 1 #[.val (.double d1), .second, .val (.double d2), .second, .unset, .unset, .unset, .unset] [(.double d1)])
  refine Done.go (fun _ kt_ => XS.dloadN X0.here hx rfl (hb hby d12_1) rfl kt_) ?_
  show Done p e s below _ _ _ s₁ (mkF m 2 #[.val (.double d1), .second, .val (.double d2), .second, .unset, .unset, .unset, .unset] [(.double d2), (.double d1)])
  refine Done.go (fun _ kt_ => XS.dcmpS X0.here hx rfl (hb hby d12_2) rfl rfl kt_) ?_
  show Done p e s below _ _ _ s₁ (mkF m 3 #[.val (.double d1), .second, .val (.double d2), .second, .unset, .unset, .unset, .unset] [(.int (cmpValue (FP.dcmp d1 d2) .g))])
  by_cases hc3 : (cmpValue (FP.dcmp d1 d2) .g) < (0 : Int32)
  · skip
    refine Done.go (fun _ kt_ => XS.ifNo X0.here hx rfl (hb hby d12_3) rfl ((if0 _ _).trans (tlt hc3).2.1) kt_) ?_
    show Done p e s below _ _ _ s₁ (mkF m 6 #[.val (.double d1), .second, .val (.double d2), .second, .unset, .unset, .unset, .unset] [])
    refine Done.go (fun _ kt_ => XS.iconst X0.here hx rfl (hb hby d12_6) kt_) ?_
    show Done p e s below _ _ _ s₁ (mkF m 7 #[.val (.double d1), .second, .val (.double d2), .second, .unset, .unset, .unset, .unset] [(.int (-1 : Int32))])
    refine Done.retI X0 hx hlk hrt (hb hby d12_7) ?_ (by first | decide | omega) (by first | decide | omega)
    rw [e0]
    exact ⟨_, rfl, N0, rfl, ⟨fun q => absurd q (by decide), fun q => absurd (by rw [dcmpV_eq q hn1] at hc3; exact hc3) (by decide)⟩⟩
  · skip
    refine Done.go (fun _ kt_ => XS.ifYes X0.here hx rfl (pc0 := 3) (pc' := 8) rfl (hb hby d12_3) rfl ((if0 _ _).trans (flt hc3).2.1) (by decide) (by decide) kt_) ?_
    show Done p e s below _ _ _ s₁ (mkF m 8 #[.val (.double d1), .second, .val (.double d2), .second, .unset, .unset, .unset, .unset] [])
    refine Done.go (fun _ kt_ => XS.dloadN X0.here hx rfl (hb hby d12_8) rfl kt_) ?_
    show Done p e s below _ _ _ s₁ (mkF m 9 #[.val (.double d1), .second, .val (.double d2), .second, .unset, .unset, .unset, .unset] [(.double d1)])
    refine Done.go (fun _ kt_ => XS.dloadN X0.here hx rfl (hb hby d12_9) rfl kt_) ?_
    show Done p e s below _ _ _ s₁ (mkF m 10 #[.val (.double d1), .second, .val (.double d2), .second, .unset, .unset, .unset, .unset] [(.double d2), (.double d1)])
    refine Done.go (fun _ kt_ => XS.dcmpS X0.here hx rfl (hb hby d12_10) rfl rfl kt_) ?_
    show Done p e s below _ _ _ s₁ (mkF m 11 #[.val (.double d1), .second, .val (.double d2), .second, .unset, .unset, .unset, .unset] [(.int (cmpValue (FP.dcmp d1 d2) .l))])
    by_cases hc11 : (0 : Int32) < (cmpValue (FP.dcmp d1 d2) .l)
    · skip
      refine Done.go (fun _ kt_ => XS.ifNo X0.here hx rfl (hb hby d12_11) rfl ((if0 _ _).trans (tlt hc11).2.2.2) kt_) ?_
      show Done p e s below _ _ _ s₁ (mkF m 14 #[.val (.double d1), .second, .val (.double d2), .second, .unset, .unset, .unset, .unset] [])
      refine Done.go (fun _ kt_ => XS.iconst X0.here hx rfl (hb hby d12_14) kt_) ?_
      show Done p e s below _ _ _ s₁ (mkF m 15 #[.val (.double d1), .second, .val (.double d2), .second, .unset, .unset, .unset, .unset] [(.int (1 : Int32))])
      refine Done.retI X0 hx hlk hrt (hb hby d12_15) ?_ (by first | decide | omega) (by first | decide | omega)
      rw [e0]
      exact ⟨_, rfl, N0, rfl, ⟨fun q => absurd q (by decide), fun q => absurd (by rw [dcmpV_eq q hn1] at hc11; exact hc11) (by decide)⟩⟩
    · skip
      refine Done.go (fun _ kt_ => XS.ifYes X0.here hx rfl (pc0 := 11) (pc' := 16) rfl (hb hby d12_11) rfl ((if0 _ _).trans (flt hc11).2.2.2) (by decide) (by decide) kt_) ?_
      show Done p e s below _ _ _ s₁ (mkF m 16 #[.val (.double d1), .second, .val (.double d2), .second, .unset, .unset, .unset, .unset] [])
      refine Done.go (fun _ kt_ => XS.dloadN X0.here hx rfl (hb hby d12_16) rfl kt_) ?_
      show Done p e s below _ _ _ s₁ (mkF m 17 #[.val (.double d1), .second, .val (.double d2), .second, .unset, .unset, .unset, .unset] [(.double d1)])
      obtain ⟨v32, T32, Lc32, X32, hQ32, st32⟩ := own_backG (Jvm.LawKit.callS X0 hx (y := (⟨"java/lang/Double", "doubleToLongBits", "(D)J"⟩ : MethodName)) hown (mvT hZ (hw _ (List.mem_of_getElem? (i := 66) rfl))) (mvT hZ (hw _ (List.mem_of_getElem? (i := 67) rfl))) (mvT hZ (hw _ (List.mem_of_getElem? (i := 33) rfl))) (mvT hZ (hw _ (List.mem_of_getElem? (i := 68) rfl))) (by decide) (backOf (W := 0)  (rm13 l Z a0 hw [] d1 h0 n0 Z0 hn1) hZ (hw _ (List.mem_of_getElem? (i := 68) rfl)) (hw _ (List.mem_of_getElem? (i := 33) rfl)) (by decide) (by decide)) (g := (mkF m 17 #[.val (.double d1), .second, .val (.double d2), .second, .unset, .unset, .unset, .unset] [(.double d1)])) rfl (by rw [hml]; rfl) (argsL := [(.double d1)]) (rest := []) (lenOf own_pd4 rfl) rfl (by show 2 * 0 + _ ≤ _; exact Nat.le_of_eq rfl) (hb hby d12_17) (fun _ _ => ⟨rfl, e0, (by first | decide | omega : 0 + 0 ≤ _), (by first | decide | omega : 0 + 0 ≤ _)⟩))
      obtain ⟨rfl, N32q, e32⟩ := hQ32
      refine Done.go st32 ?_
      clear st32
      have N32 := Fr.app N0 N32q
      clear N32q
      obtain ⟨Lh32, X32h, N32h⟩ : ∃ L, Stand p l e ({ frames := 2, cells := 0, slots := 0, locals := 36 } : Room) s m #[(.double d1), (.double d2)] below meth c T32 L 0 0 ∧ Fr n0 L := ⟨_, X32, N32⟩
      clear X32 N32
      show Done p e s below _ _ _ T32 (mkF m 20 #[.val (.double d1), .second, .val (.double d2), .second, .unset, .unset, .unset, .unset] [(.long (d1.toInt64))])
      refine Done.go (fun _ kt_ => XS.lstore X32h.here hx rfl (hb hby d12_20) rfl (l' := #[.val (.double d1), .second, .val (.double d2), .second, .val (.long (d1.toInt64)), .second, .unset, .unset]) rfl kt_) ?_
      show Done p e s below _ _ _ T32 (mkF m 22 #[.val (.double d1), .second, .val (.double d2), .second, .val (.long (d1.toInt64)), .second, .unset, .unset] [])
      refine Done.go (fun _ kt_ => XS.dloadN X32h.here hx rfl (hb hby d12_22) rfl kt_) ?_
      show Done p e s below _ _ _ T32 (mkF m 23 #[.val (.double d1), .second, .val (.double d2), .second, .val (.long (d1.toInt64)), .second, .unset, .unset] [(.double d2)])
      obtain ⟨v33, T33, Lc33, X33, hQ33, st33⟩ := own_backG (Jvm.LawKit.callS X32h hx (y := (⟨"java/lang/Double", "doubleToLongBits", "(D)J"⟩ : MethodName)) hown (mvT hZ (hw _ (List.mem_of_getElem? (i := 66) rfl))) (mvT hZ (hw _ (List.mem_of_getElem? (i := 67) rfl))) (mvT hZ (hw _ (List.mem_of_getElem? (i := 33) rfl))) (mvT hZ (hw _ (List.mem_of_getElem? (i := 68) rfl))) (by decide) (backOf (W := 0)  (rm13 l Z a0 hw [] d2 h0 n0 Z0 hn2) hZ (hw _ (List.mem_of_getElem? (i := 68) rfl)) (hw _ (List.mem_of_getElem? (i := 33) rfl)) (by decide) (by decide)) (g := (mkF m 23 #[.val (.double d1), .second, .val (.double d2), .second, .val (.long (d1.toInt64)), .second, .unset, .unset] [(.double d2)])) rfl (by rw [hml]; rfl) (argsL := [(.double d2)]) (rest := []) (lenOf own_pd4 rfl) rfl (by show 2 * 0 + _ ≤ _; exact Nat.le_of_eq rfl) (hb hby d12_23) (fun _ _ => ⟨rfl, e32, (by first | decide | omega : 0 + 0 ≤ _), (by first | decide | omega : 0 + 0 ≤ _)⟩))
      obtain ⟨rfl, N33q, e33⟩ := hQ33
      refine Done.go st33 ?_
      clear st33
      have N33 := Fr.app N32h N33q
      clear N33q
      obtain ⟨Lh33, X33h, N33h⟩ : ∃ L, Stand p l e ({ frames := 2, cells := 0, slots := 0, locals := 36 } : Room) s m #[(.double d1), (.double d2)] below meth c T33 L 0 0 ∧ Fr n0 L := ⟨_, X33, N33⟩
      clear X33 N33 X32h e32 N32h
      show Done p e s below _ _ _ T33 (mkF m 26 #[.val (.double d1), .second, .val (.double d2), .second, .val (.long (d1.toInt64)), .second, .unset, .unset] [(.long (d2.toInt64))])
      refine Done.go (fun _ kt_ => XS.lstore X33h.here hx rfl (hb hby d12_26) rfl (l' := #[.val (.double d1), .second, .val (.double d2), .second, .val (.long (d1.toInt64)), .second, .val (.long (d2.toInt64)), .second]) rfl kt_) ?_
      show Done p e s below _ _ _ T33 (mkF m 28 #[.val (.double d1), .second, .val (.double d2), .second, .val (.long (d1.toInt64)), .second, .val (.long (d2.toInt64)), .second] [])
      refine Done.go (fun _ kt_ => XS.lload X33h.here hx rfl (hb hby d12_28) rfl kt_) ?_
      show Done p e s below _ _ _ T33 (mkF m 30 #[.val (.double d1), .second, .val (.double d2), .second, .val (.long (d1.toInt64)), .second, .val (.long (d2.toInt64)), .second] [(.long (d1.toInt64))])
      refine Done.go (fun _ kt_ => XS.lload X33h.here hx rfl (hb hby d12_30) rfl kt_) ?_
      show Done p e s below _ _ _ T33 (mkF m 32 #[.val (.double d1), .second, .val (.double d2), .second, .val (.long (d1.toInt64)), .second, .val (.long (d2.toInt64)), .second] [(.long (d2.toInt64)), (.long (d1.toInt64))])
      refine Done.go (fun _ kt_ => XS.lcmp X33h.here hx rfl (hb hby d12_32) rfl kt_) ?_
      show Done p e s below _ _ _ T33 (mkF m 33 #[.val (.double d1), .second, .val (.double d2), .second, .val (.long (d1.toInt64)), .second, .val (.long (d2.toInt64)), .second] [(.int (lcmpW (d1.toInt64) (d2.toInt64)))])
      by_cases hc33 : (lcmpW (d1.toInt64) (d2.toInt64)) = (0 : Int32)
      · skip
        refine Done.go (fun _ kt_ => XS.ifNo X33h.here hx rfl (hb hby d12_33) rfl ((if0 _ _).trans (teq hc33).2) kt_) ?_
        show Done p e s below _ _ _ T33 (mkF m 36 #[.val (.double d1), .second, .val (.double d2), .second, .val (.long (d1.toInt64)), .second, .val (.long (d2.toInt64)), .second] [])
        refine Done.go (fun _ kt_ => XS.iconst X33h.here hx rfl (hb hby d12_36) kt_) ?_
        show Done p e s below _ _ _ T33 (mkF m 37 #[.val (.double d1), .second, .val (.double d2), .second, .val (.long (d1.toInt64)), .second, .val (.long (d2.toInt64)), .second] [(.int (0 : Int32))])
        refine Done.go (fun _ kt_ => XS.goto X33h.here hx rfl (pc0 := 37) (pc' := 53) rfl (hb hby d12_37) (by decide) (by decide) kt_) ?_
        show Done p e s below _ _ _ T33 (mkF m 53 #[.val (.double d1), .second, .val (.double d2), .second, .val (.long (d1.toInt64)), .second, .val (.long (d2.toInt64)), .second] [(.int (0 : Int32))])
        refine Done.retI X33h hx hlk hrt (hb hby d12_53) ?_ (by first | decide | omega) (by first | decide | omega)
        rw [e33]
        exact ⟨_, rfl, N33h, rfl, ⟨fun _ => own_i64 ((lw_eq _ _).mp hc33), fun _ => rfl⟩⟩
      · skip
        refine Done.go (fun _ kt_ => XS.ifYes X33h.here hx rfl (pc0 := 33) (pc' := 40) rfl (hb hby d12_33) rfl ((if0 _ _).trans (feq hc33).2) (by decide) (by decide) kt_) ?_
        show Done p e s below _ _ _ T33 (mkF m 40 #[.val (.double d1), .second, .val (.double d2), .second, .val (.long (d1.toInt64)), .second, .val (.long (d2.toInt64)), .second] [])
        refine Done.go (fun _ kt_ => XS.lload X33h.here hx rfl (hb hby d12_40) rfl kt_) ?_
        show Done p e s below _ _ _ T33 (mkF m 42 #[.val (.double d1), .second, .val (.double d2), .second, .val (.long (d1.toInt64)), .second, .val (.long (d2.toInt64)), .second] [(.long (d1.toInt64))])
        refine Done.go (fun _ kt_ => XS.lload X33h.here hx rfl (hb hby d12_42) rfl kt_) ?_
        show Done p e s below _ _ _ T33 (mkF m 44 #[.val (.double d1), .second, .val (.double d2), .second, .val (.long (d1.toInt64)), .second, .val (.long (d2.toInt64)), .second] [(.long (d2.toInt64)), (.long (d1.toInt64))])
        refine Done.go (fun _ kt_ => XS.lcmp X33h.here hx rfl (hb hby d12_44) rfl kt_) ?_
        show Done p e s below _ _ _ T33 (mkF m 45 #[.val (.double d1), .second, .val (.double d2), .second, .val (.long (d1.toInt64)), .second, .val (.long (d2.toInt64)), .second] [(.int (lcmpW (d1.toInt64) (d2.toInt64)))])
        by_cases hc45 : (lcmpW (d1.toInt64) (d2.toInt64)) < (0 : Int32)
        · skip
          refine Done.go (fun _ kt_ => XS.ifNo X33h.here hx rfl (hb hby d12_45) rfl ((if0 _ _).trans (tlt hc45).2.1) kt_) ?_
          show Done p e s below _ _ _ T33 (mkF m 48 #[.val (.double d1), .second, .val (.double d2), .second, .val (.long (d1.toInt64)), .second, .val (.long (d2.toInt64)), .second] [])
          refine Done.go (fun _ kt_ => XS.iconst X33h.here hx rfl (hb hby d12_48) kt_) ?_
          show Done p e s below _ _ _ T33 (mkF m 49 #[.val (.double d1), .second, .val (.double d2), .second, .val (.long (d1.toInt64)), .second, .val (.long (d2.toInt64)), .second] [(.int (-1 : Int32))])
          refine Done.go (fun _ kt_ => XS.goto X33h.here hx rfl (pc0 := 49) (pc' := 53) rfl (hb hby d12_49) (by decide) (by decide) kt_) ?_
          show Done p e s below _ _ _ T33 (mkF m 53 #[.val (.double d1), .second, .val (.double d2), .second, .val (.long (d1.toInt64)), .second, .val (.long (d2.toInt64)), .second] [(.int (-1 : Int32))])
          refine Done.retI X33h hx hlk hrt (hb hby d12_53) ?_ (by first | decide | omega) (by first | decide | omega)
          rw [e33]
          exact ⟨_, rfl, N33h, rfl, ⟨fun q => absurd q (by decide), fun q => absurd ((lw_eq _ _).mpr (congrArg UInt64.toInt64 q)) hc33⟩⟩
        · skip
          refine Done.go (fun _ kt_ => XS.ifYes X33h.here hx rfl (pc0 := 45) (pc' := 52) rfl (hb hby d12_45) rfl ((if0 _ _).trans (flt hc45).2.1) (by decide) (by decide) kt_) ?_
          show Done p e s below _ _ _ T33 (mkF m 52 #[.val (.double d1), .second, .val (.double d2), .second, .val (.long (d1.toInt64)), .second, .val (.long (d2.toInt64)), .second] [])
          refine Done.go (fun _ kt_ => XS.iconst X33h.here hx rfl (hb hby d12_52) kt_) ?_
          show Done p e s below _ _ _ T33 (mkF m 53 #[.val (.double d1), .second, .val (.double d2), .second, .val (.long (d1.toInt64)), .second, .val (.long (d2.toInt64)), .second] [(.int (1 : Int32))])
          refine Done.retI X33h hx hlk hrt (hb hby d12_53) ?_ (by first | decide | omega) (by first | decide | omega)
          rw [e33]
          exact ⟨_, rfl, N33h, rfl, ⟨fun q => absurd q (by decide), fun q => absurd ((lw_eq _ _).mpr (congrArg UInt64.toInt64 q)) hc33⟩⟩
def Q11 (A : Prop) (h0 : Heap) (n0 : Nat) (v : Option Value) (h : Heap) (L : List Loc) : Prop := ∃ r : Int32, v = some (.int r) ∧ Fr n0 L ∧ h = h0 ∧ (r = 0 ∨ r = 1) ∧ (r = 1 ↔ A)
theorem d11_0 : decode prog_4_method_5_code 0 = .ok (.aload_n 1, 1) := by decide +kernel
theorem d11_1 : decode prog_4_method_5_code 1 = .ok (.instanceof 23, 3) := by decide +kernel
theorem d11_4 : decode prog_4_method_5_code 4 = .ok (.ifCond .eq 54, 3) := by decide +kernel
theorem d11_7 : decode prog_4_method_5_code 7 = .ok (.aload_n 1, 1) := by decide +kernel
theorem d11_8 : decode prog_4_method_5_code 8 = .ok (.checkcast 23, 3) := by decide +kernel
theorem d11_11 : decode prog_4_method_5_code 11 = .ok (.astore_n 2, 1) := by decide +kernel
theorem d11_12 : decode prog_4_method_5_code 12 = .ok (.aload_n 0, 1) := by decide +kernel
theorem d11_13 : decode prog_4_method_5_code 13 = .ok (.getfield 22, 3) := by decide +kernel
theorem d11_16 : decode prog_4_method_5_code 16 = .ok (.aload_n 2, 1) := by decide +kernel
theorem d11_17 : decode prog_4_method_5_code 17 = .ok (.getfield 22, 3) := by decide +kernel
theorem d11_20 : decode prog_4_method_5_code 20 = .ok (.invokestatic 38, 3) := by decide +kernel
theorem d11_23 : decode prog_4_method_5_code 23 = .ok (.ifCond .ne 35, 3) := by decide +kernel
theorem d11_26 : decode prog_4_method_5_code 26 = .ok (.aload_n 0, 1) := by decide +kernel
theorem d11_27 : decode prog_4_method_5_code 27 = .ok (.getfield 27, 3) := by decide +kernel
theorem d11_30 : decode prog_4_method_5_code 30 = .ok (.aload_n 2, 1) := by decide +kernel
theorem d11_31 : decode prog_4_method_5_code 31 = .ok (.getfield 27, 3) := by decide +kernel
theorem d11_34 : decode prog_4_method_5_code 34 = .ok (.invokestatic 38, 3) := by decide +kernel
theorem d11_37 : decode prog_4_method_5_code 37 = .ok (.ifCond .ne 21, 3) := by decide +kernel
theorem d11_40 : decode prog_4_method_5_code 40 = .ok (.aload_n 0, 1) := by decide +kernel
theorem d11_41 : decode prog_4_method_5_code 41 = .ok (.getfield 29, 3) := by decide +kernel
theorem d11_44 : decode prog_4_method_5_code 44 = .ok (.aload_n 2, 1) := by decide +kernel
theorem d11_45 : decode prog_4_method_5_code 45 = .ok (.getfield 29, 3) := by decide +kernel
theorem d11_48 : decode prog_4_method_5_code 48 = .ok (.invokestatic 38, 3) := by decide +kernel
theorem d11_51 : decode prog_4_method_5_code 51 = .ok (.ifCond .ne 7, 3) := by decide +kernel
theorem d11_54 : decode prog_4_method_5_code 54 = .ok (.iconst 1, 1) := by decide +kernel
theorem d11_55 : decode prog_4_method_5_code 55 = .ok (.goto 4, 3) := by decide +kernel
theorem d11_58 : decode prog_4_method_5_code 58 = .ok (.iconst 0, 1) := by decide +kernel
theorem d11_59 : decode prog_4_method_5_code 59 = .ok (.ireturn, 1) := by decide +kernel
theorem ef_rm11P (m : MethodId) (a1 : Addr) (a2 : Addr) : entryFrame m #[(.ref a1), (.ref a2)] 3 = mkF m 0 #[.val (.ref a1), .val (.ref a2), .unset] [] := by first | (simp [entryFrame, mkF, argsToLocals, Value.category]; done) | rfl
set_option maxRecDepth 65536 in
set_option maxHeartbeats 40000000 in
theorem rm11P (l : Launch) (Z : State) (a0 : Array Value) (hw : ∀ d ∈ tables_1, d.before a0 Z = true) (ws : List Jvm.Cond) (a1 : Addr) (a2 : Addr) (d1 : UInt64) (d2 : UInt64) (d3 : UInt64) (f1 : UInt64) (f2 : UInt64) (f3 : UInt64) (h0 : Heap) (n0 : Nat) (Z0 : n0 ≤ h0.size) (E2 : Exa Z h0 a2 "com/example/citadel_hill/citadelhill/cell/CurrentPulse") (A0 : Fld Z h0 a1 "com/example/citadel_hill/citadelhill/cell/CurrentPulse" "delay" "D" (.double d1)) (A1 : Fld Z h0 a1 "com/example/citadel_hill/citadelhill/cell/CurrentPulse" "duration" "D" (.double d2)) (A2 : Fld Z h0 a1 "com/example/citadel_hill/citadelhill/cell/CurrentPulse" "amplitude" "D" (.double d3)) (B0 : Fld Z h0 a2 "com/example/citadel_hill/citadelhill/cell/CurrentPulse" "delay" "D" (.double f1)) (B1 : Fld Z h0 a2 "com/example/citadel_hill/citadelhill/cell/CurrentPulse" "duration" "D" (.double f2)) (B2 : Fld Z h0 a2 "com/example/citadel_hill/citadelhill/cell/CurrentPulse" "amplitude" "D" (.double f3)) (hn_d1 : Jvm.Free.Fl.NoNaN64 d1) (hn_d2 : Jvm.Free.Fl.NoNaN64 d2) (hn_d3 : Jvm.Free.Fl.NoNaN64 d3) (hn_f1 : Jvm.Free.Fl.NoNaN64 f1) (hn_f2 : Jvm.Free.Fl.NoNaN64 f2) (hn_f3 : Jvm.Free.Fl.NoNaN64 f3) :
    MetFree l (⟨"com/example/citadel_hill/citadelhill/cell/CurrentPulse", "equals", "(Ljava/lang/Object;)Z"⟩ : MethodName) (head1 (Jvm.Cond.code (⟨"com/example/citadel_hill/citadelhill/cell/CurrentPulse", "equals", "(Ljava/lang/Object;)Z"⟩ : MethodName) prog_4_method_5_code 3 (some .boolean) :: ws) ({ frames := 3, cells := 0, slots := 0, locals := 60 } : Room)) (fun a U => a = #[(.ref a1), (.ref a2)] ∧ Z.Warmed39 U.vm ∧ U.heap = h0) (fun _ _ _ _ _ => True) (fun _ U o U' => ∃ vr Lr, o = .returned vr ∧ Q11 (d1 = f1 ∧ d2 = f2 ∧ d3 = f3) h0 n0 vr U'.heap Lr ∧ FrameEnd U o U' Lr 0 0) := by
  refine MetFree.of_bodySF (plainFor_of_name own_pn3) hisR ?_
  intro p e s m args below meth c s₁ Bd hml0 hP hK
  obtain ⟨rfl, hZ, hh⟩ := hP
  have hx := Bd.exec
  have hby := Bd.bytes
  have hml : c.maxLocals = 3 := hml0
  have hown : s.vm.findClass "com/example/citadel_hill/citadelhill/cell/CurrentPulse" = some m.cls := findClass_of_methodNamed Bd.named
  have hnm := (name_of_methodNamed Bd.named Bd.method).1
  have hlk : meth.locks = false := Bd.notSynchronized
  have hrt := Bd.returns
  have X0 : Stand p l e ({ frames := 3, cells := 0, slots := 0, locals := 60 } : Room) s m #[(.ref a1), (.ref a2)] below meth c s₁ [] 0 0 := Stand.of_body Bd
  have e0 : s₁.heap = h0 := by rw [← hh, Bd.state]; rfl
  have N0 := Fr.nil n0
  show Done p e s below 0 0 (Q11 (d1 = f1 ∧ d2 = f2 ∧ d3 = f3) h0 n0) s₁ (entryFrame m #[(.ref a1), (.ref a2)] 3)
  rw [ef_rm11P]
  show Done p e s below _ _ _ s₁ (mkF m 0 #[.val (.ref a1), .val (.ref a2), .unset] [])
  refine Done.go (fun _ kt_ => XS.aloadN X0.here hx rfl (hb hby d11_0) rfl rfl kt_) ?_
  show Done p e s below _ _ _ s₁ (mkF m 1 #[.val (.ref a1), .val (.ref a2), .unset] [(.ref a2)])
  obtain ⟨T34, X34, e34, st34⟩ := instY X0 hx hZ hown (hw _ (List.mem_of_getElem? (i := 61) rfl)) e0 (Ins.self E2) (g := (mkF m 1 #[.val (.ref a1), .val (.ref a2), .unset] [(.ref a2)])) rfl rfl (hb hby d11_1)
  refine Done.go st34 ?_
  clear st34
  show Done p e s below _ _ _ T34 (mkF m 4 #[.val (.ref a1), .val (.ref a2), .unset] [(.int (1 : Int32))])
  refine Done.go (fun _ kt_ => XS.ifNo X34.here hx rfl (hb hby d11_4) rfl ((if0 _ _).trans (feq (by decide)).1) kt_) ?_
  show Done p e s below _ _ _ T34 (mkF m 7 #[.val (.ref a1), .val (.ref a2), .unset] [])
  refine Done.go (fun _ kt_ => XS.aloadN X34.here hx rfl (hb hby d11_7) rfl rfl kt_) ?_
  show Done p e s below _ _ _ T34 (mkF m 8 #[.val (.ref a1), .val (.ref a2), .unset] [(.ref a2)])
  obtain ⟨T35, X35, e35, st35⟩ := castY X34 hx hZ hown (hw _ (List.mem_of_getElem? (i := 61) rfl)) e34 (Ins.self E2) (g := (mkF m 8 #[.val (.ref a1), .val (.ref a2), .unset] [(.ref a2)])) rfl rfl (hb hby d11_8)
  refine Done.go st35 ?_
  clear st35 X34 e34
  show Done p e s below _ _ _ T35 (mkF m 11 #[.val (.ref a1), .val (.ref a2), .unset] [(.ref a2)])
  refine Done.go (fun _ kt_ => XS.astoreN X35.here hx rfl (hb hby d11_11) rfl rfl (l' := #[.val (.ref a1), .val (.ref a2), .val (.ref a2)]) rfl kt_) ?_
  show Done p e s below _ _ _ T35 (mkF m 12 #[.val (.ref a1), .val (.ref a2), .val (.ref a2)] [])
  refine Done.go (fun _ kt_ => XS.aloadN X35.here hx rfl (hb hby d11_12) rfl rfl kt_) ?_
  show Done p e s below _ _ _ T35 (mkF m 13 #[.val (.ref a1), .val (.ref a2), .val (.ref a2)] [(.ref a1)])
  obtain ⟨T36, X36, e36, st36⟩ := getF X35 hx hZ hown (host := "") (Or.inl (hw _ (List.mem_of_getElem? (i := 50) rfl))) Via.refl e35 A0 (g := (mkF m 13 #[.val (.ref a1), .val (.ref a2), .val (.ref a2)] [(.ref a1)])) rfl rfl (hb hby d11_13)
  refine Done.go st36 ?_
  clear st36 X35 e35
  show Done p e s below _ _ _ T36 (mkF m 16 #[.val (.ref a1), .val (.ref a2), .val (.ref a2)] [(.double d1)])
  refine Done.go (fun _ kt_ => XS.aloadN X36.here hx rfl (hb hby d11_16) rfl rfl kt_) ?_
  show Done p e s below _ _ _ T36 (mkF m 17 #[.val (.ref a1), .val (.ref a2), .val (.ref a2)] [(.ref a2), (.double d1)])
  obtain ⟨T37, X37, e37, st37⟩ := getF X36 hx hZ hown (host := "") (Or.inl (hw _ (List.mem_of_getElem? (i := 50) rfl))) Via.refl e36 B0 (g := (mkF m 17 #[.val (.ref a1), .val (.ref a2), .val (.ref a2)] [(.ref a2), (.double d1)])) rfl rfl (hb hby d11_17)
  refine Done.go st37 ?_
  clear st37 X36 e36
  show Done p e s below _ _ _ T37 (mkF m 20 #[.val (.ref a1), .val (.ref a2), .val (.ref a2)] [(.double f1), (.double d1)])
  obtain ⟨v38, T38, Lc38, X38, hQ38, st38⟩ := own_backG (Jvm.LawKit.callS X37 hx (y := (⟨"java/lang/Double", "compare", "(DD)I"⟩ : MethodName)) hown (mvT hZ (hw _ (List.mem_of_getElem? (i := 63) rfl))) (mvT hZ (hw _ (List.mem_of_getElem? (i := 64) rfl))) (mvT hZ (hw _ (List.mem_of_getElem? (i := 33) rfl))) (mvT hZ (hw _ (List.mem_of_getElem? (i := 65) rfl))) (by decide) (backOf (W := 0)  (rm12 l Z a0 hw [] d1 f1 h0 n0 Z0 hn_d1 hn_f1) hZ (hw _ (List.mem_of_getElem? (i := 65) rfl)) (hw _ (List.mem_of_getElem? (i := 33) rfl)) (by decide) (by decide)) (g := (mkF m 20 #[.val (.ref a1), .val (.ref a2), .val (.ref a2)] [(.double f1), (.double d1)])) rfl (by rw [hml]; rfl) (argsL := [(.double d1), (.double f1)]) (rest := []) (lenOf own_pd5 rfl) rfl (by show 2 * 0 + _ ≤ _; exact Nat.le_of_eq rfl) (hb hby d11_20) (fun _ _ => ⟨rfl, e37, (by first | decide | omega : 0 + 0 ≤ _), (by first | decide | omega : 0 + 0 ≤ _)⟩))
  obtain ⟨r0, rfl, N38q, e38, I0⟩ := hQ38
  refine Done.go st38 ?_
  clear st38
  have N38 := Fr.app N0 N38q
  clear N38q
  obtain ⟨Lh38, X38h, N38h⟩ : ∃ L, Stand p l e ({ frames := 3, cells := 0, slots := 0, locals := 60 } : Room) s m #[(.ref a1), (.ref a2)] below meth c T38 L 0 0 ∧ Fr n0 L := ⟨_, X38, N38⟩
  clear X38 N38 X37 e37
  show Done p e s below _ _ _ T38 (mkF m 23 #[.val (.ref a1), .val (.ref a2), .val (.ref a2)] [(.int r0)])
  by_cases hc23 : r0 = (0 : Int32)
  · skip
    refine Done.go (fun _ kt_ => XS.ifNo X38h.here hx rfl (hb hby d11_23) rfl ((if0 _ _).trans (teq hc23).2) kt_) ?_
    show Done p e s below _ _ _ T38 (mkF m 26 #[.val (.ref a1), .val (.ref a2), .val (.ref a2)] [])
    refine Done.go (fun _ kt_ => XS.aloadN X38h.here hx rfl (hb hby d11_26) rfl rfl kt_) ?_
    show Done p e s below _ _ _ T38 (mkF m 27 #[.val (.ref a1), .val (.ref a2), .val (.ref a2)] [(.ref a1)])
    obtain ⟨T39, X39, e39, st39⟩ := getF X38h hx hZ hown (host := "") (Or.inl (hw _ (List.mem_of_getElem? (i := 52) rfl))) Via.refl e38 A1 (g := (mkF m 27 #[.val (.ref a1), .val (.ref a2), .val (.ref a2)] [(.ref a1)])) rfl rfl (hb hby d11_27)
    refine Done.go st39 ?_
    clear st39 X38h e38
    show Done p e s below _ _ _ T39 (mkF m 30 #[.val (.ref a1), .val (.ref a2), .val (.ref a2)] [(.double d2)])
    refine Done.go (fun _ kt_ => XS.aloadN X39.here hx rfl (hb hby d11_30) rfl rfl kt_) ?_
    show Done p e s below _ _ _ T39 (mkF m 31 #[.val (.ref a1), .val (.ref a2), .val (.ref a2)] [(.ref a2), (.double d2)])
    obtain ⟨T40, X40, e40, st40⟩ := getF X39 hx hZ hown (host := "") (Or.inl (hw _ (List.mem_of_getElem? (i := 52) rfl))) Via.refl e39 B1 (g := (mkF m 31 #[.val (.ref a1), .val (.ref a2), .val (.ref a2)] [(.ref a2), (.double d2)])) rfl rfl (hb hby d11_31)
    refine Done.go st40 ?_
    clear st40 X39 e39
    show Done p e s below _ _ _ T40 (mkF m 34 #[.val (.ref a1), .val (.ref a2), .val (.ref a2)] [(.double f2), (.double d2)])
    obtain ⟨v41, T41, Lc41, X41, hQ41, st41⟩ := own_backG (Jvm.LawKit.callS X40 hx (y := (⟨"java/lang/Double", "compare", "(DD)I"⟩ : MethodName)) hown (mvT hZ (hw _ (List.mem_of_getElem? (i := 63) rfl))) (mvT hZ (hw _ (List.mem_of_getElem? (i := 64) rfl))) (mvT hZ (hw _ (List.mem_of_getElem? (i := 33) rfl))) (mvT hZ (hw _ (List.mem_of_getElem? (i := 65) rfl))) (by decide) (backOf (W := 0)  (rm12 l Z a0 hw [] d2 f2 h0 n0 Z0 hn_d2 hn_f2) hZ (hw _ (List.mem_of_getElem? (i := 65) rfl)) (hw _ (List.mem_of_getElem? (i := 33) rfl)) (by decide) (by decide)) (g := (mkF m 34 #[.val (.ref a1), .val (.ref a2), .val (.ref a2)] [(.double f2), (.double d2)])) rfl (by rw [hml]; rfl) (argsL := [(.double d2), (.double f2)]) (rest := []) (lenOf own_pd5 rfl) rfl (by show 2 * 0 + _ ≤ _; exact Nat.le_of_eq rfl) (hb hby d11_34) (fun _ _ => ⟨rfl, e40, (by first | decide | omega : 0 + 0 ≤ _), (by first | decide | omega : 0 + 0 ≤ _)⟩))
    obtain ⟨r1, rfl, N41q, e41, I1⟩ := hQ41
    refine Done.go st41 ?_
    clear st41
    have N41 := Fr.app N38h N41q
    clear N41q
    obtain ⟨Lh41, X41h, N41h⟩ : ∃ L, Stand p l e ({ frames := 3, cells := 0, slots := 0, locals := 60 } : Room) s m #[(.ref a1), (.ref a2)] below meth c T41 L 0 0 ∧ Fr n0 L := ⟨_, X41, N41⟩
    clear X41 N41 X40 e40 N38h
    show Done p e s below _ _ _ T41 (mkF m 37 #[.val (.ref a1), .val (.ref a2), .val (.ref a2)] [(.int r1)])
    by_cases hc37 : r1 = (0 : Int32)
    · skip
      refine Done.go (fun _ kt_ => XS.ifNo X41h.here hx rfl (hb hby d11_37) rfl ((if0 _ _).trans (teq hc37).2) kt_) ?_
      show Done p e s below _ _ _ T41 (mkF m 40 #[.val (.ref a1), .val (.ref a2), .val (.ref a2)] [])
      refine Done.go (fun _ kt_ => XS.aloadN X41h.here hx rfl (hb hby d11_40) rfl rfl kt_) ?_
      show Done p e s below _ _ _ T41 (mkF m 41 #[.val (.ref a1), .val (.ref a2), .val (.ref a2)] [(.ref a1)])
      obtain ⟨T42, X42, e42, st42⟩ := getF X41h hx hZ hown (host := "") (Or.inl (hw _ (List.mem_of_getElem? (i := 54) rfl))) Via.refl e41 A2 (g := (mkF m 41 #[.val (.ref a1), .val (.ref a2), .val (.ref a2)] [(.ref a1)])) rfl rfl (hb hby d11_41)
      refine Done.go st42 ?_
      clear st42 X41h e41
      show Done p e s below _ _ _ T42 (mkF m 44 #[.val (.ref a1), .val (.ref a2), .val (.ref a2)] [(.double d3)])
      refine Done.go (fun _ kt_ => XS.aloadN X42.here hx rfl (hb hby d11_44) rfl rfl kt_) ?_
      show Done p e s below _ _ _ T42 (mkF m 45 #[.val (.ref a1), .val (.ref a2), .val (.ref a2)] [(.ref a2), (.double d3)])
      obtain ⟨T43, X43, e43, st43⟩ := getF X42 hx hZ hown (host := "") (Or.inl (hw _ (List.mem_of_getElem? (i := 54) rfl))) Via.refl e42 B2 (g := (mkF m 45 #[.val (.ref a1), .val (.ref a2), .val (.ref a2)] [(.ref a2), (.double d3)])) rfl rfl (hb hby d11_45)
      refine Done.go st43 ?_
      clear st43 X42 e42
      show Done p e s below _ _ _ T43 (mkF m 48 #[.val (.ref a1), .val (.ref a2), .val (.ref a2)] [(.double f3), (.double d3)])
      obtain ⟨v44, T44, Lc44, X44, hQ44, st44⟩ := own_backG (Jvm.LawKit.callS X43 hx (y := (⟨"java/lang/Double", "compare", "(DD)I"⟩ : MethodName)) hown (mvT hZ (hw _ (List.mem_of_getElem? (i := 63) rfl))) (mvT hZ (hw _ (List.mem_of_getElem? (i := 64) rfl))) (mvT hZ (hw _ (List.mem_of_getElem? (i := 33) rfl))) (mvT hZ (hw _ (List.mem_of_getElem? (i := 65) rfl))) (by decide) (backOf (W := 0)  (rm12 l Z a0 hw [] d3 f3 h0 n0 Z0 hn_d3 hn_f3) hZ (hw _ (List.mem_of_getElem? (i := 65) rfl)) (hw _ (List.mem_of_getElem? (i := 33) rfl)) (by decide) (by decide)) (g := (mkF m 48 #[.val (.ref a1), .val (.ref a2), .val (.ref a2)] [(.double f3), (.double d3)])) rfl (by rw [hml]; rfl) (argsL := [(.double d3), (.double f3)]) (rest := []) (lenOf own_pd5 rfl) rfl (by show 2 * 0 + _ ≤ _; exact Nat.le_of_eq rfl) (hb hby d11_48) (fun _ _ => ⟨rfl, e43, (by first | decide | omega : 0 + 0 ≤ _), (by first | decide | omega : 0 + 0 ≤ _)⟩))
      obtain ⟨r2, rfl, N44q, e44, I2⟩ := hQ44
      refine Done.go st44 ?_
      clear st44
      have N44 := Fr.app N41h N44q
      clear N44q
      obtain ⟨Lh44, X44h, N44h⟩ : ∃ L, Stand p l e ({ frames := 3, cells := 0, slots := 0, locals := 60 } : Room) s m #[(.ref a1), (.ref a2)] below meth c T44 L 0 0 ∧ Fr n0 L := ⟨_, X44, N44⟩
      clear X44 N44 X43 e43 N41h
      show Done p e s below _ _ _ T44 (mkF m 51 #[.val (.ref a1), .val (.ref a2), .val (.ref a2)] [(.int r2)])
      by_cases hc51 : r2 = (0 : Int32)
      · skip
        refine Done.go (fun _ kt_ => XS.ifNo X44h.here hx rfl (hb hby d11_51) rfl ((if0 _ _).trans (teq hc51).2) kt_) ?_
        show Done p e s below _ _ _ T44 (mkF m 54 #[.val (.ref a1), .val (.ref a2), .val (.ref a2)] [])
        refine Done.go (fun _ kt_ => XS.iconst X44h.here hx rfl (hb hby d11_54) kt_) ?_
        show Done p e s below _ _ _ T44 (mkF m 55 #[.val (.ref a1), .val (.ref a2), .val (.ref a2)] [(.int (1 : Int32))])
        refine Done.go (fun _ kt_ => XS.goto X44h.here hx rfl (pc0 := 55) (pc' := 59) rfl (hb hby d11_55) (by decide) (by decide) kt_) ?_
        show Done p e s below _ _ _ T44 (mkF m 59 #[.val (.ref a1), .val (.ref a2), .val (.ref a2)] [(.int (1 : Int32))])
        refine Done.retN X44h hx hlk (t := .boolean) hrt (by simp) (z' := (1 : Int32)) rfl (hb hby d11_59) ?_ (by first | decide | omega) (by first | decide | omega)
        rw [e44]
        exact ⟨_, rfl, N44h, rfl, Or.inr rfl, ⟨fun _ => ⟨I0.mp hc23, I1.mp hc37, I2.mp hc51⟩, fun _ => rfl⟩⟩
      · skip
        refine Done.go (fun _ kt_ => XS.ifYes X44h.here hx rfl (pc0 := 51) (pc' := 58) rfl (hb hby d11_51) rfl ((if0 _ _).trans (feq hc51).2) (by decide) (by decide) kt_) ?_
        show Done p e s below _ _ _ T44 (mkF m 58 #[.val (.ref a1), .val (.ref a2), .val (.ref a2)] [])
        refine Done.go (fun _ kt_ => XS.iconst X44h.here hx rfl (hb hby d11_58) kt_) ?_
        show Done p e s below _ _ _ T44 (mkF m 59 #[.val (.ref a1), .val (.ref a2), .val (.ref a2)] [(.int (0 : Int32))])
        refine Done.retN X44h hx hlk (t := .boolean) hrt (by simp) (z' := (0 : Int32)) rfl (hb hby d11_59) ?_ (by first | decide | omega) (by first | decide | omega)
        rw [e44]
        exact ⟨_, rfl, N44h, rfl, Or.inl rfl, ⟨fun q => absurd q (by decide), fun q => absurd (I2.mpr q.2.2) hc51⟩⟩
    · skip
      refine Done.go (fun _ kt_ => XS.ifYes X41h.here hx rfl (pc0 := 37) (pc' := 58) rfl (hb hby d11_37) rfl ((if0 _ _).trans (feq hc37).2) (by decide) (by decide) kt_) ?_
      show Done p e s below _ _ _ T41 (mkF m 58 #[.val (.ref a1), .val (.ref a2), .val (.ref a2)] [])
      refine Done.go (fun _ kt_ => XS.iconst X41h.here hx rfl (hb hby d11_58) kt_) ?_
      show Done p e s below _ _ _ T41 (mkF m 59 #[.val (.ref a1), .val (.ref a2), .val (.ref a2)] [(.int (0 : Int32))])
      refine Done.retN X41h hx hlk (t := .boolean) hrt (by simp) (z' := (0 : Int32)) rfl (hb hby d11_59) ?_ (by first | decide | omega) (by first | decide | omega)
      rw [e41]
      exact ⟨_, rfl, N41h, rfl, Or.inl rfl, ⟨fun q => absurd q (by decide), fun q => absurd (I1.mpr q.2.1) hc37⟩⟩
  · skip
    refine Done.go (fun _ kt_ => XS.ifYes X38h.here hx rfl (pc0 := 23) (pc' := 58) rfl (hb hby d11_23) rfl ((if0 _ _).trans (feq hc23).2) (by decide) (by decide) kt_) ?_
    show Done p e s below _ _ _ T38 (mkF m 58 #[.val (.ref a1), .val (.ref a2), .val (.ref a2)] [])
    refine Done.go (fun _ kt_ => XS.iconst X38h.here hx rfl (hb hby d11_58) kt_) ?_
    show Done p e s below _ _ _ T38 (mkF m 59 #[.val (.ref a1), .val (.ref a2), .val (.ref a2)] [(.int (0 : Int32))])
    refine Done.retN X38h hx hlk (t := .boolean) hrt (by simp) (z' := (0 : Int32)) rfl (hb hby d11_59) ?_ (by first | decide | omega) (by first | decide | omega)
    rw [e38]
    exact ⟨_, rfl, N38h, rfl, Or.inl rfl, ⟨fun q => absurd q (by decide), fun q => absurd (I0.mpr q.1) hc23⟩⟩
theorem ef_rm11N (m : MethodId) (a1 : Addr) : entryFrame m #[(.ref a1), .null] 3 = mkF m 0 #[.val (.ref a1), .val .null, .unset] [] := by first | (simp [entryFrame, mkF, argsToLocals, Value.category]; done) | rfl
set_option maxRecDepth 65536 in
set_option maxHeartbeats 40000000 in
theorem rm11N (l : Launch) (Z : State) (a0 : Array Value) (hw : ∀ d ∈ tables_1, d.before a0 Z = true) (ws : List Jvm.Cond) (a1 : Addr) (h0 : Heap) (n0 : Nat) (Z0 : n0 ≤ h0.size) :
    MetFree l (⟨"com/example/citadel_hill/citadelhill/cell/CurrentPulse", "equals", "(Ljava/lang/Object;)Z"⟩ : MethodName) (head1 (Jvm.Cond.code (⟨"com/example/citadel_hill/citadelhill/cell/CurrentPulse", "equals", "(Ljava/lang/Object;)Z"⟩ : MethodName) prog_4_method_5_code 3 (some .boolean) :: ws) ({ frames := 0, cells := 0, slots := 0, locals := 0 } : Room)) (fun a U => a = #[(.ref a1), .null] ∧ Z.Warmed39 U.vm ∧ U.heap = h0) (fun _ _ _ _ _ => True) (fun _ U o U' => ∃ vr Lr, o = .returned vr ∧ QI 0 h0 n0 vr U'.heap Lr ∧ FrameEnd U o U' Lr 0 0) := by
  refine MetFree.of_bodySF (plainFor_of_name own_pn3) hisR ?_
  intro p e s m args below meth c s₁ Bd hml0 hP hK
  obtain ⟨rfl, hZ, hh⟩ := hP
  have hx := Bd.exec
  have hby := Bd.bytes
  have hml : c.maxLocals = 3 := hml0
  have hown : s.vm.findClass "com/example/citadel_hill/citadelhill/cell/CurrentPulse" = some m.cls := findClass_of_methodNamed Bd.named
  have hnm := (name_of_methodNamed Bd.named Bd.method).1
  have hlk : meth.locks = false := Bd.notSynchronized
  have hrt := Bd.returns
  have X0 : Stand p l e ({ frames := 0, cells := 0, slots := 0, locals := 0 } : Room) s m #[(.ref a1), .null] below meth c s₁ [] 0 0 := Stand.of_body Bd
  have e0 : s₁.heap = h0 := by rw [← hh, Bd.state]; rfl
  have N0 := Fr.nil n0
  show Done p e s below 0 0 (QI 0 h0 n0) s₁ (entryFrame m #[(.ref a1), .null] 3)
  rw [ef_rm11N]
  show Done p e s below _ _ _ s₁ (mkF m 0 #[.val (.ref a1), .val .null, .unset] [])
  refine Done.go (fun _ kt_ => XS.aloadN X0.here hx rfl (hb hby d11_0) rfl rfl kt_) ?_
  show Done p e s below _ _ _ s₁ (mkF m 1 #[.val (.ref a1), .val .null, .unset] [.null])
  refine Done.go (X0.instanceofNull hx (g := (mkF m 1 #[.val (.ref a1), .val .null, .unset] [.null])) rfl rfl (hb hby d11_1)) ?_
  show Done p e s below _ _ _ s₁ (mkF m 4 #[.val (.ref a1), .val .null, .unset] [(.int (0 : Int32))])
  refine Done.go (fun _ kt_ => XS.ifYes X0.here hx rfl (pc0 := 4) (pc' := 58) rfl (hb hby d11_4) rfl ((if0 _ _).trans (teq rfl).1) (by decide) (by decide) kt_) ?_
  show Done p e s below _ _ _ s₁ (mkF m 58 #[.val (.ref a1), .val .null, .unset] [])
  refine Done.go (fun _ kt_ => XS.iconst X0.here hx rfl (hb hby d11_58) kt_) ?_
  show Done p e s below _ _ _ s₁ (mkF m 59 #[.val (.ref a1), .val .null, .unset] [(.int (0 : Int32))])
  refine Done.retN X0 hx hlk (t := .boolean) hrt (by simp) (z' := (0 : Int32)) rfl (hb hby d11_59) ?_ (by first | decide | omega) (by first | decide | omega)
  rw [e0]
  exact ⟨rfl, N0, rfl⟩
theorem ef_rm11I (m : MethodId) (a1 : Addr) (a2 : Addr) : entryFrame m #[(.ref a1), (.ref a2)] 3 = mkF m 0 #[.val (.ref a1), .val (.ref a2), .unset] [] := by first | (simp [entryFrame, mkF, argsToLocals, Value.category]; done) | rfl
set_option maxRecDepth 65536 in
set_option maxHeartbeats 40000000 in
theorem rm11I (l : Launch) (Z : State) (a0 : Array Value) (hw : ∀ d ∈ tables_1, d.before a0 Z = true) (ws : List Jvm.Cond) (a1 : Addr) (a2 : Addr) (h0 : Heap) (n0 : Nat) (Z0 : n0 ≤ h0.size) (E2 : Exa Z h0 a2 "java/lang/Integer") :
    MetFree l (⟨"com/example/citadel_hill/citadelhill/cell/CurrentPulse", "equals", "(Ljava/lang/Object;)Z"⟩ : MethodName) (head1 (Jvm.Cond.code (⟨"com/example/citadel_hill/citadelhill/cell/CurrentPulse", "equals", "(Ljava/lang/Object;)Z"⟩ : MethodName) prog_4_method_5_code 3 (some .boolean) :: ws) ({ frames := 0, cells := 0, slots := 0, locals := 0 } : Room)) (fun a U => a = #[(.ref a1), (.ref a2)] ∧ Z.Warmed39 U.vm ∧ U.heap = h0) (fun _ _ _ _ _ => True) (fun _ U o U' => ∃ vr Lr, o = .returned vr ∧ QI 0 h0 n0 vr U'.heap Lr ∧ FrameEnd U o U' Lr 0 0) := by
  refine MetFree.of_bodySF (plainFor_of_name own_pn3) hisR ?_
  intro p e s m args below meth c s₁ Bd hml0 hP hK
  obtain ⟨rfl, hZ, hh⟩ := hP
  have hx := Bd.exec
  have hby := Bd.bytes
  have hml : c.maxLocals = 3 := hml0
  have hown : s.vm.findClass "com/example/citadel_hill/citadelhill/cell/CurrentPulse" = some m.cls := findClass_of_methodNamed Bd.named
  have hnm := (name_of_methodNamed Bd.named Bd.method).1
  have hlk : meth.locks = false := Bd.notSynchronized
  have hrt := Bd.returns
  have X0 : Stand p l e ({ frames := 0, cells := 0, slots := 0, locals := 0 } : Room) s m #[(.ref a1), (.ref a2)] below meth c s₁ [] 0 0 := Stand.of_body Bd
  have e0 : s₁.heap = h0 := by rw [← hh, Bd.state]; rfl
  have N0 := Fr.nil n0
  show Done p e s below 0 0 (QI 0 h0 n0) s₁ (entryFrame m #[(.ref a1), (.ref a2)] 3)
  rw [ef_rm11I]
  show Done p e s below _ _ _ s₁ (mkF m 0 #[.val (.ref a1), .val (.ref a2), .unset] [])
  refine Done.go (fun _ kt_ => XS.aloadN X0.here hx rfl (hb hby d11_0) rfl rfl kt_) ?_
  show Done p e s below _ _ _ s₁ (mkF m 1 #[.val (.ref a1), .val (.ref a2), .unset] [(.ref a2)])
  obtain ⟨T45, X45, e45, st45⟩ := instNo X0 hx hZ hown (hw _ (List.mem_of_getElem? (i := 61) rfl)) e0 E2 (own_noI hw) (g := (mkF m 1 #[.val (.ref a1), .val (.ref a2), .unset] [(.ref a2)])) rfl rfl (hb hby d11_1)
  refine Done.go st45 ?_
  clear st45
  show Done p e s below _ _ _ T45 (mkF m 4 #[.val (.ref a1), .val (.ref a2), .unset] [(.int (0 : Int32))])
  refine Done.go (fun _ kt_ => XS.ifYes X45.here hx rfl (pc0 := 4) (pc' := 58) rfl (hb hby d11_4) rfl ((if0 _ _).trans (teq rfl).1) (by decide) (by decide) kt_) ?_
  show Done p e s below _ _ _ T45 (mkF m 58 #[.val (.ref a1), .val (.ref a2), .unset] [])
  refine Done.go (fun _ kt_ => XS.iconst X45.here hx rfl (hb hby d11_58) kt_) ?_
  show Done p e s below _ _ _ T45 (mkF m 59 #[.val (.ref a1), .val (.ref a2), .unset] [(.int (0 : Int32))])
  refine Done.retN X45 hx hlk (t := .boolean) hrt (by simp) (z' := (0 : Int32)) rfl (hb hby d11_59) ?_ (by first | decide | omega) (by first | decide | omega)
  rw [e45]
  exact ⟨rfl, N0, rfl⟩
def QN (h0 : Heap) (n0 : Nat) (v : Option Value) (h : Heap) (L : List Loc) : Prop := v = none ∧ Fr n0 L ∧ h = h0
theorem d17_0 : decode jdk_18_method_1_code 0 = .ok (.aload_n 0, 1) := by decide +kernel
theorem d17_1 : decode jdk_18_method_1_code 1 = .ok (.invokespecial 1, 3) := by decide +kernel
theorem d17_4 : decode jdk_18_method_1_code 4 = .ok (.return_, 1) := by decide +kernel
theorem own_pn4 : plainName "java/lang/Number" = true := by first | (simp [plainName, overriddenIn]; done) | decide +kernel
theorem ef_rm17 (m : MethodId) (a1 : Addr) : entryFrame m #[(.ref a1)] 1 = mkF m 0 #[.val (.ref a1)] [] := by first | (simp [entryFrame, mkF, argsToLocals, Value.category]; done) | rfl
set_option maxRecDepth 65536 in
set_option maxHeartbeats 40000000 in
theorem rm17 (l : Launch) (Z : State) (a0 : Array Value) (hw : ∀ d ∈ tables_1, d.before a0 Z = true) (ws : List Jvm.Cond) (a1 : Addr) (h0 : Heap) (n0 : Nat) (Z0 : n0 ≤ h0.size) :
    MetFree l (⟨"java/lang/Number", "<init>", "()V"⟩ : MethodName) (head1 (Jvm.Cond.code (⟨"java/lang/Number", "<init>", "()V"⟩ : MethodName) jdk_18_method_1_code 1 none :: ws) ({ frames := 1, cells := 0, slots := 0, locals := 12 } : Room)) (fun a U => a = #[(.ref a1)] ∧ Z.Warmed39 U.vm ∧ U.heap = h0) (fun _ _ _ _ _ => True) (fun _ U o U' => ∃ vr Lr, o = .returned vr ∧ QN h0 n0 vr U'.heap Lr ∧ FrameEnd U o U' Lr 0 0) := by
  refine MetFree.of_bodySF (plainFor_of_name own_pn4) hisR ?_
  intro p e s m args below meth c s₁ Bd hml0 hP hK
  obtain ⟨rfl, hZ, hh⟩ := hP
  have hx := Bd.exec
  have hby := Bd.bytes
  have hml : c.maxLocals = 1 := hml0
  have hown : s.vm.findClass "java/lang/Number" = some m.cls := findClass_of_methodNamed Bd.named
  have hnm := (name_of_methodNamed Bd.named Bd.method).1
  have hlk : meth.locks = false := Bd.notSynchronized
  have hrt := Bd.returns
  have X0 : Stand p l e ({ frames := 1, cells := 0, slots := 0, locals := 12 } : Room) s m #[(.ref a1)] below meth c s₁ [] 0 0 := Stand.of_body Bd
  have e0 : s₁.heap = h0 := by rw [← hh, Bd.state]; rfl
  have N0 := Fr.nil n0
  show Done p e s below 0 0 (QN h0 n0) s₁ (entryFrame m #[(.ref a1)] 1)
  rw [ef_rm17]
  show Done p e s below _ _ _ s₁ (mkF m 0 #[.val (.ref a1)] [])
  refine Done.go (fun _ kt_ => XS.aloadN X0.here hx rfl (hb hby d17_0) rfl rfl kt_) ?_
  show Done p e s below _ _ _ s₁ (mkF m 1 #[.val (.ref a1)] [(.ref a1)])
  obtain ⟨T46, X46, e46, st46⟩ := initO X0 hx hZ hown (hw _ (List.mem_of_getElem? (i := 91) rfl)) (hw _ (List.mem_of_getElem? (i := 17) rfl)) (hw _ (List.mem_of_getElem? (i := 18) rfl)) e0 (g := (mkF m 1 #[.val (.ref a1)] [(.ref a1)])) rfl (by rw [hml]; rfl) rfl (hb hby d17_1) (by decide) (W := 0) (by show 2 * 0 + _ ≤ _; exact Nat.le_of_eq rfl) (by decide)
  refine Done.go st46 ?_
  clear st46
  show Done p e s below _ _ _ T46 (mkF m 4 #[.val (.ref a1)] [])
  refine Done.retV X46 hx hlk hrt (hb hby d17_4) ?_ (by first | decide | omega) (by first | decide | omega)
  rw [e46]
  exact ⟨rfl, N0, rfl⟩
def Q16 (Z : State) (a1 : Addr) (h0 : Heap) (n0 : Nat) (v : Option Value) (h : Heap) (L : List Loc) : Prop := v = none ∧ Fr n0 L ∧ Keep h0 h [a1] ∧ Exa Z h a1 "java/lang/Integer"
theorem d16_0 : decode jdk_33_method_23_code 0 = .ok (.aload_n 0, 1) := by decide +kernel
theorem d16_1 : decode jdk_33_method_23_code 1 = .ok (.invokespecial 202, 3) := by decide +kernel
theorem d16_4 : decode jdk_33_method_23_code 4 = .ok (.aload_n 0, 1) := by decide +kernel
theorem d16_5 : decode jdk_33_method_23_code 5 = .ok (.iload_n 1, 1) := by decide +kernel
theorem d16_6 : decode jdk_33_method_23_code 6 = .ok (.putfield 205, 3) := by decide +kernel
theorem d16_9 : decode jdk_33_method_23_code 9 = .ok (.return_, 1) := by decide +kernel
theorem own_pn5 : plainName "java/lang/Integer" = true := by first | (simp [plainName, overriddenIn]; done) | decide +kernel
theorem ef_rm16 (m : MethodId) (a1 : Addr) (p1 : Int32) : entryFrame m #[(.ref a1), (.int p1)] 2 = mkF m 0 #[.val (.ref a1), .val (.int p1)] [] := by first | (simp [entryFrame, mkF, argsToLocals, Value.category]; done) | rfl
set_option maxRecDepth 65536 in
set_option maxHeartbeats 40000000 in
theorem rm16 (l : Launch) (Z : State) (a0 : Array Value) (hw : ∀ d ∈ tables_1, d.before a0 Z = true) (ws : List Jvm.Cond) (a1 : Addr) (p1 : Int32) (h0 : Heap) (n0 : Nat) (Z0 : n0 ≤ h0.size) (E1 : Exa Z h0 a1 "java/lang/Integer") (g1 : n0 ≤ a1) (F1 : Fld Z h0 a1 "java/lang/Integer" "value" "I" (.int 0)) :
    MetFree l (⟨"java/lang/Integer", "<init>", "(I)V"⟩ : MethodName) (head1 (Jvm.Cond.code (⟨"java/lang/Integer", "<init>", "(I)V"⟩ : MethodName) jdk_33_method_23_code 2 none :: ws) ({ frames := 2, cells := 0, slots := 0, locals := 26 } : Room)) (fun a U => a = #[(.ref a1), (.int p1)] ∧ Z.Warmed39 U.vm ∧ U.heap = h0) (fun _ _ _ _ _ => True) (fun _ U o U' => ∃ vr Lr, o = .returned vr ∧ Q16 Z a1 h0 n0 vr U'.heap Lr ∧ FrameEnd U o U' Lr 0 0) := by
  refine MetFree.of_bodySF (plainFor_of_name own_pn5) hisR ?_
  intro p e s m args below meth c s₁ Bd hml0 hP hK
  obtain ⟨rfl, hZ, hh⟩ := hP
  have hx := Bd.exec
  have hby := Bd.bytes
  have hml : c.maxLocals = 2 := hml0
  have hown : s.vm.findClass "java/lang/Integer" = some m.cls := findClass_of_methodNamed Bd.named
  have hnm := (name_of_methodNamed Bd.named Bd.method).1
  have hlk : meth.locks = false := Bd.notSynchronized
  have hrt := Bd.returns
  have X0 : Stand p l e ({ frames := 2, cells := 0, slots := 0, locals := 26 } : Room) s m #[(.ref a1), (.int p1)] below meth c s₁ [] 0 0 := Stand.of_body Bd
  have e0 : s₁.heap = h0 := by rw [← hh, Bd.state]; rfl
  have N0 := Fr.nil n0
  show Done p e s below 0 0 (Q16 Z a1 h0 n0) s₁ (entryFrame m #[(.ref a1), (.int p1)] 2)
  rw [ef_rm16]
  show Done p e s below _ _ _ s₁ (mkF m 0 #[.val (.ref a1), .val (.int p1)] [])
  refine Done.go (fun _ kt_ => XS.aloadN X0.here hx rfl (hb hby d16_0) rfl rfl kt_) ?_
  show Done p e s below _ _ _ s₁ (mkF m 1 #[.val (.ref a1), .val (.int p1)] [(.ref a1)])
  obtain ⟨v47, T47, Lc47, X47, hQ47, st47⟩ := own_backV (X0.specialBack hx (y := (⟨"java/lang/Number", "<init>", "()V"⟩ : MethodName)) rfl hown (mvT hZ (hw _ (List.mem_of_getElem? (i := 85) rfl))) (mvT hZ (hw _ (List.mem_of_getElem? (i := 86) rfl))) (mvT hZ (hw _ (List.mem_of_getElem? (i := 90) rfl))) (by decide) (backOf (W := 0)  (rm17 l Z a0 hw [] a1 h0 n0 Z0) hZ (hw _ (List.mem_of_getElem? (i := 90) rfl)) (hw _ (List.mem_of_getElem? (i := 89) rfl)) (by decide) (by decide)) (g := (mkF m 1 #[.val (.ref a1), .val (.int p1)] [(.ref a1)])) rfl (by rw [hml]; rfl) (Steps.refl _) (a := a1) (argsL := []) (rest := []) (lenOf own_pd6 rfl) rfl (by show 2 * 0 + _ ≤ _; exact Nat.le_of_eq rfl) (hb hby d16_1) (fun _ _ => ⟨rfl, e0, (by first | decide | omega : 0 + 0 ≤ _), (by first | decide | omega : 0 + 0 ≤ _)⟩))
  obtain ⟨rfl, N47q, e47⟩ := hQ47
  refine Done.go st47 ?_
  clear st47
  have N47 := Fr.app N0 N47q
  clear N47q
  obtain ⟨Lh47, X47h, N47h⟩ : ∃ L, Stand p l e ({ frames := 2, cells := 0, slots := 0, locals := 26 } : Room) s m #[(.ref a1), (.int p1)] below meth c T47 L 0 0 ∧ Fr n0 L := ⟨_, X47, N47⟩
  clear X47 N47
  show Done p e s below _ _ _ T47 (mkF m 4 #[.val (.ref a1), .val (.int p1)] [])
  refine Done.go (fun _ kt_ => XS.aloadN X47h.here hx rfl (hb hby d16_4) rfl rfl kt_) ?_
  show Done p e s below _ _ _ T47 (mkF m 5 #[.val (.ref a1), .val (.int p1)] [(.ref a1)])
  refine Done.go (fun _ kt_ => XS.iloadN X47h.here hx rfl (hb hby d16_5) rfl kt_) ?_
  show Done p e s below _ _ _ T47 (mkF m 6 #[.val (.ref a1), .val (.int p1)] [(.int p1), (.ref a1)])
  obtain ⟨T48, h48, X48, e48, W48, st48⟩ := putF X47h hx hZ hown (host := "") (Or.inl (hw _ (List.mem_of_getElem? (i := 92) rfl))) Via.refl e47 F1 E1 (Or.inr ⟨(hw _ (List.mem_of_getElem? (i := 93) rfl)), rfl, hnm⟩) (hw _ (List.mem_of_getElem? (i := 80) rfl)) (ty := .int) (by decide) rfl rfl (g := (mkF m 6 #[.val (.ref a1), .val (.int p1)] [(.int p1), (.ref a1)])) rfl rfl (hb hby d16_6)
  have Fw48 : Fld Z h48 a1 "java/lang/Integer" "value" "I" (.int p1) := F1.same W48
  have N48 := Fr.snoc X48 N47h g1
  have Z48 : n0 ≤ h48.size := by rw [W48.size]; exact Z0
  have K48 : Keep h0 h48 [a1] := (Keep.refl h0 [a1]).wr W48 (Or.inl (List.mem_of_getElem? (i := 0) rfl))
  obtain ⟨Lh48, X48h, N48h⟩ : ∃ L, Stand p l e ({ frames := 2, cells := 0, slots := 0, locals := 26 } : Room) s m #[(.ref a1), (.int p1)] below meth c T48 L 0 0 ∧ Fr n0 L := ⟨_, X48, N48⟩
  clear X48 N48 X47h e47 N47h
  refine Done.go st48 ?_
  clear st48
  show Done p e s below _ _ _ T48 (mkF m 9 #[.val (.ref a1), .val (.int p1)] [])
  refine Done.retV X48h hx hlk hrt (hb hby d16_9) ?_ (by first | decide | omega) (by first | decide | omega)
  rw [e48]
  have f49 := (E1.wr W48)
  exact ⟨rfl, N48h, K48, f49⟩
def Q15 (Z : State) (h0 : Heap) (n0 : Nat) (v : Option Value) (h : Heap) (L : List Loc) : Prop := ∃ r : Addr, v = some (.ref r) ∧ Fr n0 L ∧ Keep h0 h [] ∧ Exa Z h r "java/lang/Integer"
theorem d15_0 : decode jdk_33_method_22_code 0 = .ok (.iload_n 0, 1) := by decide +kernel
theorem d15_1 : decode jdk_33_method_22_code 1 = .ok (.bipush (-128), 2) := by decide +kernel
theorem d15_3 : decode jdk_33_method_22_code 3 = .ok (.if_icmp .lt 20, 3) := by decide +kernel
theorem d15_6 : decode jdk_33_method_22_code 6 = .ok (.iload_n 0, 1) := by decide +kernel
theorem d15_7 : decode jdk_33_method_22_code 7 = .ok (.getstatic 191, 3) := by decide +kernel
theorem d15_10 : decode jdk_33_method_22_code 10 = .ok (.if_icmp .gt 13, 3) := by decide +kernel
theorem d15_13 : decode jdk_33_method_22_code 13 = .ok (.getstatic 195, 3) := by decide +kernel
theorem d15_16 : decode jdk_33_method_22_code 16 = .ok (.iload_n 0, 1) := by decide +kernel
theorem d15_17 : decode jdk_33_method_22_code 17 = .ok (.sipush 128, 3) := by decide +kernel
theorem d15_20 : decode jdk_33_method_22_code 20 = .ok (.iadd, 1) := by decide +kernel
theorem d15_21 : decode jdk_33_method_22_code 21 = .ok (.aaload, 1) := by decide +kernel
theorem d15_22 : decode jdk_33_method_22_code 22 = .ok (.areturn, 1) := by decide +kernel
theorem d15_23 : decode jdk_33_method_22_code 23 = .ok (.new 1, 3) := by decide +kernel
theorem d15_26 : decode jdk_33_method_22_code 26 = .ok (.dup, 1) := by decide +kernel
theorem d15_27 : decode jdk_33_method_22_code 27 = .ok (.iload_n 0, 1) := by decide +kernel
theorem d15_28 : decode jdk_33_method_22_code 28 = .ok (.invokespecial 199, 3) := by decide +kernel
theorem d15_31 : decode jdk_33_method_22_code 31 = .ok (.areturn, 1) := by decide +kernel
theorem ef_rm15 (m : MethodId) (p1 : Int32) : entryFrame m #[(.int p1)] 1 = mkF m 0 #[.val (.int p1)] [] := by first | (simp [entryFrame, mkF, argsToLocals, Value.category]; done) | rfl
set_option maxRecDepth 65536 in
set_option maxHeartbeats 40000000 in
theorem rm15 (l : Launch) (Z : State) (a0 : Array Value) (hw : ∀ d ∈ tables_1, d.before a0 Z = true) (ws : List Jvm.Cond) (p1 : Int32) (ac : Addr) (h0 : Heap) (n0 : Nat) (Z0 : n0 ≤ h0.size) (Sh : Sta Z h0 "java/lang/Integer$IntegerCache" "high" "I" (.int (127 : Int32))) (Sc : Sta Z h0 "java/lang/Integer$IntegerCache" "cache" "[Ljava/lang/Integer;" (.ref ac)) (Bx : own_Bx Z h0 ac) :
    MetFree l (⟨"java/lang/Integer", "valueOf", "(I)Ljava/lang/Integer;"⟩ : MethodName) (head1 (Jvm.Cond.code (⟨"java/lang/Integer", "valueOf", "(I)Ljava/lang/Integer;"⟩ : MethodName) jdk_33_method_22_code 1 (some (.object "java/lang/Integer")) :: ws) ({ frames := 3, cells := 1, slots := 1, locals := 45 } : Room)) (fun a U => a = #[(.int p1)] ∧ Z.Warmed39 U.vm ∧ U.heap = h0) (fun _ _ _ _ _ => True) (fun _ U o U' => ∃ vr Lr, o = .returned vr ∧ Q15 Z h0 n0 vr U'.heap Lr ∧ FrameEnd U o U' Lr 1 1) := by
  refine MetFree.of_bodySF (plainFor_of_name own_pn5) hisR ?_
  intro p e s m args below meth c s₁ Bd hml0 hP hK
  obtain ⟨rfl, hZ, hh⟩ := hP
  have hx := Bd.exec
  have hby := Bd.bytes
  have hml : c.maxLocals = 1 := hml0
  have hown : s.vm.findClass "java/lang/Integer" = some m.cls := findClass_of_methodNamed Bd.named
  have hnm := (name_of_methodNamed Bd.named Bd.method).1
  have hlk : meth.locks = false := Bd.notSynchronized
  have hrt := Bd.returns
  have X0 : Stand p l e ({ frames := 3, cells := 1, slots := 1, locals := 45 } : Room) s m #[(.int p1)] below meth c s₁ [] 0 0 := Stand.of_body Bd
  have e0 : s₁.heap = h0 := by rw [← hh, Bd.state]; rfl
  have N0 := Fr.nil n0
  show Done p e s below 1 1 (Q15 Z h0 n0) s₁ (entryFrame m #[(.int p1)] 1)
  rw [ef_rm15]
  show Done p e s below _ _ _ s₁ (mkF m 0 #[.val (.int p1)] [])
  refine Done.go (fun _ kt_ => XS.iloadN X0.here hx rfl (hb hby d15_0) rfl kt_) ?_
  show Done p e s below _ _ _ s₁ (mkF m 1 #[.val (.int p1)] [(.int p1)])
  refine Done.go (fun _ kt_ => XS.bipush X0.here hx rfl (hb hby d15_1) kt_) ?_
  show Done p e s below _ _ _ s₁ (mkF m 3 #[.val (.int p1)] [(.int (-128 : Int32)), (.int p1)])
  by_cases hc3 : p1 < (-128 : Int32)
  · skip
    refine Done.go (fun _ kt_ => XS.icmpYes X0.here hx rfl (pc0 := 3) (pc' := 23) rfl (hb hby d15_3) rfl (tlt hc3).1 (by decide) (by decide) kt_) ?_
    show Done p e s below _ _ _ s₁ (mkF m 23 #[.val (.int p1)] [])
    obtain ⟨T50, h50, X50, e50, E50, A50, D50, -, st50⟩ := newO X0 hx hZ hown (hw _ (List.mem_of_getElem? (i := 79) rfl)) (hw _ (List.mem_of_getElem? (i := 80) rfl)) (hw _ (List.mem_of_getElem? (i := 77) rfl)) e0 (g := (mkF m 23 #[.val (.int p1)] [])) rfl (hb hby d15_23) (by first | decide | omega) (by first | decide | omega)
    obtain ⟨b50, g50⟩ : ∃ z, z = h0.size := ⟨_, rfl⟩
    rw [← g50] at A50 D50 st50
    have gz_b50 : n0 ≤ b50 := Nat.le_trans Z0 (Nat.le_of_eq g50.symm)
    have Z50 : n0 ≤ h50.size := Nat.le_trans Z0 E50.1
    have hs_b50 : h0.size ≤ b50 := Nat.le_trans (Keep.refl h0 []).1 (Nat.le_of_eq g50.symm)
    have K50 : Keep h0 h50 [] := (Keep.refl h0 []).ext E50
    obtain ⟨Lh50, X50h, N50h⟩ : ∃ L, Stand p l e ({ frames := 3, cells := 1, slots := 1, locals := 45 } : Room) s m #[(.int p1)] below meth c T50 L 1 1 ∧ Fr n0 L := ⟨_, X50, N0⟩
    clear X50
    have F50_value : Fld Z h50 b50 "java/lang/Integer" "value" "I" (.int (0 : Int32)) := D50 (Or.inr (hw _ (List.mem_of_getElem? (i := 93) rfl))) (ty := .int) (by decide)
    refine Done.go st50 ?_
    clear st50
    show Done p e s below _ _ _ T50 (mkF m 26 #[.val (.int p1)] [(.ref b50)])
    refine Done.go (fun _ kt_ => XS.dup X50h.here hx rfl (hb hby d15_26) rfl rfl kt_) ?_
    show Done p e s below _ _ _ T50 (mkF m 27 #[.val (.int p1)] [(.ref b50), (.ref b50)])
    refine Done.go (fun _ kt_ => XS.iloadN X50h.here hx rfl (hb hby d15_27) rfl kt_) ?_
    show Done p e s below _ _ _ T50 (mkF m 28 #[.val (.int p1)] [(.int p1), (.ref b50), (.ref b50)])
    obtain ⟨v51, T51, Lc51, X51, hQ51, st51⟩ := own_backV (X50h.specialBack hx (y := (⟨"java/lang/Integer", "<init>", "(I)V"⟩ : MethodName)) rfl hown (mvT hZ (hw _ (List.mem_of_getElem? (i := 81) rfl))) (mvT hZ (hw _ (List.mem_of_getElem? (i := 82) rfl))) (mvT hZ (hw _ (List.mem_of_getElem? (i := 84) rfl))) (by decide) (backOf (W := 1)  (rm16 l Z a0 hw [] b50 p1 h50 n0 Z50 A50 gz_b50 F50_value) hZ (hw _ (List.mem_of_getElem? (i := 84) rfl)) (hw _ (List.mem_of_getElem? (i := 77) rfl)) (by decide) (by decide)) (g := (mkF m 28 #[.val (.int p1)] [(.int p1), (.ref b50), (.ref b50)])) rfl (by rw [hml]; rfl) (Steps.refl _) (a := b50) (argsL := [(.int p1)]) (rest := [(.ref b50)]) (lenOf own_pd7 rfl) rfl (by show 2 * 0 + _ ≤ _; exact Nat.le_of_eq rfl) (hb hby d15_28) (fun _ _ => ⟨rfl, e50, (by first | decide | omega : 1 + 0 ≤ _), (by first | decide | omega : 1 + 0 ≤ _)⟩))
    obtain ⟨rfl, N51q, K51k, E51k⟩ := hQ51
    refine Done.go st51 ?_
    clear st51
    have N51 := Fr.app N50h N51q
    clear N51q
    have Z51 : n0 ≤ T51.heap.size := Nat.le_trans Z50 K51k.1
    have KK51 : Keep h0 T51.heap [] := K50.trans K51k (allS (Or.inr hs_b50) all0)
    obtain ⟨Lh51, X51h, N51h⟩ : ∃ L, Stand p l e ({ frames := 3, cells := 1, slots := 1, locals := 45 } : Room) s m #[(.int p1)] below meth c T51 L 1 1 ∧ Fr n0 L := ⟨_, X51, N51⟩
    clear X51 N51 X50h e50 N50h Z50 K50
    show Done p e s below _ _ _ T51 (mkF m 31 #[.val (.int p1)] [(.ref b50)])
    refine Done.retR X51h hx hlk hrt rfl rfl (hb hby d15_31) ?_ (by first | decide | omega) (by first | decide | omega)
    exact ⟨_, rfl, N51h, KK51, E51k⟩
  · skip
    refine Done.go (fun _ kt_ => XS.icmpNo X0.here hx rfl (hb hby d15_3) rfl (flt hc3).1 kt_) ?_
    show Done p e s below _ _ _ s₁ (mkF m 6 #[.val (.int p1)] [])
    refine Done.go (fun _ kt_ => XS.iloadN X0.here hx rfl (hb hby d15_6) rfl kt_) ?_
    show Done p e s below _ _ _ s₁ (mkF m 7 #[.val (.int p1)] [(.int p1)])
    obtain ⟨T52, X52, e52, st52⟩ := getS2 X0 hx hZ hown (host := "") (Or.inl (hw _ (List.mem_of_getElem? (i := 97) rfl))) Via.refl e0 Sh (g := (mkF m 7 #[.val (.int p1)] [(.int p1)])) rfl (hb hby d15_7)
    refine Done.go st52 ?_
    clear st52
    show Done p e s below _ _ _ T52 (mkF m 10 #[.val (.int p1)] [(.int (127 : Int32)), (.int p1)])
    by_cases hc10 : (127 : Int32) < p1
    · skip
      refine Done.go (fun _ kt_ => XS.icmpYes X52.here hx rfl (pc0 := 10) (pc' := 23) rfl (hb hby d15_10) rfl (tlt hc10).2.2.1 (by decide) (by decide) kt_) ?_
      show Done p e s below _ _ _ T52 (mkF m 23 #[.val (.int p1)] [])
      obtain ⟨T53, h53, X53, e53, E53, A53, D53, -, st53⟩ := newO X52 hx hZ hown (hw _ (List.mem_of_getElem? (i := 79) rfl)) (hw _ (List.mem_of_getElem? (i := 80) rfl)) (hw _ (List.mem_of_getElem? (i := 77) rfl)) e52 (g := (mkF m 23 #[.val (.int p1)] [])) rfl (hb hby d15_23) (by first | decide | omega) (by first | decide | omega)
      obtain ⟨b53, g53⟩ : ∃ z, z = h0.size := ⟨_, rfl⟩
      rw [← g53] at A53 D53 st53
      have gz_b53 : n0 ≤ b53 := Nat.le_trans Z0 (Nat.le_of_eq g53.symm)
      have Z53 : n0 ≤ h53.size := Nat.le_trans Z0 E53.1
      have hs_b53 : h0.size ≤ b53 := Nat.le_trans (Keep.refl h0 []).1 (Nat.le_of_eq g53.symm)
      have K53 : Keep h0 h53 [] := (Keep.refl h0 []).ext E53
      obtain ⟨Lh53, X53h, N53h⟩ : ∃ L, Stand p l e ({ frames := 3, cells := 1, slots := 1, locals := 45 } : Room) s m #[(.int p1)] below meth c T53 L 1 1 ∧ Fr n0 L := ⟨_, X53, N0⟩
      clear X53 X52 e52
      have F53_value : Fld Z h53 b53 "java/lang/Integer" "value" "I" (.int (0 : Int32)) := D53 (Or.inr (hw _ (List.mem_of_getElem? (i := 93) rfl))) (ty := .int) (by decide)
      refine Done.go st53 ?_
      clear st53
      show Done p e s below _ _ _ T53 (mkF m 26 #[.val (.int p1)] [(.ref b53)])
      refine Done.go (fun _ kt_ => XS.dup X53h.here hx rfl (hb hby d15_26) rfl rfl kt_) ?_
      show Done p e s below _ _ _ T53 (mkF m 27 #[.val (.int p1)] [(.ref b53), (.ref b53)])
      refine Done.go (fun _ kt_ => XS.iloadN X53h.here hx rfl (hb hby d15_27) rfl kt_) ?_
      show Done p e s below _ _ _ T53 (mkF m 28 #[.val (.int p1)] [(.int p1), (.ref b53), (.ref b53)])
      obtain ⟨v54, T54, Lc54, X54, hQ54, st54⟩ := own_backV (X53h.specialBack hx (y := (⟨"java/lang/Integer", "<init>", "(I)V"⟩ : MethodName)) rfl hown (mvT hZ (hw _ (List.mem_of_getElem? (i := 81) rfl))) (mvT hZ (hw _ (List.mem_of_getElem? (i := 82) rfl))) (mvT hZ (hw _ (List.mem_of_getElem? (i := 84) rfl))) (by decide) (backOf (W := 1)  (rm16 l Z a0 hw [] b53 p1 h53 n0 Z53 A53 gz_b53 F53_value) hZ (hw _ (List.mem_of_getElem? (i := 84) rfl)) (hw _ (List.mem_of_getElem? (i := 77) rfl)) (by decide) (by decide)) (g := (mkF m 28 #[.val (.int p1)] [(.int p1), (.ref b53), (.ref b53)])) rfl (by rw [hml]; rfl) (Steps.refl _) (a := b53) (argsL := [(.int p1)]) (rest := [(.ref b53)]) (lenOf own_pd7 rfl) rfl (by show 2 * 0 + _ ≤ _; exact Nat.le_of_eq rfl) (hb hby d15_28) (fun _ _ => ⟨rfl, e53, (by first | decide | omega : 1 + 0 ≤ _), (by first | decide | omega : 1 + 0 ≤ _)⟩))
      obtain ⟨rfl, N54q, K54k, E54k⟩ := hQ54
      refine Done.go st54 ?_
      clear st54
      have N54 := Fr.app N53h N54q
      clear N54q
      have Z54 : n0 ≤ T54.heap.size := Nat.le_trans Z53 K54k.1
      have KK54 : Keep h0 T54.heap [] := K53.trans K54k (allS (Or.inr hs_b53) all0)
      obtain ⟨Lh54, X54h, N54h⟩ : ∃ L, Stand p l e ({ frames := 3, cells := 1, slots := 1, locals := 45 } : Room) s m #[(.int p1)] below meth c T54 L 1 1 ∧ Fr n0 L := ⟨_, X54, N54⟩
      clear X54 N54 X53h e53 N53h Z53 K53
      show Done p e s below _ _ _ T54 (mkF m 31 #[.val (.int p1)] [(.ref b53)])
      refine Done.retR X54h hx hlk hrt rfl rfl (hb hby d15_31) ?_ (by first | decide | omega) (by first | decide | omega)
      exact ⟨_, rfl, N54h, KK54, E54k⟩
    · skip
      refine Done.go (fun _ kt_ => XS.icmpNo X52.here hx rfl (hb hby d15_10) rfl (flt hc10).2.2.1 kt_) ?_
      show Done p e s below _ _ _ T52 (mkF m 13 #[.val (.int p1)] [])
      obtain ⟨T55, X55, e55, st55⟩ := getS2 X52 hx hZ hown (host := "") (Or.inl (hw _ (List.mem_of_getElem? (i := 99) rfl))) Via.refl e52 Sc (g := (mkF m 13 #[.val (.int p1)] [])) rfl (hb hby d15_13)
      refine Done.go st55 ?_
      clear st55 X52 e52
      show Done p e s below _ _ _ T55 (mkF m 16 #[.val (.int p1)] [(.ref ac)])
      refine Done.go (fun _ kt_ => XS.iloadN X55.here hx rfl (hb hby d15_16) rfl kt_) ?_
      show Done p e s below _ _ _ T55 (mkF m 17 #[.val (.int p1)] [(.int p1), (.ref ac)])
      refine Done.go (fun _ kt_ => XS.sipush X55.here hx rfl (hb hby d15_17) kt_) ?_
      show Done p e s below _ _ _ T55 (mkF m 20 #[.val (.int p1)] [(.int (128 : Int32)), (.int p1), (.ref ac)])
      refine Done.go (fun _ kt_ => XS.iadd X55.here hx rfl (hb hby d15_20) rfl kt_) ?_
      show Done p e s below _ _ _ T55 (mkF m 21 #[.val (.int p1)] [(.int (p1 + (128 : Int32))), (.ref ac)])
      obtain ⟨cB, AB, zB, jB⟩ := Bx
      have nj := own_j hc3 hc10
      rw [← zB] at nj
      obtain ⟨bq, qB, EB⟩ := jB _ nj
      refine Done.go (fun t_ kt_ => X55.aaload hx (by rw [e55]; exact AB.1) (State.isArrayOf_alike hZ.alike AB.2.1) rfl AB.2.2 nj qB (g := (mkF m 21 #[.val (.int p1)] [(.int (p1 + (128 : Int32))), (.ref ac)])) rfl rfl (hb hby d15_21) t_ kt_) ?_
      show Done p e s below _ _ _ T55 (mkF m 22 #[.val (.int p1)] [(.ref bq)])
      refine Done.retR X55 hx hlk hrt rfl rfl (hb hby d15_22) ?_ (by first | decide | omega) (by first | decide | omega)
      rw [e55]
      exact ⟨_, rfl, N0, (Keep.refl h0 []), EB⟩
def Q0 (n0 : Nat) (v : Option Value) (h : Heap) (L : List Loc) : Prop := v = some (.int 1) ∧ Fr n0 L
theorem ef_rm0 (m : MethodId) (p0 : Int32) (p1 : Int32) (p2 : Int32) (p3 : Int32) (p4 : Int32) (p5 : Int32) : entryFrame m #[(.int p0), (.int p1), (.int p2), (.int p3), (.int p4), (.int p5)] maxLocals = mkF m 0 #[.val (.int p0), .val (.int p1), .val (.int p2), .val (.int p3), .val (.int p4), .val (.int p5), .unset, .unset, .unset, .unset, .unset, .unset, .unset, .unset, .unset, .unset, .unset] [] := by first | (simp [entryFrame, mkF, argsToLocals, Value.category, maxLocals]; done) | rfl
set_option maxRecDepth 65536 in
set_option maxHeartbeats 40000000 in
theorem rm0 (l : Launch) (Z : State) (a0 : Array Value) (hw : ∀ d ∈ tables_1, d.before a0 Z = true) (ws : List Jvm.Cond) (p0 : Int32) (p1 : Int32) (p2 : Int32) (p3 : Int32) (p4 : Int32) (p5 : Int32) (ac : Addr) (h0 : Heap) (n0 : Nat) (Z0 : n0 ≤ h0.size) (Sh : Sta Z h0 "java/lang/Integer$IntegerCache" "high" "I" (.int (127 : Int32))) (Sc : Sta Z h0 "java/lang/Integer$IntegerCache" "cache" "[Ljava/lang/Integer;" (.ref ac)) (Bx : own_Bx Z h0 ac) :
    MetFree l x (head1 (Jvm.Cond.code x code maxLocals ret :: ws) room_1) (fun a U => a = #[(.int p0), (.int p1), (.int p2), (.int p3), (.int p4), (.int p5)] ∧ Z.Warmed39 U.vm ∧ U.heap = h0) (fun _ _ _ _ _ => True) (fun _ U o U' => ∃ vr Lr, o = .returned vr ∧ Q0 n0 vr U'.heap Lr ∧ ReturnedEndW U o U' Lr 24 5248) := by
  refine MetFree.of_bodySF (plainFor_of_name own_pn0) hisR ?_
  intro p e s m args below meth c s₁ Bd hml0 hP hK
  obtain ⟨rfl, hZ, hh⟩ := hP
  have hx := Bd.exec
  have hby := Bd.bytes
  have hml : c.maxLocals = 17 := hml0
  have hown : s.vm.findClass "com/example/citadel_hill/citadelhill/cell/CurrentPulseEqualsPinLaw" = some m.cls := findClass_of_methodNamed Bd.named
  have hnm := (name_of_methodNamed Bd.named Bd.method).1
  have hlk : meth.locks = false := Bd.notSynchronized
  have hrt := Bd.returns
  have X0 : Stand p l e room_1 s m #[(.int p0), (.int p1), (.int p2), (.int p3), (.int p4), (.int p5)] below meth c s₁ [] 0 0 := Stand.of_body Bd
  have e0 : s₁.heap = h0 := by rw [← hh, Bd.state]; rfl
  have N0 := Fr.nil n0
  have hS0 : Sn s s s.heap.size := Sn.start s _
  have HK0 : s.heap.size ≤ h0.size := by rw [hh]; exact Nat.le_refl _
  show DoneW p e s below 24 5248 (Q0 n0) s₁ (entryFrame m #[(.int p0), (.int p1), (.int p2), (.int p3), (.int p4), (.int p5)] maxLocals)
  rw [ef_rm0]
  show DoneW p e s below _ _ _ s₁ (mkF m 0 #[.val (.int p0), .val (.int p1), .val (.int p2), .val (.int p3), .val (.int p4), .val (.int p5), .unset, .unset, .unset, .unset, .unset, .unset, .unset, .unset, .unset, .unset, .unset] [])
  refine DoneW.go (fun _ kt_ => XS.iloadN X0.here hx rfl (hb hby at_0) rfl kt_) ?_
  show DoneW p e s below _ _ _ s₁ (mkF m 1 #[.val (.int p0), .val (.int p1), .val (.int p2), .val (.int p3), .val (.int p4), .val (.int p5), .unset, .unset, .unset, .unset, .unset, .unset, .unset, .unset, .unset, .unset, .unset] [(.int p0)])
  obtain ⟨v56, T56, Lc56, X56, hQ56, st56⟩ := own_backG (Jvm.LawKit.callS X0 hx (y := (⟨"com/example/citadel_hill/citadelhill/cell/CurrentPulseEqualsPinLaw", "key", "(I)I"⟩ : MethodName)) hown (mvT hZ (hw _ (List.mem_of_getElem? (i := 0) rfl))) (mvT hZ (hw _ (List.mem_of_getElem? (i := 1) rfl))) (mvT hZ (hw _ (List.mem_of_getElem? (i := 2) rfl))) (mvT hZ (hw _ (List.mem_of_getElem? (i := 3) rfl))) (by decide) (backOf (W := 0)  (rm1 l Z a0 hw [] p0 h0 n0 Z0) hZ (hw _ (List.mem_of_getElem? (i := 3) rfl)) (hw _ (List.mem_of_getElem? (i := 2) rfl)) (by decide) (by decide)) (g := (mkF m 1 #[.val (.int p0), .val (.int p1), .val (.int p2), .val (.int p3), .val (.int p4), .val (.int p5), .unset, .unset, .unset, .unset, .unset, .unset, .unset, .unset, .unset, .unset, .unset] [(.int p0)])) rfl (by rw [hml]; rfl) (argsL := [(.int p0)]) (rest := []) (lenOf own_pd8 rfl) rfl (by show 2 * 0 + _ ≤ _; exact Nat.le_of_eq rfl) (hb hby at_1) (fun _ _ => ⟨rfl, e0, (by first | decide | omega : 0 + 0 ≤ _), (by first | decide | omega : 0 + 0 ≤ _)⟩))
  obtain ⟨rfl, N56q, e56⟩ := hQ56
  refine DoneW.go st56 ?_
  clear st56
  have N56 := Fr.app N0 N56q
  clear N56q
  obtain ⟨Lh56, X56h, N56h⟩ : ∃ L, Stand p l e room_1 s m #[(.int p0), (.int p1), (.int p2), (.int p3), (.int p4), (.int p5)] below meth c T56 L 0 0 ∧ Fr n0 L := ⟨_, X56, N56⟩
  clear X56 N56
  show DoneW p e s below _ _ _ T56 (mkF m 4 #[.val (.int p0), .val (.int p1), .val (.int p2), .val (.int p3), .val (.int p4), .val (.int p5), .unset, .unset, .unset, .unset, .unset, .unset, .unset, .unset, .unset, .unset, .unset] [(.int (p0 &&& (7 : Int32)))])
  refine DoneW.go (fun _ kt_ => XS.istore X56h.here hx rfl (hb hby at_4) rfl (l' := #[.val (.int p0), .val (.int p1), .val (.int p2), .val (.int p3), .val (.int p4), .val (.int p5), .val (.int (p0 &&& (7 : Int32))), .unset, .unset, .unset, .unset, .unset, .unset, .unset, .unset, .unset, .unset]) rfl kt_) ?_
  show DoneW p e s below _ _ _ T56 (mkF m 6 #[.val (.int p0), .val (.int p1), .val (.int p2), .val (.int p3), .val (.int p4), .val (.int p5), .val (.int (p0 &&& (7 : Int32))), .unset, .unset, .unset, .unset, .unset, .unset, .unset, .unset, .unset, .unset] [])
  refine DoneW.go (fun _ kt_ => XS.iloadN X56h.here hx rfl (hb hby at_6) rfl kt_) ?_
  show DoneW p e s below _ _ _ T56 (mkF m 7 #[.val (.int p0), .val (.int p1), .val (.int p2), .val (.int p3), .val (.int p4), .val (.int p5), .val (.int (p0 &&& (7 : Int32))), .unset, .unset, .unset, .unset, .unset, .unset, .unset, .unset, .unset, .unset] [(.int p1)])
  obtain ⟨v57, T57, Lc57, X57, hQ57, st57⟩ := own_backG (Jvm.LawKit.callS X56h hx (y := (⟨"com/example/citadel_hill/citadelhill/cell/CurrentPulseEqualsPinLaw", "durKey", "(I)I"⟩ : MethodName)) hown (mvT hZ (hw _ (List.mem_of_getElem? (i := 4) rfl))) (mvT hZ (hw _ (List.mem_of_getElem? (i := 5) rfl))) (mvT hZ (hw _ (List.mem_of_getElem? (i := 2) rfl))) (mvT hZ (hw _ (List.mem_of_getElem? (i := 6) rfl))) (by decide) (backOf (W := 0)  (rm2 l Z a0 hw [] p1 h0 n0 Z0) hZ (hw _ (List.mem_of_getElem? (i := 6) rfl)) (hw _ (List.mem_of_getElem? (i := 2) rfl)) (by decide) (by decide)) (g := (mkF m 7 #[.val (.int p0), .val (.int p1), .val (.int p2), .val (.int p3), .val (.int p4), .val (.int p5), .val (.int (p0 &&& (7 : Int32))), .unset, .unset, .unset, .unset, .unset, .unset, .unset, .unset, .unset, .unset] [(.int p1)])) rfl (by rw [hml]; rfl) (argsL := [(.int p1)]) (rest := []) (lenOf own_pd8 rfl) rfl (by show 2 * 0 + _ ≤ _; exact Nat.le_of_eq rfl) (hb hby at_7) (fun _ _ => ⟨rfl, e56, (by first | decide | omega : 0 + 0 ≤ _), (by first | decide | omega : 0 + 0 ≤ _)⟩))
  obtain ⟨rfl, N57q, e57⟩ := hQ57
  refine DoneW.go st57 ?_
  clear st57
  have N57 := Fr.app N56h N57q
  clear N57q
  obtain ⟨Lh57, X57h, N57h⟩ : ∃ L, Stand p l e room_1 s m #[(.int p0), (.int p1), (.int p2), (.int p3), (.int p4), (.int p5)] below meth c T57 L 0 0 ∧ Fr n0 L := ⟨_, X57, N57⟩
  clear X57 N57 X56h e56 N56h
  show DoneW p e s below _ _ _ T57 (mkF m 10 #[.val (.int p0), .val (.int p1), .val (.int p2), .val (.int p3), .val (.int p4), .val (.int p5), .val (.int (p0 &&& (7 : Int32))), .unset, .unset, .unset, .unset, .unset, .unset, .unset, .unset, .unset, .unset] [(.int (own_dk p1))])
  refine DoneW.go (fun _ kt_ => XS.istore X57h.here hx rfl (hb hby at_10) rfl (l' := #[.val (.int p0), .val (.int p1), .val (.int p2), .val (.int p3), .val (.int p4), .val (.int p5), .val (.int (p0 &&& (7 : Int32))), .val (.int (own_dk p1)), .unset, .unset, .unset, .unset, .unset, .unset, .unset, .unset, .unset]) rfl kt_) ?_
  show DoneW p e s below _ _ _ T57 (mkF m 12 #[.val (.int p0), .val (.int p1), .val (.int p2), .val (.int p3), .val (.int p4), .val (.int p5), .val (.int (p0 &&& (7 : Int32))), .val (.int (own_dk p1)), .unset, .unset, .unset, .unset, .unset, .unset, .unset, .unset, .unset] [])
  refine DoneW.go (fun _ kt_ => XS.iloadN X57h.here hx rfl (hb hby at_12) rfl kt_) ?_
  show DoneW p e s below _ _ _ T57 (mkF m 13 #[.val (.int p0), .val (.int p1), .val (.int p2), .val (.int p3), .val (.int p4), .val (.int p5), .val (.int (p0 &&& (7 : Int32))), .val (.int (own_dk p1)), .unset, .unset, .unset, .unset, .unset, .unset, .unset, .unset, .unset] [(.int p2)])
  obtain ⟨v58, T58, Lc58, X58, hQ58, st58⟩ := own_backG (Jvm.LawKit.callS X57h hx (y := (⟨"com/example/citadel_hill/citadelhill/cell/CurrentPulseEqualsPinLaw", "key", "(I)I"⟩ : MethodName)) hown (mvT hZ (hw _ (List.mem_of_getElem? (i := 0) rfl))) (mvT hZ (hw _ (List.mem_of_getElem? (i := 1) rfl))) (mvT hZ (hw _ (List.mem_of_getElem? (i := 2) rfl))) (mvT hZ (hw _ (List.mem_of_getElem? (i := 3) rfl))) (by decide) (backOf (W := 0)  (rm1 l Z a0 hw [] p2 h0 n0 Z0) hZ (hw _ (List.mem_of_getElem? (i := 3) rfl)) (hw _ (List.mem_of_getElem? (i := 2) rfl)) (by decide) (by decide)) (g := (mkF m 13 #[.val (.int p0), .val (.int p1), .val (.int p2), .val (.int p3), .val (.int p4), .val (.int p5), .val (.int (p0 &&& (7 : Int32))), .val (.int (own_dk p1)), .unset, .unset, .unset, .unset, .unset, .unset, .unset, .unset, .unset] [(.int p2)])) rfl (by rw [hml]; rfl) (argsL := [(.int p2)]) (rest := []) (lenOf own_pd8 rfl) rfl (by show 2 * 0 + _ ≤ _; exact Nat.le_of_eq rfl) (hb hby at_13) (fun _ _ => ⟨rfl, e57, (by first | decide | omega : 0 + 0 ≤ _), (by first | decide | omega : 0 + 0 ≤ _)⟩))
  obtain ⟨rfl, N58q, e58⟩ := hQ58
  refine DoneW.go st58 ?_
  clear st58
  have N58 := Fr.app N57h N58q
  clear N58q
  obtain ⟨Lh58, X58h, N58h⟩ : ∃ L, Stand p l e room_1 s m #[(.int p0), (.int p1), (.int p2), (.int p3), (.int p4), (.int p5)] below meth c T58 L 0 0 ∧ Fr n0 L := ⟨_, X58, N58⟩
  clear X58 N58 X57h e57 N57h
  show DoneW p e s below _ _ _ T58 (mkF m 16 #[.val (.int p0), .val (.int p1), .val (.int p2), .val (.int p3), .val (.int p4), .val (.int p5), .val (.int (p0 &&& (7 : Int32))), .val (.int (own_dk p1)), .unset, .unset, .unset, .unset, .unset, .unset, .unset, .unset, .unset] [(.int (p2 &&& (7 : Int32)))])
  refine DoneW.go (fun _ kt_ => XS.istore X58h.here hx rfl (hb hby at_16) rfl (l' := #[.val (.int p0), .val (.int p1), .val (.int p2), .val (.int p3), .val (.int p4), .val (.int p5), .val (.int (p0 &&& (7 : Int32))), .val (.int (own_dk p1)), .val (.int (p2 &&& (7 : Int32))), .unset, .unset, .unset, .unset, .unset, .unset, .unset, .unset]) rfl kt_) ?_
  show DoneW p e s below _ _ _ T58 (mkF m 18 #[.val (.int p0), .val (.int p1), .val (.int p2), .val (.int p3), .val (.int p4), .val (.int p5), .val (.int (p0 &&& (7 : Int32))), .val (.int (own_dk p1)), .val (.int (p2 &&& (7 : Int32))), .unset, .unset, .unset, .unset, .unset, .unset, .unset, .unset] [])
  refine DoneW.go (fun _ kt_ => XS.iloadN X58h.here hx rfl (hb hby at_18) rfl kt_) ?_
  show DoneW p e s below _ _ _ T58 (mkF m 19 #[.val (.int p0), .val (.int p1), .val (.int p2), .val (.int p3), .val (.int p4), .val (.int p5), .val (.int (p0 &&& (7 : Int32))), .val (.int (own_dk p1)), .val (.int (p2 &&& (7 : Int32))), .unset, .unset, .unset, .unset, .unset, .unset, .unset, .unset] [(.int p3)])
  obtain ⟨v59, T59, Lc59, X59, hQ59, st59⟩ := own_backG (Jvm.LawKit.callS X58h hx (y := (⟨"com/example/citadel_hill/citadelhill/cell/CurrentPulseEqualsPinLaw", "key", "(I)I"⟩ : MethodName)) hown (mvT hZ (hw _ (List.mem_of_getElem? (i := 0) rfl))) (mvT hZ (hw _ (List.mem_of_getElem? (i := 1) rfl))) (mvT hZ (hw _ (List.mem_of_getElem? (i := 2) rfl))) (mvT hZ (hw _ (List.mem_of_getElem? (i := 3) rfl))) (by decide) (backOf (W := 0)  (rm1 l Z a0 hw [] p3 h0 n0 Z0) hZ (hw _ (List.mem_of_getElem? (i := 3) rfl)) (hw _ (List.mem_of_getElem? (i := 2) rfl)) (by decide) (by decide)) (g := (mkF m 19 #[.val (.int p0), .val (.int p1), .val (.int p2), .val (.int p3), .val (.int p4), .val (.int p5), .val (.int (p0 &&& (7 : Int32))), .val (.int (own_dk p1)), .val (.int (p2 &&& (7 : Int32))), .unset, .unset, .unset, .unset, .unset, .unset, .unset, .unset] [(.int p3)])) rfl (by rw [hml]; rfl) (argsL := [(.int p3)]) (rest := []) (lenOf own_pd8 rfl) rfl (by show 2 * 0 + _ ≤ _; exact Nat.le_of_eq rfl) (hb hby at_19) (fun _ _ => ⟨rfl, e58, (by first | decide | omega : 0 + 0 ≤ _), (by first | decide | omega : 0 + 0 ≤ _)⟩))
  obtain ⟨rfl, N59q, e59⟩ := hQ59
  refine DoneW.go st59 ?_
  clear st59
  have N59 := Fr.app N58h N59q
  clear N59q
  obtain ⟨Lh59, X59h, N59h⟩ : ∃ L, Stand p l e room_1 s m #[(.int p0), (.int p1), (.int p2), (.int p3), (.int p4), (.int p5)] below meth c T59 L 0 0 ∧ Fr n0 L := ⟨_, X59, N59⟩
  clear X59 N59 X58h e58 N58h
  show DoneW p e s below _ _ _ T59 (mkF m 22 #[.val (.int p0), .val (.int p1), .val (.int p2), .val (.int p3), .val (.int p4), .val (.int p5), .val (.int (p0 &&& (7 : Int32))), .val (.int (own_dk p1)), .val (.int (p2 &&& (7 : Int32))), .unset, .unset, .unset, .unset, .unset, .unset, .unset, .unset] [(.int (p3 &&& (7 : Int32)))])
  refine DoneW.go (fun _ kt_ => XS.istore X59h.here hx rfl (hb hby at_22) rfl (l' := #[.val (.int p0), .val (.int p1), .val (.int p2), .val (.int p3), .val (.int p4), .val (.int p5), .val (.int (p0 &&& (7 : Int32))), .val (.int (own_dk p1)), .val (.int (p2 &&& (7 : Int32))), .val (.int (p3 &&& (7 : Int32))), .unset, .unset, .unset, .unset, .unset, .unset, .unset]) rfl kt_) ?_
  show DoneW p e s below _ _ _ T59 (mkF m 24 #[.val (.int p0), .val (.int p1), .val (.int p2), .val (.int p3), .val (.int p4), .val (.int p5), .val (.int (p0 &&& (7 : Int32))), .val (.int (own_dk p1)), .val (.int (p2 &&& (7 : Int32))), .val (.int (p3 &&& (7 : Int32))), .unset, .unset, .unset, .unset, .unset, .unset, .unset] [])
  refine DoneW.go (fun _ kt_ => XS.iload X59h.here hx rfl (hb hby at_24) rfl kt_) ?_
  show DoneW p e s below _ _ _ T59 (mkF m 26 #[.val (.int p0), .val (.int p1), .val (.int p2), .val (.int p3), .val (.int p4), .val (.int p5), .val (.int (p0 &&& (7 : Int32))), .val (.int (own_dk p1)), .val (.int (p2 &&& (7 : Int32))), .val (.int (p3 &&& (7 : Int32))), .unset, .unset, .unset, .unset, .unset, .unset, .unset] [(.int p4)])
  obtain ⟨v60, T60, Lc60, X60, hQ60, st60⟩ := own_backG (Jvm.LawKit.callS X59h hx (y := (⟨"com/example/citadel_hill/citadelhill/cell/CurrentPulseEqualsPinLaw", "durKey", "(I)I"⟩ : MethodName)) hown (mvT hZ (hw _ (List.mem_of_getElem? (i := 4) rfl))) (mvT hZ (hw _ (List.mem_of_getElem? (i := 5) rfl))) (mvT hZ (hw _ (List.mem_of_getElem? (i := 2) rfl))) (mvT hZ (hw _ (List.mem_of_getElem? (i := 6) rfl))) (by decide) (backOf (W := 0)  (rm2 l Z a0 hw [] p4 h0 n0 Z0) hZ (hw _ (List.mem_of_getElem? (i := 6) rfl)) (hw _ (List.mem_of_getElem? (i := 2) rfl)) (by decide) (by decide)) (g := (mkF m 26 #[.val (.int p0), .val (.int p1), .val (.int p2), .val (.int p3), .val (.int p4), .val (.int p5), .val (.int (p0 &&& (7 : Int32))), .val (.int (own_dk p1)), .val (.int (p2 &&& (7 : Int32))), .val (.int (p3 &&& (7 : Int32))), .unset, .unset, .unset, .unset, .unset, .unset, .unset] [(.int p4)])) rfl (by rw [hml]; rfl) (argsL := [(.int p4)]) (rest := []) (lenOf own_pd8 rfl) rfl (by show 2 * 0 + _ ≤ _; exact Nat.le_of_eq rfl) (hb hby at_26) (fun _ _ => ⟨rfl, e59, (by first | decide | omega : 0 + 0 ≤ _), (by first | decide | omega : 0 + 0 ≤ _)⟩))
  obtain ⟨rfl, N60q, e60⟩ := hQ60
  refine DoneW.go st60 ?_
  clear st60
  have N60 := Fr.app N59h N60q
  clear N60q
  obtain ⟨Lh60, X60h, N60h⟩ : ∃ L, Stand p l e room_1 s m #[(.int p0), (.int p1), (.int p2), (.int p3), (.int p4), (.int p5)] below meth c T60 L 0 0 ∧ Fr n0 L := ⟨_, X60, N60⟩
  clear X60 N60 X59h e59 N59h
  show DoneW p e s below _ _ _ T60 (mkF m 29 #[.val (.int p0), .val (.int p1), .val (.int p2), .val (.int p3), .val (.int p4), .val (.int p5), .val (.int (p0 &&& (7 : Int32))), .val (.int (own_dk p1)), .val (.int (p2 &&& (7 : Int32))), .val (.int (p3 &&& (7 : Int32))), .unset, .unset, .unset, .unset, .unset, .unset, .unset] [(.int (own_dk p4))])
  refine DoneW.go (fun _ kt_ => XS.istore X60h.here hx rfl (hb hby at_29) rfl (l' := #[.val (.int p0), .val (.int p1), .val (.int p2), .val (.int p3), .val (.int p4), .val (.int p5), .val (.int (p0 &&& (7 : Int32))), .val (.int (own_dk p1)), .val (.int (p2 &&& (7 : Int32))), .val (.int (p3 &&& (7 : Int32))), .val (.int (own_dk p4)), .unset, .unset, .unset, .unset, .unset, .unset]) rfl kt_) ?_
  show DoneW p e s below _ _ _ T60 (mkF m 31 #[.val (.int p0), .val (.int p1), .val (.int p2), .val (.int p3), .val (.int p4), .val (.int p5), .val (.int (p0 &&& (7 : Int32))), .val (.int (own_dk p1)), .val (.int (p2 &&& (7 : Int32))), .val (.int (p3 &&& (7 : Int32))), .val (.int (own_dk p4)), .unset, .unset, .unset, .unset, .unset, .unset] [])
  refine DoneW.go (fun _ kt_ => XS.iload X60h.here hx rfl (hb hby at_31) rfl kt_) ?_
  show DoneW p e s below _ _ _ T60 (mkF m 33 #[.val (.int p0), .val (.int p1), .val (.int p2), .val (.int p3), .val (.int p4), .val (.int p5), .val (.int (p0 &&& (7 : Int32))), .val (.int (own_dk p1)), .val (.int (p2 &&& (7 : Int32))), .val (.int (p3 &&& (7 : Int32))), .val (.int (own_dk p4)), .unset, .unset, .unset, .unset, .unset, .unset] [(.int p5)])
  obtain ⟨v61, T61, Lc61, X61, hQ61, st61⟩ := own_backG (Jvm.LawKit.callS X60h hx (y := (⟨"com/example/citadel_hill/citadelhill/cell/CurrentPulseEqualsPinLaw", "key", "(I)I"⟩ : MethodName)) hown (mvT hZ (hw _ (List.mem_of_getElem? (i := 0) rfl))) (mvT hZ (hw _ (List.mem_of_getElem? (i := 1) rfl))) (mvT hZ (hw _ (List.mem_of_getElem? (i := 2) rfl))) (mvT hZ (hw _ (List.mem_of_getElem? (i := 3) rfl))) (by decide) (backOf (W := 0)  (rm1 l Z a0 hw [] p5 h0 n0 Z0) hZ (hw _ (List.mem_of_getElem? (i := 3) rfl)) (hw _ (List.mem_of_getElem? (i := 2) rfl)) (by decide) (by decide)) (g := (mkF m 33 #[.val (.int p0), .val (.int p1), .val (.int p2), .val (.int p3), .val (.int p4), .val (.int p5), .val (.int (p0 &&& (7 : Int32))), .val (.int (own_dk p1)), .val (.int (p2 &&& (7 : Int32))), .val (.int (p3 &&& (7 : Int32))), .val (.int (own_dk p4)), .unset, .unset, .unset, .unset, .unset, .unset] [(.int p5)])) rfl (by rw [hml]; rfl) (argsL := [(.int p5)]) (rest := []) (lenOf own_pd8 rfl) rfl (by show 2 * 0 + _ ≤ _; exact Nat.le_of_eq rfl) (hb hby at_33) (fun _ _ => ⟨rfl, e60, (by first | decide | omega : 0 + 0 ≤ _), (by first | decide | omega : 0 + 0 ≤ _)⟩))
  obtain ⟨rfl, N61q, e61⟩ := hQ61
  refine DoneW.go st61 ?_
  clear st61
  have N61 := Fr.app N60h N61q
  clear N61q
  obtain ⟨Lh61, X61h, N61h⟩ : ∃ L, Stand p l e room_1 s m #[(.int p0), (.int p1), (.int p2), (.int p3), (.int p4), (.int p5)] below meth c T61 L 0 0 ∧ Fr n0 L := ⟨_, X61, N61⟩
  clear X61 N61 X60h e60 N60h
  show DoneW p e s below _ _ _ T61 (mkF m 36 #[.val (.int p0), .val (.int p1), .val (.int p2), .val (.int p3), .val (.int p4), .val (.int p5), .val (.int (p0 &&& (7 : Int32))), .val (.int (own_dk p1)), .val (.int (p2 &&& (7 : Int32))), .val (.int (p3 &&& (7 : Int32))), .val (.int (own_dk p4)), .unset, .unset, .unset, .unset, .unset, .unset] [(.int (p5 &&& (7 : Int32)))])
  refine DoneW.go (fun _ kt_ => XS.istore X61h.here hx rfl (hb hby at_36) rfl (l' := #[.val (.int p0), .val (.int p1), .val (.int p2), .val (.int p3), .val (.int p4), .val (.int p5), .val (.int (p0 &&& (7 : Int32))), .val (.int (own_dk p1)), .val (.int (p2 &&& (7 : Int32))), .val (.int (p3 &&& (7 : Int32))), .val (.int (own_dk p4)), .val (.int (p5 &&& (7 : Int32))), .unset, .unset, .unset, .unset, .unset]) rfl kt_) ?_
  show DoneW p e s below _ _ _ T61 (mkF m 38 #[.val (.int p0), .val (.int p1), .val (.int p2), .val (.int p3), .val (.int p4), .val (.int p5), .val (.int (p0 &&& (7 : Int32))), .val (.int (own_dk p1)), .val (.int (p2 &&& (7 : Int32))), .val (.int (p3 &&& (7 : Int32))), .val (.int (own_dk p4)), .val (.int (p5 &&& (7 : Int32))), .unset, .unset, .unset, .unset, .unset] [])
  obtain ⟨T62, h62, X62, e62, E62, A62, D62, -, st62⟩ := newO X61h hx hZ hown (hw _ (List.mem_of_getElem? (i := 7) rfl)) (hw _ (List.mem_of_getElem? (i := 8) rfl)) (hw _ (List.mem_of_getElem? (i := 9) rfl)) e61 (g := (mkF m 38 #[.val (.int p0), .val (.int p1), .val (.int p2), .val (.int p3), .val (.int p4), .val (.int p5), .val (.int (p0 &&& (7 : Int32))), .val (.int (own_dk p1)), .val (.int (p2 &&& (7 : Int32))), .val (.int (p3 &&& (7 : Int32))), .val (.int (own_dk p4)), .val (.int (p5 &&& (7 : Int32))), .unset, .unset, .unset, .unset, .unset] [])) rfl (hb hby at_38) (by first | decide | omega) (by first | decide | omega)
  obtain ⟨b62, g62⟩ : ∃ z, z = h0.size := ⟨_, rfl⟩
  rw [← g62] at A62 D62 st62
  have gz_b62 : n0 ≤ b62 := Nat.le_trans Z0 (Nat.le_of_eq g62.symm)
  have Z62 : n0 ≤ h62.size := Nat.le_trans Z0 E62.1
  have HK62 := Nat.le_trans HK0 E62.1
  have hs_b62 : h0.size ≤ b62 := Nat.le_trans (Keep.refl h0 []).1 (Nat.le_of_eq g62.symm)
  have K62 : Keep h0 h62 [] := (Keep.refl h0 []).ext E62
  obtain ⟨Lh62, X62h, N62h⟩ : ∃ L, Stand p l e room_1 s m #[(.int p0), (.int p1), (.int p2), (.int p3), (.int p4), (.int p5)] below meth c T62 L 1 3 ∧ Fr n0 L := ⟨_, X62, N61h⟩
  clear X62 N61h X61h e61
  have F62_delay : Fld Z h62 b62 "com/example/citadel_hill/citadelhill/cell/CurrentPulse" "delay" "D" (.double (0 : UInt64)) := D62 (Or.inr (hw _ (List.mem_of_getElem? (i := 51) rfl))) (ty := .double) (by decide)
  have F62_duration : Fld Z h62 b62 "com/example/citadel_hill/citadelhill/cell/CurrentPulse" "duration" "D" (.double (0 : UInt64)) := D62 (Or.inr (hw _ (List.mem_of_getElem? (i := 53) rfl))) (ty := .double) (by decide)
  have F62_amplitude : Fld Z h62 b62 "com/example/citadel_hill/citadelhill/cell/CurrentPulse" "amplitude" "D" (.double (0 : UInt64)) := D62 (Or.inr (hw _ (List.mem_of_getElem? (i := 55) rfl))) (ty := .double) (by decide)
  refine DoneW.go st62 ?_
  clear st62
  show DoneW p e s below _ _ _ T62 (mkF m 41 #[.val (.int p0), .val (.int p1), .val (.int p2), .val (.int p3), .val (.int p4), .val (.int p5), .val (.int (p0 &&& (7 : Int32))), .val (.int (own_dk p1)), .val (.int (p2 &&& (7 : Int32))), .val (.int (p3 &&& (7 : Int32))), .val (.int (own_dk p4)), .val (.int (p5 &&& (7 : Int32))), .unset, .unset, .unset, .unset, .unset] [(.ref b62)])
  refine DoneW.go (fun _ kt_ => XS.dup X62h.here hx rfl (hb hby at_41) rfl rfl kt_) ?_
  show DoneW p e s below _ _ _ T62 (mkF m 42 #[.val (.int p0), .val (.int p1), .val (.int p2), .val (.int p3), .val (.int p4), .val (.int p5), .val (.int (p0 &&& (7 : Int32))), .val (.int (own_dk p1)), .val (.int (p2 &&& (7 : Int32))), .val (.int (p3 &&& (7 : Int32))), .val (.int (own_dk p4)), .val (.int (p5 &&& (7 : Int32))), .unset, .unset, .unset, .unset, .unset] [(.ref b62), (.ref b62)])
  refine DoneW.go (fun _ kt_ => XS.iload X62h.here hx rfl (hb hby at_42) rfl kt_) ?_
  show DoneW p e s below _ _ _ T62 (mkF m 44 #[.val (.int p0), .val (.int p1), .val (.int p2), .val (.int p3), .val (.int p4), .val (.int p5), .val (.int (p0 &&& (7 : Int32))), .val (.int (own_dk p1)), .val (.int (p2 &&& (7 : Int32))), .val (.int (p3 &&& (7 : Int32))), .val (.int (own_dk p4)), .val (.int (p5 &&& (7 : Int32))), .unset, .unset, .unset, .unset, .unset] [(.int (p0 &&& (7 : Int32))), (.ref b62), (.ref b62)])
  obtain ⟨v63, T63, Lc63, X63, hQ63, st63⟩ := own_backG (Jvm.LawKit.callS X62h hx (y := (⟨"com/example/citadel_hill/citadelhill/cell/CurrentPulseEqualsPinLaw", "num", "(I)D"⟩ : MethodName)) hown (mvT hZ (hw _ (List.mem_of_getElem? (i := 10) rfl))) (mvT hZ (hw _ (List.mem_of_getElem? (i := 11) rfl))) (mvT hZ (hw _ (List.mem_of_getElem? (i := 2) rfl))) (mvT hZ (hw _ (List.mem_of_getElem? (i := 12) rfl))) (by decide) (backOf (W := 2)  (rm3 l Z a0 hw [] (p0 &&& (7 : Int32)) h62 n0 Z62) hZ (hw _ (List.mem_of_getElem? (i := 12) rfl)) (hw _ (List.mem_of_getElem? (i := 2) rfl)) (by decide) (by decide)) (g := (mkF m 44 #[.val (.int p0), .val (.int p1), .val (.int p2), .val (.int p3), .val (.int p4), .val (.int p5), .val (.int (p0 &&& (7 : Int32))), .val (.int (own_dk p1)), .val (.int (p2 &&& (7 : Int32))), .val (.int (p3 &&& (7 : Int32))), .val (.int (own_dk p4)), .val (.int (p5 &&& (7 : Int32))), .unset, .unset, .unset, .unset, .unset] [(.int (p0 &&& (7 : Int32))), (.ref b62), (.ref b62)])) rfl (by rw [hml]; rfl) (argsL := [(.int (p0 &&& (7 : Int32)))]) (rest := [(.ref b62), (.ref b62)]) (lenOf own_pd9 rfl) rfl (by show 2 * 0 + _ ≤ _; exact Nat.le_of_eq rfl) (hb hby at_44) (fun _ _ => ⟨rfl, e62, (by first | decide | omega : 1 + 0 ≤ _), (by first | decide | omega : 3 + 0 ≤ _)⟩))
  obtain ⟨rfl, N63q, e63⟩ := hQ63
  refine DoneW.go st63 ?_
  clear st63
  have N63 := Fr.app N62h N63q
  clear N63q
  obtain ⟨Lh63, X63h, N63h⟩ : ∃ L, Stand p l e room_1 s m #[(.int p0), (.int p1), (.int p2), (.int p3), (.int p4), (.int p5)] below meth c T63 L 1 3 ∧ Fr n0 L := ⟨_, X63, N63⟩
  clear X63 N63 X62h e62 N62h
  show DoneW p e s below _ _ _ T63 (mkF m 47 #[.val (.int p0), .val (.int p1), .val (.int p2), .val (.int p3), .val (.int p4), .val (.int p5), .val (.int (p0 &&& (7 : Int32))), .val (.int (own_dk p1)), .val (.int (p2 &&& (7 : Int32))), .val (.int (p3 &&& (7 : Int32))), .val (.int (own_dk p4)), .val (.int (p5 &&& (7 : Int32))), .unset, .unset, .unset, .unset, .unset] [(.double (own_num (p0 &&& (7 : Int32)))), (.ref b62), (.ref b62)])
  refine DoneW.go (fun _ kt_ => XS.iload X63h.here hx rfl (hb hby at_47) rfl kt_) ?_
  show DoneW p e s below _ _ _ T63 (mkF m 49 #[.val (.int p0), .val (.int p1), .val (.int p2), .val (.int p3), .val (.int p4), .val (.int p5), .val (.int (p0 &&& (7 : Int32))), .val (.int (own_dk p1)), .val (.int (p2 &&& (7 : Int32))), .val (.int (p3 &&& (7 : Int32))), .val (.int (own_dk p4)), .val (.int (p5 &&& (7 : Int32))), .unset, .unset, .unset, .unset, .unset] [(.int (own_dk p1)), (.double (own_num (p0 &&& (7 : Int32)))), (.ref b62), (.ref b62)])
  obtain ⟨v64, T64, Lc64, X64, hQ64, st64⟩ := own_backG (Jvm.LawKit.callS X63h hx (y := (⟨"com/example/citadel_hill/citadelhill/cell/CurrentPulseEqualsPinLaw", "num", "(I)D"⟩ : MethodName)) hown (mvT hZ (hw _ (List.mem_of_getElem? (i := 10) rfl))) (mvT hZ (hw _ (List.mem_of_getElem? (i := 11) rfl))) (mvT hZ (hw _ (List.mem_of_getElem? (i := 2) rfl))) (mvT hZ (hw _ (List.mem_of_getElem? (i := 12) rfl))) (by decide) (backOf (W := 4)  (rm3 l Z a0 hw [] (own_dk p1) h62 n0 Z62) hZ (hw _ (List.mem_of_getElem? (i := 12) rfl)) (hw _ (List.mem_of_getElem? (i := 2) rfl)) (by decide) (by decide)) (g := (mkF m 49 #[.val (.int p0), .val (.int p1), .val (.int p2), .val (.int p3), .val (.int p4), .val (.int p5), .val (.int (p0 &&& (7 : Int32))), .val (.int (own_dk p1)), .val (.int (p2 &&& (7 : Int32))), .val (.int (p3 &&& (7 : Int32))), .val (.int (own_dk p4)), .val (.int (p5 &&& (7 : Int32))), .unset, .unset, .unset, .unset, .unset] [(.int (own_dk p1)), (.double (own_num (p0 &&& (7 : Int32)))), (.ref b62), (.ref b62)])) rfl (by rw [hml]; rfl) (argsL := [(.int (own_dk p1))]) (rest := [(.double (own_num (p0 &&& (7 : Int32)))), (.ref b62), (.ref b62)]) (lenOf own_pd9 rfl) rfl (by show 2 * 0 + _ ≤ _; exact Nat.le_of_eq rfl) (hb hby at_49) (fun _ _ => ⟨rfl, e63, (by first | decide | omega : 1 + 0 ≤ _), (by first | decide | omega : 3 + 0 ≤ _)⟩))
  obtain ⟨rfl, N64q, e64⟩ := hQ64
  refine DoneW.go st64 ?_
  clear st64
  have N64 := Fr.app N63h N64q
  clear N64q
  obtain ⟨Lh64, X64h, N64h⟩ : ∃ L, Stand p l e room_1 s m #[(.int p0), (.int p1), (.int p2), (.int p3), (.int p4), (.int p5)] below meth c T64 L 1 3 ∧ Fr n0 L := ⟨_, X64, N64⟩
  clear X64 N64 X63h e63 N63h
  show DoneW p e s below _ _ _ T64 (mkF m 52 #[.val (.int p0), .val (.int p1), .val (.int p2), .val (.int p3), .val (.int p4), .val (.int p5), .val (.int (p0 &&& (7 : Int32))), .val (.int (own_dk p1)), .val (.int (p2 &&& (7 : Int32))), .val (.int (p3 &&& (7 : Int32))), .val (.int (own_dk p4)), .val (.int (p5 &&& (7 : Int32))), .unset, .unset, .unset, .unset, .unset] [(.double (own_num (own_dk p1))), (.double (own_num (p0 &&& (7 : Int32)))), (.ref b62), (.ref b62)])
  refine DoneW.go (fun _ kt_ => XS.iload X64h.here hx rfl (hb hby at_52) rfl kt_) ?_
  show DoneW p e s below _ _ _ T64 (mkF m 54 #[.val (.int p0), .val (.int p1), .val (.int p2), .val (.int p3), .val (.int p4), .val (.int p5), .val (.int (p0 &&& (7 : Int32))), .val (.int (own_dk p1)), .val (.int (p2 &&& (7 : Int32))), .val (.int (p3 &&& (7 : Int32))), .val (.int (own_dk p4)), .val (.int (p5 &&& (7 : Int32))), .unset, .unset, .unset, .unset, .unset] [(.int (p2 &&& (7 : Int32))), (.double (own_num (own_dk p1))), (.double (own_num (p0 &&& (7 : Int32)))), (.ref b62), (.ref b62)])
  obtain ⟨v65, T65, Lc65, X65, hQ65, st65⟩ := own_backG (Jvm.LawKit.callS X64h hx (y := (⟨"com/example/citadel_hill/citadelhill/cell/CurrentPulseEqualsPinLaw", "num", "(I)D"⟩ : MethodName)) hown (mvT hZ (hw _ (List.mem_of_getElem? (i := 10) rfl))) (mvT hZ (hw _ (List.mem_of_getElem? (i := 11) rfl))) (mvT hZ (hw _ (List.mem_of_getElem? (i := 2) rfl))) (mvT hZ (hw _ (List.mem_of_getElem? (i := 12) rfl))) (by decide) (backOf (W := 6)  (rm3 l Z a0 hw [] (p2 &&& (7 : Int32)) h62 n0 Z62) hZ (hw _ (List.mem_of_getElem? (i := 12) rfl)) (hw _ (List.mem_of_getElem? (i := 2) rfl)) (by decide) (by decide)) (g := (mkF m 54 #[.val (.int p0), .val (.int p1), .val (.int p2), .val (.int p3), .val (.int p4), .val (.int p5), .val (.int (p0 &&& (7 : Int32))), .val (.int (own_dk p1)), .val (.int (p2 &&& (7 : Int32))), .val (.int (p3 &&& (7 : Int32))), .val (.int (own_dk p4)), .val (.int (p5 &&& (7 : Int32))), .unset, .unset, .unset, .unset, .unset] [(.int (p2 &&& (7 : Int32))), (.double (own_num (own_dk p1))), (.double (own_num (p0 &&& (7 : Int32)))), (.ref b62), (.ref b62)])) rfl (by rw [hml]; rfl) (argsL := [(.int (p2 &&& (7 : Int32)))]) (rest := [(.double (own_num (own_dk p1))), (.double (own_num (p0 &&& (7 : Int32)))), (.ref b62), (.ref b62)]) (lenOf own_pd9 rfl) rfl (by show 2 * 0 + _ ≤ _; exact Nat.le_of_eq rfl) (hb hby at_54) (fun _ _ => ⟨rfl, e64, (by first | decide | omega : 1 + 0 ≤ _), (by first | decide | omega : 3 + 0 ≤ _)⟩))
  obtain ⟨rfl, N65q, e65⟩ := hQ65
  refine DoneW.go st65 ?_
  clear st65
  have N65 := Fr.app N64h N65q
  clear N65q
  obtain ⟨Lh65, X65h, N65h⟩ : ∃ L, Stand p l e room_1 s m #[(.int p0), (.int p1), (.int p2), (.int p3), (.int p4), (.int p5)] below meth c T65 L 1 3 ∧ Fr n0 L := ⟨_, X65, N65⟩
  clear X65 N65 X64h e64 N64h
  show DoneW p e s below _ _ _ T65 (mkF m 57 #[.val (.int p0), .val (.int p1), .val (.int p2), .val (.int p3), .val (.int p4), .val (.int p5), .val (.int (p0 &&& (7 : Int32))), .val (.int (own_dk p1)), .val (.int (p2 &&& (7 : Int32))), .val (.int (p3 &&& (7 : Int32))), .val (.int (own_dk p4)), .val (.int (p5 &&& (7 : Int32))), .unset, .unset, .unset, .unset, .unset] [(.double (own_num (p2 &&& (7 : Int32)))), (.double (own_num (own_dk p1))), (.double (own_num (p0 &&& (7 : Int32)))), (.ref b62), (.ref b62)])
  obtain ⟨v66, T66, Lc66, bs66, X66, hQ66, hS66, hZ, hown, U66, R66, st66⟩ := own_backWR hZ hown hS0 (by rw [e65]; exact HK62) (X65h.specialBackS hx (y := (⟨"com/example/citadel_hill/citadelhill/cell/CurrentPulse", "<init>", "(DDD)V"⟩ : MethodName)) rfl hown (mvT hZ (hw _ (List.mem_of_getElem? (i := 13) rfl))) (mvT hZ (hw _ (List.mem_of_getElem? (i := 14) rfl))) (mvT hZ (hw _ (List.mem_of_getElem? (i := 15) rfl))) (by decide) (own_backOfSR (W := 1) (rm4 l Z a0 hw [] b62 (own_num (p0 &&& (7 : Int32))) (own_num (own_dk p1)) (own_num (p2 &&& (7 : Int32))) h62 n0 Z62 A62 gz_b62 F62_delay F62_duration F62_amplitude (own_nn (own_kk p0)) (own_fin (own_kk p0)) (own_nn (own_kd p1)) (own_fin (own_kd p1)) (own_nn (own_kk p2)) (own_fin (own_kk p2)) (own_ge p1)) hZ (hw _ (List.mem_of_getElem? (i := 15) rfl)) (hw _ (List.mem_of_getElem? (i := 9) rfl)) (by decide) (by decide) (fun _ _ => trivial)) (g := (mkF m 57 #[.val (.int p0), .val (.int p1), .val (.int p2), .val (.int p3), .val (.int p4), .val (.int p5), .val (.int (p0 &&& (7 : Int32))), .val (.int (own_dk p1)), .val (.int (p2 &&& (7 : Int32))), .val (.int (p3 &&& (7 : Int32))), .val (.int (own_dk p4)), .val (.int (p5 &&& (7 : Int32))), .unset, .unset, .unset, .unset, .unset] [(.double (own_num (p2 &&& (7 : Int32)))), (.double (own_num (own_dk p1))), (.double (own_num (p0 &&& (7 : Int32)))), (.ref b62), (.ref b62)])) rfl (by rw [hml]; rfl) (Steps.refl _) (a := b62) (argsL := [(.double (own_num (p0 &&& (7 : Int32)))), (.double (own_num (own_dk p1))), (.double (own_num (p2 &&& (7 : Int32))))]) (rest := [(.ref b62)]) (lenOf own_pd10 rfl) rfl (by show 2 * 0 + _ ≤ _; exact Nat.le_of_eq rfl) (hb hby at_57) (fun _ _ => ⟨rfl, e65, (by first | decide | omega : 1 + 10 ≤ _), (by first | decide | omega : 3 + 224 ≤ _)⟩))
  obtain ⟨rfl, N66q, K66k, E66k, F66a, F66b, F66c⟩ := hQ66
  refine DoneW.go st66 ?_
  clear st66
  have N66 := Fr.app N65h N66q
  clear N66q
  have HK66 := Nat.le_refl T66.heap.size
  have Z66 : n0 ≤ T66.heap.size := Nat.le_trans Z62 K66k.1
  have KK66 : Keep h0 T66.heap [] := K62.trans K66k (allS (Or.inr hs_b62) all0)
  obtain ⟨Lh66, X66h, N66h⟩ : ∃ L, Stand p l e room_1 bs66 m #[(.int p0), (.int p1), (.int p2), (.int p3), (.int p4), (.int p5)] below meth c T66 L 11 227 ∧ Fr n0 L := ⟨_, X66, N66⟩
  clear X66 N66 X65h e65 N65h Z62 K62
  show DoneW p e s below _ _ _ T66 (mkF m 60 #[.val (.int p0), .val (.int p1), .val (.int p2), .val (.int p3), .val (.int p4), .val (.int p5), .val (.int (p0 &&& (7 : Int32))), .val (.int (own_dk p1)), .val (.int (p2 &&& (7 : Int32))), .val (.int (p3 &&& (7 : Int32))), .val (.int (own_dk p4)), .val (.int (p5 &&& (7 : Int32))), .unset, .unset, .unset, .unset, .unset] [(.ref b62)])
  refine DoneW.go (fun _ kt_ => XS.astore X66h.here hx rfl (hb hby at_60) rfl rfl (l' := #[.val (.int p0), .val (.int p1), .val (.int p2), .val (.int p3), .val (.int p4), .val (.int p5), .val (.int (p0 &&& (7 : Int32))), .val (.int (own_dk p1)), .val (.int (p2 &&& (7 : Int32))), .val (.int (p3 &&& (7 : Int32))), .val (.int (own_dk p4)), .val (.int (p5 &&& (7 : Int32))), .val (.ref b62), .unset, .unset, .unset, .unset]) rfl kt_) ?_
  show DoneW p e s below _ _ _ T66 (mkF m 62 #[.val (.int p0), .val (.int p1), .val (.int p2), .val (.int p3), .val (.int p4), .val (.int p5), .val (.int (p0 &&& (7 : Int32))), .val (.int (own_dk p1)), .val (.int (p2 &&& (7 : Int32))), .val (.int (p3 &&& (7 : Int32))), .val (.int (own_dk p4)), .val (.int (p5 &&& (7 : Int32))), .val (.ref b62), .unset, .unset, .unset, .unset] [])
  refine DoneW.go (fun _ kt_ => XS.iloadN X66h.here hx rfl (hb hby at_62) rfl kt_) ?_
  show DoneW p e s below _ _ _ T66 (mkF m 63 #[.val (.int p0), .val (.int p1), .val (.int p2), .val (.int p3), .val (.int p4), .val (.int p5), .val (.int (p0 &&& (7 : Int32))), .val (.int (own_dk p1)), .val (.int (p2 &&& (7 : Int32))), .val (.int (p3 &&& (7 : Int32))), .val (.int (own_dk p4)), .val (.int (p5 &&& (7 : Int32))), .val (.ref b62), .unset, .unset, .unset, .unset] [(.int p0)])
  refine DoneW.go (fun _ kt_ => XS.bipush X66h.here hx rfl (hb hby at_63) kt_) ?_
  show DoneW p e s below _ _ _ T66 (mkF m 65 #[.val (.int p0), .val (.int p1), .val (.int p2), .val (.int p3), .val (.int p4), .val (.int p5), .val (.int (p0 &&& (7 : Int32))), .val (.int (own_dk p1)), .val (.int (p2 &&& (7 : Int32))), .val (.int (p3 &&& (7 : Int32))), .val (.int (own_dk p4)), .val (.int (p5 &&& (7 : Int32))), .val (.ref b62), .unset, .unset, .unset, .unset] [(.int (8 : Int32)), (.int p0)])
  refine DoneW.go (fun _ kt_ => XS.iushr X66h.here hx rfl (hb hby at_65) rfl kt_) ?_
  show DoneW p e s below _ _ _ T66 (mkF m 66 #[.val (.int p0), .val (.int p1), .val (.int p2), .val (.int p3), .val (.int p4), .val (.int p5), .val (.int (p0 &&& (7 : Int32))), .val (.int (own_dk p1)), .val (.int (p2 &&& (7 : Int32))), .val (.int (p3 &&& (7 : Int32))), .val (.int (own_dk p4)), .val (.int (p5 &&& (7 : Int32))), .val (.ref b62), .unset, .unset, .unset, .unset] [(.int ((p0.toUInt32 >>> ((8 : Int32) &&& 31).toUInt32).toInt32))])
  refine DoneW.go (fun _ kt_ => XS.iconst X66h.here hx rfl (hb hby at_66) kt_) ?_
  show DoneW p e s below _ _ _ T66 (mkF m 67 #[.val (.int p0), .val (.int p1), .val (.int p2), .val (.int p3), .val (.int p4), .val (.int p5), .val (.int (p0 &&& (7 : Int32))), .val (.int (own_dk p1)), .val (.int (p2 &&& (7 : Int32))), .val (.int (p3 &&& (7 : Int32))), .val (.int (own_dk p4)), .val (.int (p5 &&& (7 : Int32))), .val (.ref b62), .unset, .unset, .unset, .unset] [(.int (3 : Int32)), (.int ((p0.toUInt32 >>> ((8 : Int32) &&& 31).toUInt32).toInt32))])
  refine DoneW.go (fun _ kt_ => XS.iand X66h.here hx rfl (hb hby at_67) rfl kt_) ?_
  show DoneW p e s below _ _ _ T66 (mkF m 68 #[.val (.int p0), .val (.int p1), .val (.int p2), .val (.int p3), .val (.int p4), .val (.int p5), .val (.int (p0 &&& (7 : Int32))), .val (.int (own_dk p1)), .val (.int (p2 &&& (7 : Int32))), .val (.int (p3 &&& (7 : Int32))), .val (.int (own_dk p4)), .val (.int (p5 &&& (7 : Int32))), .val (.ref b62), .unset, .unset, .unset, .unset] [(.int (((p0.toUInt32 >>> ((8 : Int32) &&& 31).toUInt32).toInt32) &&& (3 : Int32)))])
  refine DoneW.go (fun _ kt_ => XS.istore X66h.here hx rfl (hb hby at_68) rfl (l' := #[.val (.int p0), .val (.int p1), .val (.int p2), .val (.int p3), .val (.int p4), .val (.int p5), .val (.int (p0 &&& (7 : Int32))), .val (.int (own_dk p1)), .val (.int (p2 &&& (7 : Int32))), .val (.int (p3 &&& (7 : Int32))), .val (.int (own_dk p4)), .val (.int (p5 &&& (7 : Int32))), .val (.ref b62), .val (.int (((p0.toUInt32 >>> ((8 : Int32) &&& 31).toUInt32).toInt32) &&& (3 : Int32))), .unset, .unset, .unset]) rfl kt_) ?_
  show DoneW p e s below _ _ _ T66 (mkF m 70 #[.val (.int p0), .val (.int p1), .val (.int p2), .val (.int p3), .val (.int p4), .val (.int p5), .val (.int (p0 &&& (7 : Int32))), .val (.int (own_dk p1)), .val (.int (p2 &&& (7 : Int32))), .val (.int (p3 &&& (7 : Int32))), .val (.int (own_dk p4)), .val (.int (p5 &&& (7 : Int32))), .val (.ref b62), .val (.int (((p0.toUInt32 >>> ((8 : Int32) &&& 31).toUInt32).toInt32) &&& (3 : Int32))), .unset, .unset, .unset] [])
  refine DoneW.go (fun _ kt_ => XS.aload X66h.here hx rfl (hb hby at_70) rfl rfl kt_) ?_
  show DoneW p e s below _ _ _ T66 (mkF m 72 #[.val (.int p0), .val (.int p1), .val (.int p2), .val (.int p3), .val (.int p4), .val (.int p5), .val (.int (p0 &&& (7 : Int32))), .val (.int (own_dk p1)), .val (.int (p2 &&& (7 : Int32))), .val (.int (p3 &&& (7 : Int32))), .val (.int (own_dk p4)), .val (.int (p5 &&& (7 : Int32))), .val (.ref b62), .val (.int (((p0.toUInt32 >>> ((8 : Int32) &&& 31).toUInt32).toInt32) &&& (3 : Int32))), .unset, .unset, .unset] [(.ref b62)])
  refine DoneW.go (fun _ kt_ => XS.aload X66h.here hx rfl (hb hby at_72) rfl rfl kt_) ?_
  show DoneW p e s below _ _ _ T66 (mkF m 74 #[.val (.int p0), .val (.int p1), .val (.int p2), .val (.int p3), .val (.int p4), .val (.int p5), .val (.int (p0 &&& (7 : Int32))), .val (.int (own_dk p1)), .val (.int (p2 &&& (7 : Int32))), .val (.int (p3 &&& (7 : Int32))), .val (.int (own_dk p4)), .val (.int (p5 &&& (7 : Int32))), .val (.ref b62), .val (.int (((p0.toUInt32 >>> ((8 : Int32) &&& 31).toUInt32).toInt32) &&& (3 : Int32))), .unset, .unset, .unset] [(.ref b62), (.ref b62)])
  obtain ⟨cq67, kq67, q67a, q67b, q67c⟩ := isOf hZ rfl E66k
  obtain ⟨v67, T67, Lc67, X67, hQ67, st67⟩ := own_backV (X66h.virtualBack hx (y := (⟨"com/example/citadel_hill/citadelhill/cell/CurrentPulse", "equals", "(Ljava/lang/Object;)Z"⟩ : MethodName)) (z := (⟨"com/example/citadel_hill/citadelhill/cell/CurrentPulse", "equals", "(Ljava/lang/Object;)Z"⟩ : MethodName)) hown (mvT hZ (hw _ (List.mem_of_getElem? (i := 56) rfl))) (mvT hZ (hw _ (List.mem_of_getElem? (i := 57) rfl))) (notFace_of_selects (args := #[]) (mvT hZ (hw _ (List.mem_of_getElem? (i := 59) rfl)))) (mvT hZ (hw _ (List.mem_of_getElem? (i := 59) rfl))) (mvT hZ (hw _ (List.mem_of_getElem? (i := 58) rfl))) (by decide) (backOf (W := 0)  (rm11P l Z a0 hw [] b62 b62 (own_num (p0 &&& (7 : Int32))) (own_num (own_dk p1)) (own_num (p2 &&& (7 : Int32))) (own_num (p0 &&& (7 : Int32))) (own_num (own_dk p1)) (own_num (p2 &&& (7 : Int32))) T66.heap n0 Z66 E66k F66a F66b F66c F66a F66b F66c (own_nn (own_kk p0)) (own_nn (own_kd p1)) (own_nn (own_kk p2)) (own_nn (own_kk p0)) (own_nn (own_kd p1)) (own_nn (own_kk p2))) hZ (hw _ (List.mem_of_getElem? (i := 60) rfl)) (hw _ (List.mem_of_getElem? (i := 9) rfl)) (by decide) (by decide)) q67a q67c (g := (mkF m 74 #[.val (.int p0), .val (.int p1), .val (.int p2), .val (.int p3), .val (.int p4), .val (.int p5), .val (.int (p0 &&& (7 : Int32))), .val (.int (own_dk p1)), .val (.int (p2 &&& (7 : Int32))), .val (.int (p3 &&& (7 : Int32))), .val (.int (own_dk p4)), .val (.int (p5 &&& (7 : Int32))), .val (.ref b62), .val (.int (((p0.toUInt32 >>> ((8 : Int32) &&& 31).toUInt32).toInt32) &&& (3 : Int32))), .unset, .unset, .unset] [(.ref b62), (.ref b62)])) rfl (by rw [hml]; rfl) (Steps.refl _) (argsL := [(.ref b62)]) (rest := []) (lenOf own_pd11 rfl) rfl (by show 2 * 0 + _ ≤ _; exact Nat.le_of_eq rfl) (hb hby at_74) (fun _ _ => ⟨rfl, rfl, (by first | decide | omega : 11 + 0 ≤ _), (by first | decide | omega : 227 + 0 ≤ _)⟩))
  obtain ⟨r67, rfl, N67q, e67, b67, I67⟩ := hQ67
  refine DoneW.go st67 ?_
  clear st67
  have N67 := Fr.app N66h N67q
  clear N67q
  obtain ⟨Lh67, X67h, N67h⟩ : ∃ L, Stand p l e room_1 bs66 m #[(.int p0), (.int p1), (.int p2), (.int p3), (.int p4), (.int p5)] below meth c T67 L 11 227 ∧ Fr n0 L := ⟨_, X67, N67⟩
  clear X67 N67 X66h N66h
  obtain rfl : r67 = 1 := I67.mpr ⟨rfl, rfl, rfl⟩
  show DoneW p e s below _ _ _ T67 (mkF m 77 #[.val (.int p0), .val (.int p1), .val (.int p2), .val (.int p3), .val (.int p4), .val (.int p5), .val (.int (p0 &&& (7 : Int32))), .val (.int (own_dk p1)), .val (.int (p2 &&& (7 : Int32))), .val (.int (p3 &&& (7 : Int32))), .val (.int (own_dk p4)), .val (.int (p5 &&& (7 : Int32))), .val (.ref b62), .val (.int (((p0.toUInt32 >>> ((8 : Int32) &&& 31).toUInt32).toInt32) &&& (3 : Int32))), .unset, .unset, .unset] [(.int (1 : Int32))])
  refine DoneW.go (fun _ kt_ => XS.istore X67h.here hx rfl (hb hby at_77) rfl (l' := #[.val (.int p0), .val (.int p1), .val (.int p2), .val (.int p3), .val (.int p4), .val (.int p5), .val (.int (p0 &&& (7 : Int32))), .val (.int (own_dk p1)), .val (.int (p2 &&& (7 : Int32))), .val (.int (p3 &&& (7 : Int32))), .val (.int (own_dk p4)), .val (.int (p5 &&& (7 : Int32))), .val (.ref b62), .val (.int (((p0.toUInt32 >>> ((8 : Int32) &&& 31).toUInt32).toInt32) &&& (3 : Int32))), .val (.int (1 : Int32)), .unset, .unset]) rfl kt_) ?_
  show DoneW p e s below _ _ _ T67 (mkF m 79 #[.val (.int p0), .val (.int p1), .val (.int p2), .val (.int p3), .val (.int p4), .val (.int p5), .val (.int (p0 &&& (7 : Int32))), .val (.int (own_dk p1)), .val (.int (p2 &&& (7 : Int32))), .val (.int (p3 &&& (7 : Int32))), .val (.int (own_dk p4)), .val (.int (p5 &&& (7 : Int32))), .val (.ref b62), .val (.int (((p0.toUInt32 >>> ((8 : Int32) &&& 31).toUInt32).toInt32) &&& (3 : Int32))), .val (.int (1 : Int32)), .unset, .unset] [])
  refine DoneW.go (fun _ kt_ => XS.iload X67h.here hx rfl (hb hby at_79) rfl kt_) ?_
  show DoneW p e s below _ _ _ T67 (mkF m 81 #[.val (.int p0), .val (.int p1), .val (.int p2), .val (.int p3), .val (.int p4), .val (.int p5), .val (.int (p0 &&& (7 : Int32))), .val (.int (own_dk p1)), .val (.int (p2 &&& (7 : Int32))), .val (.int (p3 &&& (7 : Int32))), .val (.int (own_dk p4)), .val (.int (p5 &&& (7 : Int32))), .val (.ref b62), .val (.int (((p0.toUInt32 >>> ((8 : Int32) &&& 31).toUInt32).toInt32) &&& (3 : Int32))), .val (.int (1 : Int32)), .unset, .unset] [(.int (((p0.toUInt32 >>> ((8 : Int32) &&& 31).toUInt32).toInt32) &&& (3 : Int32)))])
  by_cases hc81 : (((p0.toUInt32 >>> ((8 : Int32) &&& 31).toUInt32).toInt32) &&& (3 : Int32)) = (0 : Int32)
  · skip
    refine DoneW.go (fun _ kt_ => XS.ifNo X67h.here hx rfl (hb hby at_81) rfl ((if0 _ _).trans (teq hc81).2) kt_) ?_
    show DoneW p e s below _ _ _ T67 (mkF m 84 #[.val (.int p0), .val (.int p1), .val (.int p2), .val (.int p3), .val (.int p4), .val (.int p5), .val (.int (p0 &&& (7 : Int32))), .val (.int (own_dk p1)), .val (.int (p2 &&& (7 : Int32))), .val (.int (p3 &&& (7 : Int32))), .val (.int (own_dk p4)), .val (.int (p5 &&& (7 : Int32))), .val (.ref b62), .val (.int (((p0.toUInt32 >>> ((8 : Int32) &&& 31).toUInt32).toInt32) &&& (3 : Int32))), .val (.int (1 : Int32)), .unset, .unset] [])
    refine DoneW.go (fun _ kt_ => XS.iload X67h.here hx rfl (hb hby at_84) rfl kt_) ?_
    show DoneW p e s below _ _ _ T67 (mkF m 86 #[.val (.int p0), .val (.int p1), .val (.int p2), .val (.int p3), .val (.int p4), .val (.int p5), .val (.int (p0 &&& (7 : Int32))), .val (.int (own_dk p1)), .val (.int (p2 &&& (7 : Int32))), .val (.int (p3 &&& (7 : Int32))), .val (.int (own_dk p4)), .val (.int (p5 &&& (7 : Int32))), .val (.ref b62), .val (.int (((p0.toUInt32 >>> ((8 : Int32) &&& 31).toUInt32).toInt32) &&& (3 : Int32))), .val (.int (1 : Int32)), .unset, .unset] [(.int (1 : Int32))])
    refine DoneW.go (fun _ kt_ => XS.ifNo X67h.here hx rfl (hb hby at_86) rfl ((if0 _ _).trans (feq (by decide)).1) kt_) ?_
    show DoneW p e s below _ _ _ T67 (mkF m 89 #[.val (.int p0), .val (.int p1), .val (.int p2), .val (.int p3), .val (.int p4), .val (.int p5), .val (.int (p0 &&& (7 : Int32))), .val (.int (own_dk p1)), .val (.int (p2 &&& (7 : Int32))), .val (.int (p3 &&& (7 : Int32))), .val (.int (own_dk p4)), .val (.int (p5 &&& (7 : Int32))), .val (.ref b62), .val (.int (((p0.toUInt32 >>> ((8 : Int32) &&& 31).toUInt32).toInt32) &&& (3 : Int32))), .val (.int (1 : Int32)), .unset, .unset] [])
    refine DoneW.go (fun _ kt_ => XS.aload X67h.here hx rfl (hb hby at_89) rfl rfl kt_) ?_
    show DoneW p e s below _ _ _ T67 (mkF m 91 #[.val (.int p0), .val (.int p1), .val (.int p2), .val (.int p3), .val (.int p4), .val (.int p5), .val (.int (p0 &&& (7 : Int32))), .val (.int (own_dk p1)), .val (.int (p2 &&& (7 : Int32))), .val (.int (p3 &&& (7 : Int32))), .val (.int (own_dk p4)), .val (.int (p5 &&& (7 : Int32))), .val (.ref b62), .val (.int (((p0.toUInt32 >>> ((8 : Int32) &&& 31).toUInt32).toInt32) &&& (3 : Int32))), .val (.int (1 : Int32)), .unset, .unset] [(.ref b62)])
    refine DoneW.go (fun _ kt_ => XS.aconstNull X67h.here hx rfl (hb hby at_91) kt_) ?_
    show DoneW p e s below _ _ _ T67 (mkF m 92 #[.val (.int p0), .val (.int p1), .val (.int p2), .val (.int p3), .val (.int p4), .val (.int p5), .val (.int (p0 &&& (7 : Int32))), .val (.int (own_dk p1)), .val (.int (p2 &&& (7 : Int32))), .val (.int (p3 &&& (7 : Int32))), .val (.int (own_dk p4)), .val (.int (p5 &&& (7 : Int32))), .val (.ref b62), .val (.int (((p0.toUInt32 >>> ((8 : Int32) &&& 31).toUInt32).toInt32) &&& (3 : Int32))), .val (.int (1 : Int32)), .unset, .unset] [.null, (.ref b62)])
    obtain ⟨cq68, kq68, q68a, q68b, q68c⟩ := isOf hZ e67 E66k
    obtain ⟨v68, T68, Lc68, X68, hQ68, st68⟩ := own_backV (X67h.virtualBack hx (y := (⟨"com/example/citadel_hill/citadelhill/cell/CurrentPulse", "equals", "(Ljava/lang/Object;)Z"⟩ : MethodName)) (z := (⟨"com/example/citadel_hill/citadelhill/cell/CurrentPulse", "equals", "(Ljava/lang/Object;)Z"⟩ : MethodName)) hown (mvT hZ (hw _ (List.mem_of_getElem? (i := 56) rfl))) (mvT hZ (hw _ (List.mem_of_getElem? (i := 57) rfl))) (notFace_of_selects (args := #[]) (mvT hZ (hw _ (List.mem_of_getElem? (i := 59) rfl)))) (mvT hZ (hw _ (List.mem_of_getElem? (i := 59) rfl))) (mvT hZ (hw _ (List.mem_of_getElem? (i := 58) rfl))) (by decide) (backOf (W := 0)  (rm11N l Z a0 hw [] b62 T66.heap n0 Z66) hZ (hw _ (List.mem_of_getElem? (i := 60) rfl)) (hw _ (List.mem_of_getElem? (i := 9) rfl)) (by decide) (by decide)) q68a q68c (g := (mkF m 92 #[.val (.int p0), .val (.int p1), .val (.int p2), .val (.int p3), .val (.int p4), .val (.int p5), .val (.int (p0 &&& (7 : Int32))), .val (.int (own_dk p1)), .val (.int (p2 &&& (7 : Int32))), .val (.int (p3 &&& (7 : Int32))), .val (.int (own_dk p4)), .val (.int (p5 &&& (7 : Int32))), .val (.ref b62), .val (.int (((p0.toUInt32 >>> ((8 : Int32) &&& 31).toUInt32).toInt32) &&& (3 : Int32))), .val (.int (1 : Int32)), .unset, .unset] [.null, (.ref b62)])) rfl (by rw [hml]; rfl) (Steps.refl _) (argsL := [.null]) (rest := []) (lenOf own_pd11 rfl) rfl (by show 2 * 0 + _ ≤ _; exact Nat.le_of_eq rfl) (hb hby at_92) (fun _ _ => ⟨rfl, e67, (by first | decide | omega : 11 + 0 ≤ _), (by first | decide | omega : 227 + 0 ≤ _)⟩))
    obtain ⟨rfl, N68q, e68⟩ := hQ68
    refine DoneW.go st68 ?_
    clear st68
    have N68 := Fr.app N67h N68q
    clear N68q
    obtain ⟨Lh68, X68h, N68h⟩ : ∃ L, Stand p l e room_1 bs66 m #[(.int p0), (.int p1), (.int p2), (.int p3), (.int p4), (.int p5)] below meth c T68 L 11 227 ∧ Fr n0 L := ⟨_, X68, N68⟩
    clear X68 N68 X67h e67 N67h
    show DoneW p e s below _ _ _ T68 (mkF m 95 #[.val (.int p0), .val (.int p1), .val (.int p2), .val (.int p3), .val (.int p4), .val (.int p5), .val (.int (p0 &&& (7 : Int32))), .val (.int (own_dk p1)), .val (.int (p2 &&& (7 : Int32))), .val (.int (p3 &&& (7 : Int32))), .val (.int (own_dk p4)), .val (.int (p5 &&& (7 : Int32))), .val (.ref b62), .val (.int (((p0.toUInt32 >>> ((8 : Int32) &&& 31).toUInt32).toInt32) &&& (3 : Int32))), .val (.int (1 : Int32)), .unset, .unset] [(.int (0 : Int32))])
    refine DoneW.go (fun _ kt_ => XS.ifNo X68h.here hx rfl (hb hby at_95) rfl ((if0 _ _).trans (teq rfl).2) kt_) ?_
    show DoneW p e s below _ _ _ T68 (mkF m 98 #[.val (.int p0), .val (.int p1), .val (.int p2), .val (.int p3), .val (.int p4), .val (.int p5), .val (.int (p0 &&& (7 : Int32))), .val (.int (own_dk p1)), .val (.int (p2 &&& (7 : Int32))), .val (.int (p3 &&& (7 : Int32))), .val (.int (own_dk p4)), .val (.int (p5 &&& (7 : Int32))), .val (.ref b62), .val (.int (((p0.toUInt32 >>> ((8 : Int32) &&& 31).toUInt32).toInt32) &&& (3 : Int32))), .val (.int (1 : Int32)), .unset, .unset] [])
    refine DoneW.go (fun _ kt_ => XS.iconst X68h.here hx rfl (hb hby at_98) kt_) ?_
    show DoneW p e s below _ _ _ T68 (mkF m 99 #[.val (.int p0), .val (.int p1), .val (.int p2), .val (.int p3), .val (.int p4), .val (.int p5), .val (.int (p0 &&& (7 : Int32))), .val (.int (own_dk p1)), .val (.int (p2 &&& (7 : Int32))), .val (.int (p3 &&& (7 : Int32))), .val (.int (own_dk p4)), .val (.int (p5 &&& (7 : Int32))), .val (.ref b62), .val (.int (((p0.toUInt32 >>> ((8 : Int32) &&& 31).toUInt32).toInt32) &&& (3 : Int32))), .val (.int (1 : Int32)), .unset, .unset] [(.int (1 : Int32))])
    refine DoneW.go (fun _ kt_ => XS.goto X68h.here hx rfl (pc0 := 99) (pc' := 103) rfl (hb hby at_99) (by decide) (by decide) kt_) ?_
    show DoneW p e s below _ _ _ T68 (mkF m 103 #[.val (.int p0), .val (.int p1), .val (.int p2), .val (.int p3), .val (.int p4), .val (.int p5), .val (.int (p0 &&& (7 : Int32))), .val (.int (own_dk p1)), .val (.int (p2 &&& (7 : Int32))), .val (.int (p3 &&& (7 : Int32))), .val (.int (own_dk p4)), .val (.int (p5 &&& (7 : Int32))), .val (.ref b62), .val (.int (((p0.toUInt32 >>> ((8 : Int32) &&& 31).toUInt32).toInt32) &&& (3 : Int32))), .val (.int (1 : Int32)), .unset, .unset] [(.int (1 : Int32))])
    refine DoneW.retN X68h hx ⟨hlk, _, hS66, (by rw [e68]; exact HK66)⟩ (t := .boolean) hrt (by simp) (z' := (1 : Int32)) rfl (hb hby at_103) ?_ (by first | decide | omega) (by first | decide | omega)
    rw [e68]
    exact ⟨rfl, N68h⟩
  · skip
    refine DoneW.go (fun _ kt_ => XS.ifYes X67h.here hx rfl (pc0 := 81) (pc' := 104) rfl (hb hby at_81) rfl ((if0 _ _).trans (feq hc81).2) (by decide) (by decide) kt_) ?_
    show DoneW p e s below _ _ _ T67 (mkF m 104 #[.val (.int p0), .val (.int p1), .val (.int p2), .val (.int p3), .val (.int p4), .val (.int p5), .val (.int (p0 &&& (7 : Int32))), .val (.int (own_dk p1)), .val (.int (p2 &&& (7 : Int32))), .val (.int (p3 &&& (7 : Int32))), .val (.int (own_dk p4)), .val (.int (p5 &&& (7 : Int32))), .val (.ref b62), .val (.int (((p0.toUInt32 >>> ((8 : Int32) &&& 31).toUInt32).toInt32) &&& (3 : Int32))), .val (.int (1 : Int32)), .unset, .unset] [])
    refine DoneW.go (fun _ kt_ => XS.iload X67h.here hx rfl (hb hby at_104) rfl kt_) ?_
    show DoneW p e s below _ _ _ T67 (mkF m 106 #[.val (.int p0), .val (.int p1), .val (.int p2), .val (.int p3), .val (.int p4), .val (.int p5), .val (.int (p0 &&& (7 : Int32))), .val (.int (own_dk p1)), .val (.int (p2 &&& (7 : Int32))), .val (.int (p3 &&& (7 : Int32))), .val (.int (own_dk p4)), .val (.int (p5 &&& (7 : Int32))), .val (.ref b62), .val (.int (((p0.toUInt32 >>> ((8 : Int32) &&& 31).toUInt32).toInt32) &&& (3 : Int32))), .val (.int (1 : Int32)), .unset, .unset] [(.int (((p0.toUInt32 >>> ((8 : Int32) &&& 31).toUInt32).toInt32) &&& (3 : Int32)))])
    refine DoneW.go (fun _ kt_ => XS.iconst X67h.here hx rfl (hb hby at_106) kt_) ?_
    show DoneW p e s below _ _ _ T67 (mkF m 107 #[.val (.int p0), .val (.int p1), .val (.int p2), .val (.int p3), .val (.int p4), .val (.int p5), .val (.int (p0 &&& (7 : Int32))), .val (.int (own_dk p1)), .val (.int (p2 &&& (7 : Int32))), .val (.int (p3 &&& (7 : Int32))), .val (.int (own_dk p4)), .val (.int (p5 &&& (7 : Int32))), .val (.ref b62), .val (.int (((p0.toUInt32 >>> ((8 : Int32) &&& 31).toUInt32).toInt32) &&& (3 : Int32))), .val (.int (1 : Int32)), .unset, .unset] [(.int (1 : Int32)), (.int (((p0.toUInt32 >>> ((8 : Int32) &&& 31).toUInt32).toInt32) &&& (3 : Int32)))])
    by_cases hc107 : (((p0.toUInt32 >>> ((8 : Int32) &&& 31).toUInt32).toInt32) &&& (3 : Int32)) = (1 : Int32)
    · skip
      refine DoneW.go (fun _ kt_ => XS.icmpNo X67h.here hx rfl (hb hby at_107) rfl (teq hc107).2 kt_) ?_
      show DoneW p e s below _ _ _ T67 (mkF m 110 #[.val (.int p0), .val (.int p1), .val (.int p2), .val (.int p3), .val (.int p4), .val (.int p5), .val (.int (p0 &&& (7 : Int32))), .val (.int (own_dk p1)), .val (.int (p2 &&& (7 : Int32))), .val (.int (p3 &&& (7 : Int32))), .val (.int (own_dk p4)), .val (.int (p5 &&& (7 : Int32))), .val (.ref b62), .val (.int (((p0.toUInt32 >>> ((8 : Int32) &&& 31).toUInt32).toInt32) &&& (3 : Int32))), .val (.int (1 : Int32)), .unset, .unset] [])
      refine DoneW.go (fun _ kt_ => XS.iload X67h.here hx rfl (hb hby at_110) rfl kt_) ?_
      show DoneW p e s below _ _ _ T67 (mkF m 112 #[.val (.int p0), .val (.int p1), .val (.int p2), .val (.int p3), .val (.int p4), .val (.int p5), .val (.int (p0 &&& (7 : Int32))), .val (.int (own_dk p1)), .val (.int (p2 &&& (7 : Int32))), .val (.int (p3 &&& (7 : Int32))), .val (.int (own_dk p4)), .val (.int (p5 &&& (7 : Int32))), .val (.ref b62), .val (.int (((p0.toUInt32 >>> ((8 : Int32) &&& 31).toUInt32).toInt32) &&& (3 : Int32))), .val (.int (1 : Int32)), .unset, .unset] [(.int (1 : Int32))])
      refine DoneW.go (fun _ kt_ => XS.ifNo X67h.here hx rfl (hb hby at_112) rfl ((if0 _ _).trans (feq (by decide)).1) kt_) ?_
      show DoneW p e s below _ _ _ T67 (mkF m 115 #[.val (.int p0), .val (.int p1), .val (.int p2), .val (.int p3), .val (.int p4), .val (.int p5), .val (.int (p0 &&& (7 : Int32))), .val (.int (own_dk p1)), .val (.int (p2 &&& (7 : Int32))), .val (.int (p3 &&& (7 : Int32))), .val (.int (own_dk p4)), .val (.int (p5 &&& (7 : Int32))), .val (.ref b62), .val (.int (((p0.toUInt32 >>> ((8 : Int32) &&& 31).toUInt32).toInt32) &&& (3 : Int32))), .val (.int (1 : Int32)), .unset, .unset] [])
      refine DoneW.go (fun _ kt_ => XS.aload X67h.here hx rfl (hb hby at_115) rfl rfl kt_) ?_
      show DoneW p e s below _ _ _ T67 (mkF m 117 #[.val (.int p0), .val (.int p1), .val (.int p2), .val (.int p3), .val (.int p4), .val (.int p5), .val (.int (p0 &&& (7 : Int32))), .val (.int (own_dk p1)), .val (.int (p2 &&& (7 : Int32))), .val (.int (p3 &&& (7 : Int32))), .val (.int (own_dk p4)), .val (.int (p5 &&& (7 : Int32))), .val (.ref b62), .val (.int (((p0.toUInt32 >>> ((8 : Int32) &&& 31).toUInt32).toInt32) &&& (3 : Int32))), .val (.int (1 : Int32)), .unset, .unset] [(.ref b62)])
      refine DoneW.go (fun _ kt_ => XS.iloadN X67h.here hx rfl (hb hby at_117) rfl kt_) ?_
      show DoneW p e s below _ _ _ T67 (mkF m 118 #[.val (.int p0), .val (.int p1), .val (.int p2), .val (.int p3), .val (.int p4), .val (.int p5), .val (.int (p0 &&& (7 : Int32))), .val (.int (own_dk p1)), .val (.int (p2 &&& (7 : Int32))), .val (.int (p3 &&& (7 : Int32))), .val (.int (own_dk p4)), .val (.int (p5 &&& (7 : Int32))), .val (.ref b62), .val (.int (((p0.toUInt32 >>> ((8 : Int32) &&& 31).toUInt32).toInt32) &&& (3 : Int32))), .val (.int (1 : Int32)), .unset, .unset] [(.int p3), (.ref b62)])
      have Bx' := Bx.keep KK66
      have f69 := (Sta.own_keepL (Sh.ext E62) K66k (allS (own_plainE A62) all0))
      have f70 := (Sta.own_keepL (Sc.ext E62) K66k (allS (own_plainE A62) all0))
      obtain ⟨v71, T71, Lc71, X71, hQ71, st71⟩ := own_backG (Jvm.LawKit.callS X67h hx (y := (⟨"java/lang/Integer", "valueOf", "(I)Ljava/lang/Integer;"⟩ : MethodName)) hown (mvT hZ (hw _ (List.mem_of_getElem? (i := 75) rfl))) (mvT hZ (hw _ (List.mem_of_getElem? (i := 76) rfl))) (mvT hZ (hw _ (List.mem_of_getElem? (i := 77) rfl))) (mvT hZ (hw _ (List.mem_of_getElem? (i := 78) rfl))) (by decide) (backOf (W := 1)  (rm15 l Z a0 hw [] p3 ac T66.heap n0 Z66 f69 f70 Bx') hZ (hw _ (List.mem_of_getElem? (i := 78) rfl)) (hw _ (List.mem_of_getElem? (i := 77) rfl)) (by decide) (by decide)) (g := (mkF m 118 #[.val (.int p0), .val (.int p1), .val (.int p2), .val (.int p3), .val (.int p4), .val (.int p5), .val (.int (p0 &&& (7 : Int32))), .val (.int (own_dk p1)), .val (.int (p2 &&& (7 : Int32))), .val (.int (p3 &&& (7 : Int32))), .val (.int (own_dk p4)), .val (.int (p5 &&& (7 : Int32))), .val (.ref b62), .val (.int (((p0.toUInt32 >>> ((8 : Int32) &&& 31).toUInt32).toInt32) &&& (3 : Int32))), .val (.int (1 : Int32)), .unset, .unset] [(.int p3), (.ref b62)])) rfl (by rw [hml]; rfl) (argsL := [(.int p3)]) (rest := [(.ref b62)]) (lenOf own_pd12 rfl) rfl (by show 2 * 0 + _ ≤ _; exact Nat.le_of_eq rfl) (hb hby at_118) (fun _ _ => ⟨rfl, e67, (by first | decide | omega : 11 + 1 ≤ _), (by first | decide | omega : 227 + 1 ≤ _)⟩))
      obtain ⟨rv, rfl, N71q, K71k, E71k⟩ := hQ71
      refine DoneW.go st71 ?_
      clear st71
      have N71 := Fr.app N67h N71q
      clear N71q
      have HK71 := Nat.le_trans HK66 K71k.1
      have Z71 : n0 ≤ T71.heap.size := Nat.le_trans Z66 K71k.1
      have KK71 : Keep h0 T71.heap [] := KK66.trans K71k all0
      obtain ⟨Lh71, X71h, N71h⟩ : ∃ L, Stand p l e room_1 bs66 m #[(.int p0), (.int p1), (.int p2), (.int p3), (.int p4), (.int p5)] below meth c T71 L 12 228 ∧ Fr n0 L := ⟨_, X71, N71⟩
      clear X71 N71 X67h e67 N67h Z66 KK66
      show DoneW p e s below _ _ _ T71 (mkF m 121 #[.val (.int p0), .val (.int p1), .val (.int p2), .val (.int p3), .val (.int p4), .val (.int p5), .val (.int (p0 &&& (7 : Int32))), .val (.int (own_dk p1)), .val (.int (p2 &&& (7 : Int32))), .val (.int (p3 &&& (7 : Int32))), .val (.int (own_dk p4)), .val (.int (p5 &&& (7 : Int32))), .val (.ref b62), .val (.int (((p0.toUInt32 >>> ((8 : Int32) &&& 31).toUInt32).toInt32) &&& (3 : Int32))), .val (.int (1 : Int32)), .unset, .unset] [(.ref rv), (.ref b62)])
      have f73 := (E66k.keep K71k)
      obtain ⟨cq72, kq72, q72a, q72b, q72c⟩ := isOf hZ rfl f73
      obtain ⟨v72, T72, Lc72, X72, hQ72, st72⟩ := own_backV (X71h.virtualBack hx (y := (⟨"com/example/citadel_hill/citadelhill/cell/CurrentPulse", "equals", "(Ljava/lang/Object;)Z"⟩ : MethodName)) (z := (⟨"com/example/citadel_hill/citadelhill/cell/CurrentPulse", "equals", "(Ljava/lang/Object;)Z"⟩ : MethodName)) hown (mvT hZ (hw _ (List.mem_of_getElem? (i := 56) rfl))) (mvT hZ (hw _ (List.mem_of_getElem? (i := 57) rfl))) (notFace_of_selects (args := #[]) (mvT hZ (hw _ (List.mem_of_getElem? (i := 59) rfl)))) (mvT hZ (hw _ (List.mem_of_getElem? (i := 59) rfl))) (mvT hZ (hw _ (List.mem_of_getElem? (i := 58) rfl))) (by decide) (backOf (W := 0)  (rm11I l Z a0 hw [] b62 rv T71.heap n0 Z71 E71k) hZ (hw _ (List.mem_of_getElem? (i := 60) rfl)) (hw _ (List.mem_of_getElem? (i := 9) rfl)) (by decide) (by decide)) q72a q72c (g := (mkF m 121 #[.val (.int p0), .val (.int p1), .val (.int p2), .val (.int p3), .val (.int p4), .val (.int p5), .val (.int (p0 &&& (7 : Int32))), .val (.int (own_dk p1)), .val (.int (p2 &&& (7 : Int32))), .val (.int (p3 &&& (7 : Int32))), .val (.int (own_dk p4)), .val (.int (p5 &&& (7 : Int32))), .val (.ref b62), .val (.int (((p0.toUInt32 >>> ((8 : Int32) &&& 31).toUInt32).toInt32) &&& (3 : Int32))), .val (.int (1 : Int32)), .unset, .unset] [(.ref rv), (.ref b62)])) rfl (by rw [hml]; rfl) (Steps.refl _) (argsL := [(.ref rv)]) (rest := []) (lenOf own_pd11 rfl) rfl (by show 2 * 0 + _ ≤ _; exact Nat.le_of_eq rfl) (hb hby at_121) (fun _ _ => ⟨rfl, rfl, (by first | decide | omega : 12 + 0 ≤ _), (by first | decide | omega : 228 + 0 ≤ _)⟩))
      obtain ⟨rfl, N72q, e72⟩ := hQ72
      refine DoneW.go st72 ?_
      clear st72
      have N72 := Fr.app N71h N72q
      clear N72q
      obtain ⟨Lh72, X72h, N72h⟩ : ∃ L, Stand p l e room_1 bs66 m #[(.int p0), (.int p1), (.int p2), (.int p3), (.int p4), (.int p5)] below meth c T72 L 12 228 ∧ Fr n0 L := ⟨_, X72, N72⟩
      clear X72 N72 X71h N71h
      show DoneW p e s below _ _ _ T72 (mkF m 124 #[.val (.int p0), .val (.int p1), .val (.int p2), .val (.int p3), .val (.int p4), .val (.int p5), .val (.int (p0 &&& (7 : Int32))), .val (.int (own_dk p1)), .val (.int (p2 &&& (7 : Int32))), .val (.int (p3 &&& (7 : Int32))), .val (.int (own_dk p4)), .val (.int (p5 &&& (7 : Int32))), .val (.ref b62), .val (.int (((p0.toUInt32 >>> ((8 : Int32) &&& 31).toUInt32).toInt32) &&& (3 : Int32))), .val (.int (1 : Int32)), .unset, .unset] [(.int (0 : Int32))])
      refine DoneW.go (fun _ kt_ => XS.ifNo X72h.here hx rfl (hb hby at_124) rfl ((if0 _ _).trans (teq rfl).2) kt_) ?_
      show DoneW p e s below _ _ _ T72 (mkF m 127 #[.val (.int p0), .val (.int p1), .val (.int p2), .val (.int p3), .val (.int p4), .val (.int p5), .val (.int (p0 &&& (7 : Int32))), .val (.int (own_dk p1)), .val (.int (p2 &&& (7 : Int32))), .val (.int (p3 &&& (7 : Int32))), .val (.int (own_dk p4)), .val (.int (p5 &&& (7 : Int32))), .val (.ref b62), .val (.int (((p0.toUInt32 >>> ((8 : Int32) &&& 31).toUInt32).toInt32) &&& (3 : Int32))), .val (.int (1 : Int32)), .unset, .unset] [])
      refine DoneW.go (fun _ kt_ => XS.iconst X72h.here hx rfl (hb hby at_127) kt_) ?_
      show DoneW p e s below _ _ _ T72 (mkF m 128 #[.val (.int p0), .val (.int p1), .val (.int p2), .val (.int p3), .val (.int p4), .val (.int p5), .val (.int (p0 &&& (7 : Int32))), .val (.int (own_dk p1)), .val (.int (p2 &&& (7 : Int32))), .val (.int (p3 &&& (7 : Int32))), .val (.int (own_dk p4)), .val (.int (p5 &&& (7 : Int32))), .val (.ref b62), .val (.int (((p0.toUInt32 >>> ((8 : Int32) &&& 31).toUInt32).toInt32) &&& (3 : Int32))), .val (.int (1 : Int32)), .unset, .unset] [(.int (1 : Int32))])
      refine DoneW.go (fun _ kt_ => XS.goto X72h.here hx rfl (pc0 := 128) (pc' := 132) rfl (hb hby at_128) (by decide) (by decide) kt_) ?_
      show DoneW p e s below _ _ _ T72 (mkF m 132 #[.val (.int p0), .val (.int p1), .val (.int p2), .val (.int p3), .val (.int p4), .val (.int p5), .val (.int (p0 &&& (7 : Int32))), .val (.int (own_dk p1)), .val (.int (p2 &&& (7 : Int32))), .val (.int (p3 &&& (7 : Int32))), .val (.int (own_dk p4)), .val (.int (p5 &&& (7 : Int32))), .val (.ref b62), .val (.int (((p0.toUInt32 >>> ((8 : Int32) &&& 31).toUInt32).toInt32) &&& (3 : Int32))), .val (.int (1 : Int32)), .unset, .unset] [(.int (1 : Int32))])
      refine DoneW.retN X72h hx ⟨hlk, _, hS66, (by rw [e72]; exact HK71)⟩ (t := .boolean) hrt (by simp) (z' := (1 : Int32)) rfl (hb hby at_132) ?_ (by first | decide | omega) (by first | decide | omega)
      rw [e72]
      exact ⟨rfl, N72h⟩
    · skip
      refine DoneW.go (fun _ kt_ => XS.icmpYes X67h.here hx rfl (pc0 := 107) (pc' := 133) rfl (hb hby at_107) rfl (feq hc107).2 (by decide) (by decide) kt_) ?_
      show DoneW p e s below _ _ _ T67 (mkF m 133 #[.val (.int p0), .val (.int p1), .val (.int p2), .val (.int p3), .val (.int p4), .val (.int p5), .val (.int (p0 &&& (7 : Int32))), .val (.int (own_dk p1)), .val (.int (p2 &&& (7 : Int32))), .val (.int (p3 &&& (7 : Int32))), .val (.int (own_dk p4)), .val (.int (p5 &&& (7 : Int32))), .val (.ref b62), .val (.int (((p0.toUInt32 >>> ((8 : Int32) &&& 31).toUInt32).toInt32) &&& (3 : Int32))), .val (.int (1 : Int32)), .unset, .unset] [])
      obtain ⟨T74, h74, X74, e74, E74, A74, D74, -, st74⟩ := newO X67h hx hZ hown (hw _ (List.mem_of_getElem? (i := 7) rfl)) (hw _ (List.mem_of_getElem? (i := 8) rfl)) (hw _ (List.mem_of_getElem? (i := 9) rfl)) e67 (g := (mkF m 133 #[.val (.int p0), .val (.int p1), .val (.int p2), .val (.int p3), .val (.int p4), .val (.int p5), .val (.int (p0 &&& (7 : Int32))), .val (.int (own_dk p1)), .val (.int (p2 &&& (7 : Int32))), .val (.int (p3 &&& (7 : Int32))), .val (.int (own_dk p4)), .val (.int (p5 &&& (7 : Int32))), .val (.ref b62), .val (.int (((p0.toUInt32 >>> ((8 : Int32) &&& 31).toUInt32).toInt32) &&& (3 : Int32))), .val (.int (1 : Int32)), .unset, .unset] [])) rfl (hb hby at_133) (by first | decide | omega) (by first | decide | omega)
      obtain ⟨b74, g74⟩ : ∃ z, z = T66.heap.size := ⟨_, rfl⟩
      rw [← g74] at A74 D74 st74
      have ne_b62_b74 : b62 ≠ b74 := Nat.ne_of_lt (Nat.lt_of_lt_of_le E66k.lt (Nat.le_of_eq g74.symm))
      have gz_b74 : n0 ≤ b74 := Nat.le_trans Z66 (Nat.le_of_eq g74.symm)
      have Z74 : n0 ≤ h74.size := Nat.le_trans Z66 E74.1
      have HK74 := Nat.le_trans HK66 E74.1
      have hs_b74 : h0.size ≤ b74 := Nat.le_trans KK66.1 (Nat.le_of_eq g74.symm)
      have K74 : Keep h0 h74 [] := KK66.ext E74
      obtain ⟨Lh74, X74h, N74h⟩ : ∃ L, Stand p l e room_1 bs66 m #[(.int p0), (.int p1), (.int p2), (.int p3), (.int p4), (.int p5)] below meth c T74 L 12 230 ∧ Fr n0 L := ⟨_, X74, N67h⟩
      clear X74 N67h X67h e67 Z66 KK66
      have F74_delay : Fld Z h74 b74 "com/example/citadel_hill/citadelhill/cell/CurrentPulse" "delay" "D" (.double (0 : UInt64)) := D74 (Or.inr (hw _ (List.mem_of_getElem? (i := 51) rfl))) (ty := .double) (by decide)
      have F74_duration : Fld Z h74 b74 "com/example/citadel_hill/citadelhill/cell/CurrentPulse" "duration" "D" (.double (0 : UInt64)) := D74 (Or.inr (hw _ (List.mem_of_getElem? (i := 53) rfl))) (ty := .double) (by decide)
      have F74_amplitude : Fld Z h74 b74 "com/example/citadel_hill/citadelhill/cell/CurrentPulse" "amplitude" "D" (.double (0 : UInt64)) := D74 (Or.inr (hw _ (List.mem_of_getElem? (i := 55) rfl))) (ty := .double) (by decide)
      refine DoneW.go st74 ?_
      clear st74
      show DoneW p e s below _ _ _ T74 (mkF m 136 #[.val (.int p0), .val (.int p1), .val (.int p2), .val (.int p3), .val (.int p4), .val (.int p5), .val (.int (p0 &&& (7 : Int32))), .val (.int (own_dk p1)), .val (.int (p2 &&& (7 : Int32))), .val (.int (p3 &&& (7 : Int32))), .val (.int (own_dk p4)), .val (.int (p5 &&& (7 : Int32))), .val (.ref b62), .val (.int (((p0.toUInt32 >>> ((8 : Int32) &&& 31).toUInt32).toInt32) &&& (3 : Int32))), .val (.int (1 : Int32)), .unset, .unset] [(.ref b74)])
      refine DoneW.go (fun _ kt_ => XS.dup X74h.here hx rfl (hb hby at_136) rfl rfl kt_) ?_
      show DoneW p e s below _ _ _ T74 (mkF m 137 #[.val (.int p0), .val (.int p1), .val (.int p2), .val (.int p3), .val (.int p4), .val (.int p5), .val (.int (p0 &&& (7 : Int32))), .val (.int (own_dk p1)), .val (.int (p2 &&& (7 : Int32))), .val (.int (p3 &&& (7 : Int32))), .val (.int (own_dk p4)), .val (.int (p5 &&& (7 : Int32))), .val (.ref b62), .val (.int (((p0.toUInt32 >>> ((8 : Int32) &&& 31).toUInt32).toInt32) &&& (3 : Int32))), .val (.int (1 : Int32)), .unset, .unset] [(.ref b74), (.ref b74)])
      refine DoneW.go (fun _ kt_ => XS.iload X74h.here hx rfl (hb hby at_137) rfl kt_) ?_
      show DoneW p e s below _ _ _ T74 (mkF m 139 #[.val (.int p0), .val (.int p1), .val (.int p2), .val (.int p3), .val (.int p4), .val (.int p5), .val (.int (p0 &&& (7 : Int32))), .val (.int (own_dk p1)), .val (.int (p2 &&& (7 : Int32))), .val (.int (p3 &&& (7 : Int32))), .val (.int (own_dk p4)), .val (.int (p5 &&& (7 : Int32))), .val (.ref b62), .val (.int (((p0.toUInt32 >>> ((8 : Int32) &&& 31).toUInt32).toInt32) &&& (3 : Int32))), .val (.int (1 : Int32)), .unset, .unset] [(.int (p3 &&& (7 : Int32))), (.ref b74), (.ref b74)])
      obtain ⟨v75, T75, Lc75, X75, hQ75, st75⟩ := own_backG (Jvm.LawKit.callS X74h hx (y := (⟨"com/example/citadel_hill/citadelhill/cell/CurrentPulseEqualsPinLaw", "num", "(I)D"⟩ : MethodName)) hown (mvT hZ (hw _ (List.mem_of_getElem? (i := 10) rfl))) (mvT hZ (hw _ (List.mem_of_getElem? (i := 11) rfl))) (mvT hZ (hw _ (List.mem_of_getElem? (i := 2) rfl))) (mvT hZ (hw _ (List.mem_of_getElem? (i := 12) rfl))) (by decide) (backOf (W := 2)  (rm3 l Z a0 hw [] (p3 &&& (7 : Int32)) h74 n0 Z74) hZ (hw _ (List.mem_of_getElem? (i := 12) rfl)) (hw _ (List.mem_of_getElem? (i := 2) rfl)) (by decide) (by decide)) (g := (mkF m 139 #[.val (.int p0), .val (.int p1), .val (.int p2), .val (.int p3), .val (.int p4), .val (.int p5), .val (.int (p0 &&& (7 : Int32))), .val (.int (own_dk p1)), .val (.int (p2 &&& (7 : Int32))), .val (.int (p3 &&& (7 : Int32))), .val (.int (own_dk p4)), .val (.int (p5 &&& (7 : Int32))), .val (.ref b62), .val (.int (((p0.toUInt32 >>> ((8 : Int32) &&& 31).toUInt32).toInt32) &&& (3 : Int32))), .val (.int (1 : Int32)), .unset, .unset] [(.int (p3 &&& (7 : Int32))), (.ref b74), (.ref b74)])) rfl (by rw [hml]; rfl) (argsL := [(.int (p3 &&& (7 : Int32)))]) (rest := [(.ref b74), (.ref b74)]) (lenOf own_pd9 rfl) rfl (by show 2 * 0 + _ ≤ _; exact Nat.le_of_eq rfl) (hb hby at_139) (fun _ _ => ⟨rfl, e74, (by first | decide | omega : 12 + 0 ≤ _), (by first | decide | omega : 230 + 0 ≤ _)⟩))
      obtain ⟨rfl, N75q, e75⟩ := hQ75
      refine DoneW.go st75 ?_
      clear st75
      have N75 := Fr.app N74h N75q
      clear N75q
      obtain ⟨Lh75, X75h, N75h⟩ : ∃ L, Stand p l e room_1 bs66 m #[(.int p0), (.int p1), (.int p2), (.int p3), (.int p4), (.int p5)] below meth c T75 L 12 230 ∧ Fr n0 L := ⟨_, X75, N75⟩
      clear X75 N75 X74h e74 N74h
      show DoneW p e s below _ _ _ T75 (mkF m 142 #[.val (.int p0), .val (.int p1), .val (.int p2), .val (.int p3), .val (.int p4), .val (.int p5), .val (.int (p0 &&& (7 : Int32))), .val (.int (own_dk p1)), .val (.int (p2 &&& (7 : Int32))), .val (.int (p3 &&& (7 : Int32))), .val (.int (own_dk p4)), .val (.int (p5 &&& (7 : Int32))), .val (.ref b62), .val (.int (((p0.toUInt32 >>> ((8 : Int32) &&& 31).toUInt32).toInt32) &&& (3 : Int32))), .val (.int (1 : Int32)), .unset, .unset] [(.double (own_num (p3 &&& (7 : Int32)))), (.ref b74), (.ref b74)])
      refine DoneW.go (fun _ kt_ => XS.iload X75h.here hx rfl (hb hby at_142) rfl kt_) ?_
      show DoneW p e s below _ _ _ T75 (mkF m 144 #[.val (.int p0), .val (.int p1), .val (.int p2), .val (.int p3), .val (.int p4), .val (.int p5), .val (.int (p0 &&& (7 : Int32))), .val (.int (own_dk p1)), .val (.int (p2 &&& (7 : Int32))), .val (.int (p3 &&& (7 : Int32))), .val (.int (own_dk p4)), .val (.int (p5 &&& (7 : Int32))), .val (.ref b62), .val (.int (((p0.toUInt32 >>> ((8 : Int32) &&& 31).toUInt32).toInt32) &&& (3 : Int32))), .val (.int (1 : Int32)), .unset, .unset] [(.int (own_dk p4)), (.double (own_num (p3 &&& (7 : Int32)))), (.ref b74), (.ref b74)])
      obtain ⟨v76, T76, Lc76, X76, hQ76, st76⟩ := own_backG (Jvm.LawKit.callS X75h hx (y := (⟨"com/example/citadel_hill/citadelhill/cell/CurrentPulseEqualsPinLaw", "num", "(I)D"⟩ : MethodName)) hown (mvT hZ (hw _ (List.mem_of_getElem? (i := 10) rfl))) (mvT hZ (hw _ (List.mem_of_getElem? (i := 11) rfl))) (mvT hZ (hw _ (List.mem_of_getElem? (i := 2) rfl))) (mvT hZ (hw _ (List.mem_of_getElem? (i := 12) rfl))) (by decide) (backOf (W := 4)  (rm3 l Z a0 hw [] (own_dk p4) h74 n0 Z74) hZ (hw _ (List.mem_of_getElem? (i := 12) rfl)) (hw _ (List.mem_of_getElem? (i := 2) rfl)) (by decide) (by decide)) (g := (mkF m 144 #[.val (.int p0), .val (.int p1), .val (.int p2), .val (.int p3), .val (.int p4), .val (.int p5), .val (.int (p0 &&& (7 : Int32))), .val (.int (own_dk p1)), .val (.int (p2 &&& (7 : Int32))), .val (.int (p3 &&& (7 : Int32))), .val (.int (own_dk p4)), .val (.int (p5 &&& (7 : Int32))), .val (.ref b62), .val (.int (((p0.toUInt32 >>> ((8 : Int32) &&& 31).toUInt32).toInt32) &&& (3 : Int32))), .val (.int (1 : Int32)), .unset, .unset] [(.int (own_dk p4)), (.double (own_num (p3 &&& (7 : Int32)))), (.ref b74), (.ref b74)])) rfl (by rw [hml]; rfl) (argsL := [(.int (own_dk p4))]) (rest := [(.double (own_num (p3 &&& (7 : Int32)))), (.ref b74), (.ref b74)]) (lenOf own_pd9 rfl) rfl (by show 2 * 0 + _ ≤ _; exact Nat.le_of_eq rfl) (hb hby at_144) (fun _ _ => ⟨rfl, e75, (by first | decide | omega : 12 + 0 ≤ _), (by first | decide | omega : 230 + 0 ≤ _)⟩))
      obtain ⟨rfl, N76q, e76⟩ := hQ76
      refine DoneW.go st76 ?_
      clear st76
      have N76 := Fr.app N75h N76q
      clear N76q
      obtain ⟨Lh76, X76h, N76h⟩ : ∃ L, Stand p l e room_1 bs66 m #[(.int p0), (.int p1), (.int p2), (.int p3), (.int p4), (.int p5)] below meth c T76 L 12 230 ∧ Fr n0 L := ⟨_, X76, N76⟩
      clear X76 N76 X75h e75 N75h
      show DoneW p e s below _ _ _ T76 (mkF m 147 #[.val (.int p0), .val (.int p1), .val (.int p2), .val (.int p3), .val (.int p4), .val (.int p5), .val (.int (p0 &&& (7 : Int32))), .val (.int (own_dk p1)), .val (.int (p2 &&& (7 : Int32))), .val (.int (p3 &&& (7 : Int32))), .val (.int (own_dk p4)), .val (.int (p5 &&& (7 : Int32))), .val (.ref b62), .val (.int (((p0.toUInt32 >>> ((8 : Int32) &&& 31).toUInt32).toInt32) &&& (3 : Int32))), .val (.int (1 : Int32)), .unset, .unset] [(.double (own_num (own_dk p4))), (.double (own_num (p3 &&& (7 : Int32)))), (.ref b74), (.ref b74)])
      refine DoneW.go (fun _ kt_ => XS.iload X76h.here hx rfl (hb hby at_147) rfl kt_) ?_
      show DoneW p e s below _ _ _ T76 (mkF m 149 #[.val (.int p0), .val (.int p1), .val (.int p2), .val (.int p3), .val (.int p4), .val (.int p5), .val (.int (p0 &&& (7 : Int32))), .val (.int (own_dk p1)), .val (.int (p2 &&& (7 : Int32))), .val (.int (p3 &&& (7 : Int32))), .val (.int (own_dk p4)), .val (.int (p5 &&& (7 : Int32))), .val (.ref b62), .val (.int (((p0.toUInt32 >>> ((8 : Int32) &&& 31).toUInt32).toInt32) &&& (3 : Int32))), .val (.int (1 : Int32)), .unset, .unset] [(.int (p5 &&& (7 : Int32))), (.double (own_num (own_dk p4))), (.double (own_num (p3 &&& (7 : Int32)))), (.ref b74), (.ref b74)])
      obtain ⟨v77, T77, Lc77, X77, hQ77, st77⟩ := own_backG (Jvm.LawKit.callS X76h hx (y := (⟨"com/example/citadel_hill/citadelhill/cell/CurrentPulseEqualsPinLaw", "num", "(I)D"⟩ : MethodName)) hown (mvT hZ (hw _ (List.mem_of_getElem? (i := 10) rfl))) (mvT hZ (hw _ (List.mem_of_getElem? (i := 11) rfl))) (mvT hZ (hw _ (List.mem_of_getElem? (i := 2) rfl))) (mvT hZ (hw _ (List.mem_of_getElem? (i := 12) rfl))) (by decide) (backOf (W := 6)  (rm3 l Z a0 hw [] (p5 &&& (7 : Int32)) h74 n0 Z74) hZ (hw _ (List.mem_of_getElem? (i := 12) rfl)) (hw _ (List.mem_of_getElem? (i := 2) rfl)) (by decide) (by decide)) (g := (mkF m 149 #[.val (.int p0), .val (.int p1), .val (.int p2), .val (.int p3), .val (.int p4), .val (.int p5), .val (.int (p0 &&& (7 : Int32))), .val (.int (own_dk p1)), .val (.int (p2 &&& (7 : Int32))), .val (.int (p3 &&& (7 : Int32))), .val (.int (own_dk p4)), .val (.int (p5 &&& (7 : Int32))), .val (.ref b62), .val (.int (((p0.toUInt32 >>> ((8 : Int32) &&& 31).toUInt32).toInt32) &&& (3 : Int32))), .val (.int (1 : Int32)), .unset, .unset] [(.int (p5 &&& (7 : Int32))), (.double (own_num (own_dk p4))), (.double (own_num (p3 &&& (7 : Int32)))), (.ref b74), (.ref b74)])) rfl (by rw [hml]; rfl) (argsL := [(.int (p5 &&& (7 : Int32)))]) (rest := [(.double (own_num (own_dk p4))), (.double (own_num (p3 &&& (7 : Int32)))), (.ref b74), (.ref b74)]) (lenOf own_pd9 rfl) rfl (by show 2 * 0 + _ ≤ _; exact Nat.le_of_eq rfl) (hb hby at_149) (fun _ _ => ⟨rfl, e76, (by first | decide | omega : 12 + 0 ≤ _), (by first | decide | omega : 230 + 0 ≤ _)⟩))
      obtain ⟨rfl, N77q, e77⟩ := hQ77
      refine DoneW.go st77 ?_
      clear st77
      have N77 := Fr.app N76h N77q
      clear N77q
      obtain ⟨Lh77, X77h, N77h⟩ : ∃ L, Stand p l e room_1 bs66 m #[(.int p0), (.int p1), (.int p2), (.int p3), (.int p4), (.int p5)] below meth c T77 L 12 230 ∧ Fr n0 L := ⟨_, X77, N77⟩
      clear X77 N77 X76h e76 N76h
      show DoneW p e s below _ _ _ T77 (mkF m 152 #[.val (.int p0), .val (.int p1), .val (.int p2), .val (.int p3), .val (.int p4), .val (.int p5), .val (.int (p0 &&& (7 : Int32))), .val (.int (own_dk p1)), .val (.int (p2 &&& (7 : Int32))), .val (.int (p3 &&& (7 : Int32))), .val (.int (own_dk p4)), .val (.int (p5 &&& (7 : Int32))), .val (.ref b62), .val (.int (((p0.toUInt32 >>> ((8 : Int32) &&& 31).toUInt32).toInt32) &&& (3 : Int32))), .val (.int (1 : Int32)), .unset, .unset] [(.double (own_num (p5 &&& (7 : Int32)))), (.double (own_num (own_dk p4))), (.double (own_num (p3 &&& (7 : Int32)))), (.ref b74), (.ref b74)])
      obtain ⟨v78, T78, Lc78, bs78, X78, hQ78, hS78, hZ, hown, U78, R78, st78⟩ := own_backWR hZ hown hS66 (by rw [e77]; exact HK74) (X77h.specialBackS hx (y := (⟨"com/example/citadel_hill/citadelhill/cell/CurrentPulse", "<init>", "(DDD)V"⟩ : MethodName)) rfl hown (mvT hZ (hw _ (List.mem_of_getElem? (i := 13) rfl))) (mvT hZ (hw _ (List.mem_of_getElem? (i := 14) rfl))) (mvT hZ (hw _ (List.mem_of_getElem? (i := 15) rfl))) (by decide) (own_backOfSR (W := 1) (rm4 l Z a0 hw [] b74 (own_num (p3 &&& (7 : Int32))) (own_num (own_dk p4)) (own_num (p5 &&& (7 : Int32))) h74 n0 Z74 A74 gz_b74 F74_delay F74_duration F74_amplitude (own_nn (own_kk p3)) (own_fin (own_kk p3)) (own_nn (own_kd p4)) (own_fin (own_kd p4)) (own_nn (own_kk p5)) (own_fin (own_kk p5)) (own_ge p4)) hZ (hw _ (List.mem_of_getElem? (i := 15) rfl)) (hw _ (List.mem_of_getElem? (i := 9) rfl)) (by decide) (by decide) (fun _ _ => trivial)) (g := (mkF m 152 #[.val (.int p0), .val (.int p1), .val (.int p2), .val (.int p3), .val (.int p4), .val (.int p5), .val (.int (p0 &&& (7 : Int32))), .val (.int (own_dk p1)), .val (.int (p2 &&& (7 : Int32))), .val (.int (p3 &&& (7 : Int32))), .val (.int (own_dk p4)), .val (.int (p5 &&& (7 : Int32))), .val (.ref b62), .val (.int (((p0.toUInt32 >>> ((8 : Int32) &&& 31).toUInt32).toInt32) &&& (3 : Int32))), .val (.int (1 : Int32)), .unset, .unset] [(.double (own_num (p5 &&& (7 : Int32)))), (.double (own_num (own_dk p4))), (.double (own_num (p3 &&& (7 : Int32)))), (.ref b74), (.ref b74)])) rfl (by rw [hml]; rfl) (Steps.refl _) (a := b74) (argsL := [(.double (own_num (p3 &&& (7 : Int32)))), (.double (own_num (own_dk p4))), (.double (own_num (p5 &&& (7 : Int32))))]) (rest := [(.ref b74)]) (lenOf own_pd10 rfl) rfl (by show 2 * 0 + _ ≤ _; exact Nat.le_of_eq rfl) (hb hby at_152) (fun _ _ => ⟨rfl, e77, (by first | decide | omega : 12 + 10 ≤ _), (by first | decide | omega : 230 + 224 ≤ _)⟩))
      obtain ⟨rfl, N78q, K78k, E78k, F78a, F78b, F78c⟩ := hQ78
      refine DoneW.go st78 ?_
      clear st78
      have N78 := Fr.app N77h N78q
      clear N78q
      have HK78 := Nat.le_refl T78.heap.size
      have Z78 : n0 ≤ T78.heap.size := Nat.le_trans Z74 K78k.1
      have KK78 : Keep h0 T78.heap [] := K74.trans K78k (allS (Or.inr hs_b74) all0)
      obtain ⟨Lh78, X78h, N78h⟩ : ∃ L, Stand p l e room_1 bs78 m #[(.int p0), (.int p1), (.int p2), (.int p3), (.int p4), (.int p5)] below meth c T78 L 22 454 ∧ Fr n0 L := ⟨_, X78, N78⟩
      clear X78 N78 X77h e77 N77h Z74 K74
      show DoneW p e s below _ _ _ T78 (mkF m 155 #[.val (.int p0), .val (.int p1), .val (.int p2), .val (.int p3), .val (.int p4), .val (.int p5), .val (.int (p0 &&& (7 : Int32))), .val (.int (own_dk p1)), .val (.int (p2 &&& (7 : Int32))), .val (.int (p3 &&& (7 : Int32))), .val (.int (own_dk p4)), .val (.int (p5 &&& (7 : Int32))), .val (.ref b62), .val (.int (((p0.toUInt32 >>> ((8 : Int32) &&& 31).toUInt32).toInt32) &&& (3 : Int32))), .val (.int (1 : Int32)), .unset, .unset] [(.ref b74)])
      refine DoneW.go (fun _ kt_ => XS.astore X78h.here hx rfl (hb hby at_155) rfl rfl (l' := #[.val (.int p0), .val (.int p1), .val (.int p2), .val (.int p3), .val (.int p4), .val (.int p5), .val (.int (p0 &&& (7 : Int32))), .val (.int (own_dk p1)), .val (.int (p2 &&& (7 : Int32))), .val (.int (p3 &&& (7 : Int32))), .val (.int (own_dk p4)), .val (.int (p5 &&& (7 : Int32))), .val (.ref b62), .val (.int (((p0.toUInt32 >>> ((8 : Int32) &&& 31).toUInt32).toInt32) &&& (3 : Int32))), .val (.int (1 : Int32)), .val (.ref b74), .unset]) rfl kt_) ?_
      show DoneW p e s below _ _ _ T78 (mkF m 157 #[.val (.int p0), .val (.int p1), .val (.int p2), .val (.int p3), .val (.int p4), .val (.int p5), .val (.int (p0 &&& (7 : Int32))), .val (.int (own_dk p1)), .val (.int (p2 &&& (7 : Int32))), .val (.int (p3 &&& (7 : Int32))), .val (.int (own_dk p4)), .val (.int (p5 &&& (7 : Int32))), .val (.ref b62), .val (.int (((p0.toUInt32 >>> ((8 : Int32) &&& 31).toUInt32).toInt32) &&& (3 : Int32))), .val (.int (1 : Int32)), .val (.ref b74), .unset] [])
      refine DoneW.go (fun _ kt_ => XS.iload X78h.here hx rfl (hb hby at_157) rfl kt_) ?_
      show DoneW p e s below _ _ _ T78 (mkF m 159 #[.val (.int p0), .val (.int p1), .val (.int p2), .val (.int p3), .val (.int p4), .val (.int p5), .val (.int (p0 &&& (7 : Int32))), .val (.int (own_dk p1)), .val (.int (p2 &&& (7 : Int32))), .val (.int (p3 &&& (7 : Int32))), .val (.int (own_dk p4)), .val (.int (p5 &&& (7 : Int32))), .val (.ref b62), .val (.int (((p0.toUInt32 >>> ((8 : Int32) &&& 31).toUInt32).toInt32) &&& (3 : Int32))), .val (.int (1 : Int32)), .val (.ref b74), .unset] [(.int (p0 &&& (7 : Int32)))])
      refine DoneW.go (fun _ kt_ => XS.iload X78h.here hx rfl (hb hby at_159) rfl kt_) ?_
      show DoneW p e s below _ _ _ T78 (mkF m 161 #[.val (.int p0), .val (.int p1), .val (.int p2), .val (.int p3), .val (.int p4), .val (.int p5), .val (.int (p0 &&& (7 : Int32))), .val (.int (own_dk p1)), .val (.int (p2 &&& (7 : Int32))), .val (.int (p3 &&& (7 : Int32))), .val (.int (own_dk p4)), .val (.int (p5 &&& (7 : Int32))), .val (.ref b62), .val (.int (((p0.toUInt32 >>> ((8 : Int32) &&& 31).toUInt32).toInt32) &&& (3 : Int32))), .val (.int (1 : Int32)), .val (.ref b74), .unset] [(.int (p3 &&& (7 : Int32))), (.int (p0 &&& (7 : Int32)))])
      by_cases hc161 : (p0 &&& (7 : Int32)) = (p3 &&& (7 : Int32))
      · skip
        refine DoneW.go (fun _ kt_ => XS.icmpNo X78h.here hx rfl (hb hby at_161) rfl (teq hc161).2 kt_) ?_
        show DoneW p e s below _ _ _ T78 (mkF m 164 #[.val (.int p0), .val (.int p1), .val (.int p2), .val (.int p3), .val (.int p4), .val (.int p5), .val (.int (p0 &&& (7 : Int32))), .val (.int (own_dk p1)), .val (.int (p2 &&& (7 : Int32))), .val (.int (p3 &&& (7 : Int32))), .val (.int (own_dk p4)), .val (.int (p5 &&& (7 : Int32))), .val (.ref b62), .val (.int (((p0.toUInt32 >>> ((8 : Int32) &&& 31).toUInt32).toInt32) &&& (3 : Int32))), .val (.int (1 : Int32)), .val (.ref b74), .unset] [])
        refine DoneW.go (fun _ kt_ => XS.iload X78h.here hx rfl (hb hby at_164) rfl kt_) ?_
        show DoneW p e s below _ _ _ T78 (mkF m 166 #[.val (.int p0), .val (.int p1), .val (.int p2), .val (.int p3), .val (.int p4), .val (.int p5), .val (.int (p0 &&& (7 : Int32))), .val (.int (own_dk p1)), .val (.int (p2 &&& (7 : Int32))), .val (.int (p3 &&& (7 : Int32))), .val (.int (own_dk p4)), .val (.int (p5 &&& (7 : Int32))), .val (.ref b62), .val (.int (((p0.toUInt32 >>> ((8 : Int32) &&& 31).toUInt32).toInt32) &&& (3 : Int32))), .val (.int (1 : Int32)), .val (.ref b74), .unset] [(.int (own_dk p1))])
        refine DoneW.go (fun _ kt_ => XS.iload X78h.here hx rfl (hb hby at_166) rfl kt_) ?_
        show DoneW p e s below _ _ _ T78 (mkF m 168 #[.val (.int p0), .val (.int p1), .val (.int p2), .val (.int p3), .val (.int p4), .val (.int p5), .val (.int (p0 &&& (7 : Int32))), .val (.int (own_dk p1)), .val (.int (p2 &&& (7 : Int32))), .val (.int (p3 &&& (7 : Int32))), .val (.int (own_dk p4)), .val (.int (p5 &&& (7 : Int32))), .val (.ref b62), .val (.int (((p0.toUInt32 >>> ((8 : Int32) &&& 31).toUInt32).toInt32) &&& (3 : Int32))), .val (.int (1 : Int32)), .val (.ref b74), .unset] [(.int (own_dk p4)), (.int (own_dk p1))])
        by_cases hc168 : (own_dk p1) = (own_dk p4)
        · skip
          refine DoneW.go (fun _ kt_ => XS.icmpNo X78h.here hx rfl (hb hby at_168) rfl (teq hc168).2 kt_) ?_
          show DoneW p e s below _ _ _ T78 (mkF m 171 #[.val (.int p0), .val (.int p1), .val (.int p2), .val (.int p3), .val (.int p4), .val (.int p5), .val (.int (p0 &&& (7 : Int32))), .val (.int (own_dk p1)), .val (.int (p2 &&& (7 : Int32))), .val (.int (p3 &&& (7 : Int32))), .val (.int (own_dk p4)), .val (.int (p5 &&& (7 : Int32))), .val (.ref b62), .val (.int (((p0.toUInt32 >>> ((8 : Int32) &&& 31).toUInt32).toInt32) &&& (3 : Int32))), .val (.int (1 : Int32)), .val (.ref b74), .unset] [])
          refine DoneW.go (fun _ kt_ => XS.iload X78h.here hx rfl (hb hby at_171) rfl kt_) ?_
          show DoneW p e s below _ _ _ T78 (mkF m 173 #[.val (.int p0), .val (.int p1), .val (.int p2), .val (.int p3), .val (.int p4), .val (.int p5), .val (.int (p0 &&& (7 : Int32))), .val (.int (own_dk p1)), .val (.int (p2 &&& (7 : Int32))), .val (.int (p3 &&& (7 : Int32))), .val (.int (own_dk p4)), .val (.int (p5 &&& (7 : Int32))), .val (.ref b62), .val (.int (((p0.toUInt32 >>> ((8 : Int32) &&& 31).toUInt32).toInt32) &&& (3 : Int32))), .val (.int (1 : Int32)), .val (.ref b74), .unset] [(.int (p2 &&& (7 : Int32)))])
          refine DoneW.go (fun _ kt_ => XS.iload X78h.here hx rfl (hb hby at_173) rfl kt_) ?_
          show DoneW p e s below _ _ _ T78 (mkF m 175 #[.val (.int p0), .val (.int p1), .val (.int p2), .val (.int p3), .val (.int p4), .val (.int p5), .val (.int (p0 &&& (7 : Int32))), .val (.int (own_dk p1)), .val (.int (p2 &&& (7 : Int32))), .val (.int (p3 &&& (7 : Int32))), .val (.int (own_dk p4)), .val (.int (p5 &&& (7 : Int32))), .val (.ref b62), .val (.int (((p0.toUInt32 >>> ((8 : Int32) &&& 31).toUInt32).toInt32) &&& (3 : Int32))), .val (.int (1 : Int32)), .val (.ref b74), .unset] [(.int (p5 &&& (7 : Int32))), (.int (p2 &&& (7 : Int32)))])
          by_cases hc175 : (p2 &&& (7 : Int32)) = (p5 &&& (7 : Int32))
          · skip
            refine DoneW.go (fun _ kt_ => XS.icmpNo X78h.here hx rfl (hb hby at_175) rfl (teq hc175).2 kt_) ?_
            show DoneW p e s below _ _ _ T78 (mkF m 178 #[.val (.int p0), .val (.int p1), .val (.int p2), .val (.int p3), .val (.int p4), .val (.int p5), .val (.int (p0 &&& (7 : Int32))), .val (.int (own_dk p1)), .val (.int (p2 &&& (7 : Int32))), .val (.int (p3 &&& (7 : Int32))), .val (.int (own_dk p4)), .val (.int (p5 &&& (7 : Int32))), .val (.ref b62), .val (.int (((p0.toUInt32 >>> ((8 : Int32) &&& 31).toUInt32).toInt32) &&& (3 : Int32))), .val (.int (1 : Int32)), .val (.ref b74), .unset] [])
            refine DoneW.go (fun _ kt_ => XS.iconst X78h.here hx rfl (hb hby at_178) kt_) ?_
            show DoneW p e s below _ _ _ T78 (mkF m 179 #[.val (.int p0), .val (.int p1), .val (.int p2), .val (.int p3), .val (.int p4), .val (.int p5), .val (.int (p0 &&& (7 : Int32))), .val (.int (own_dk p1)), .val (.int (p2 &&& (7 : Int32))), .val (.int (p3 &&& (7 : Int32))), .val (.int (own_dk p4)), .val (.int (p5 &&& (7 : Int32))), .val (.ref b62), .val (.int (((p0.toUInt32 >>> ((8 : Int32) &&& 31).toUInt32).toInt32) &&& (3 : Int32))), .val (.int (1 : Int32)), .val (.ref b74), .unset] [(.int (1 : Int32))])
            refine DoneW.go (fun _ kt_ => XS.goto X78h.here hx rfl (pc0 := 179) (pc' := 183) rfl (hb hby at_179) (by decide) (by decide) kt_) ?_
            show DoneW p e s below _ _ _ T78 (mkF m 183 #[.val (.int p0), .val (.int p1), .val (.int p2), .val (.int p3), .val (.int p4), .val (.int p5), .val (.int (p0 &&& (7 : Int32))), .val (.int (own_dk p1)), .val (.int (p2 &&& (7 : Int32))), .val (.int (p3 &&& (7 : Int32))), .val (.int (own_dk p4)), .val (.int (p5 &&& (7 : Int32))), .val (.ref b62), .val (.int (((p0.toUInt32 >>> ((8 : Int32) &&& 31).toUInt32).toInt32) &&& (3 : Int32))), .val (.int (1 : Int32)), .val (.ref b74), .unset] [(.int (1 : Int32))])
            refine DoneW.go (fun _ kt_ => XS.istore X78h.here hx rfl (hb hby at_183) rfl (l' := #[.val (.int p0), .val (.int p1), .val (.int p2), .val (.int p3), .val (.int p4), .val (.int p5), .val (.int (p0 &&& (7 : Int32))), .val (.int (own_dk p1)), .val (.int (p2 &&& (7 : Int32))), .val (.int (p3 &&& (7 : Int32))), .val (.int (own_dk p4)), .val (.int (p5 &&& (7 : Int32))), .val (.ref b62), .val (.int (((p0.toUInt32 >>> ((8 : Int32) &&& 31).toUInt32).toInt32) &&& (3 : Int32))), .val (.int (1 : Int32)), .val (.ref b74), .val (.int (1 : Int32))]) rfl kt_) ?_
            show DoneW p e s below _ _ _ T78 (mkF m 185 #[.val (.int p0), .val (.int p1), .val (.int p2), .val (.int p3), .val (.int p4), .val (.int p5), .val (.int (p0 &&& (7 : Int32))), .val (.int (own_dk p1)), .val (.int (p2 &&& (7 : Int32))), .val (.int (p3 &&& (7 : Int32))), .val (.int (own_dk p4)), .val (.int (p5 &&& (7 : Int32))), .val (.ref b62), .val (.int (((p0.toUInt32 >>> ((8 : Int32) &&& 31).toUInt32).toInt32) &&& (3 : Int32))), .val (.int (1 : Int32)), .val (.ref b74), .val (.int (1 : Int32))] [])
            refine DoneW.go (fun _ kt_ => XS.iload X78h.here hx rfl (hb hby at_185) rfl kt_) ?_
            show DoneW p e s below _ _ _ T78 (mkF m 187 #[.val (.int p0), .val (.int p1), .val (.int p2), .val (.int p3), .val (.int p4), .val (.int p5), .val (.int (p0 &&& (7 : Int32))), .val (.int (own_dk p1)), .val (.int (p2 &&& (7 : Int32))), .val (.int (p3 &&& (7 : Int32))), .val (.int (own_dk p4)), .val (.int (p5 &&& (7 : Int32))), .val (.ref b62), .val (.int (((p0.toUInt32 >>> ((8 : Int32) &&& 31).toUInt32).toInt32) &&& (3 : Int32))), .val (.int (1 : Int32)), .val (.ref b74), .val (.int (1 : Int32))] [(.int (1 : Int32))])
            refine DoneW.go (fun _ kt_ => XS.ifNo X78h.here hx rfl (hb hby at_187) rfl ((if0 _ _).trans (feq (by decide)).1) kt_) ?_
            show DoneW p e s below _ _ _ T78 (mkF m 190 #[.val (.int p0), .val (.int p1), .val (.int p2), .val (.int p3), .val (.int p4), .val (.int p5), .val (.int (p0 &&& (7 : Int32))), .val (.int (own_dk p1)), .val (.int (p2 &&& (7 : Int32))), .val (.int (p3 &&& (7 : Int32))), .val (.int (own_dk p4)), .val (.int (p5 &&& (7 : Int32))), .val (.ref b62), .val (.int (((p0.toUInt32 >>> ((8 : Int32) &&& 31).toUInt32).toInt32) &&& (3 : Int32))), .val (.int (1 : Int32)), .val (.ref b74), .val (.int (1 : Int32))] [])
            refine DoneW.go (fun _ kt_ => XS.aload X78h.here hx rfl (hb hby at_190) rfl rfl kt_) ?_
            show DoneW p e s below _ _ _ T78 (mkF m 192 #[.val (.int p0), .val (.int p1), .val (.int p2), .val (.int p3), .val (.int p4), .val (.int p5), .val (.int (p0 &&& (7 : Int32))), .val (.int (own_dk p1)), .val (.int (p2 &&& (7 : Int32))), .val (.int (p3 &&& (7 : Int32))), .val (.int (own_dk p4)), .val (.int (p5 &&& (7 : Int32))), .val (.ref b62), .val (.int (((p0.toUInt32 >>> ((8 : Int32) &&& 31).toUInt32).toInt32) &&& (3 : Int32))), .val (.int (1 : Int32)), .val (.ref b74), .val (.int (1 : Int32))] [(.ref b62)])
            refine DoneW.go (fun _ kt_ => XS.aload X78h.here hx rfl (hb hby at_192) rfl rfl kt_) ?_
            show DoneW p e s below _ _ _ T78 (mkF m 194 #[.val (.int p0), .val (.int p1), .val (.int p2), .val (.int p3), .val (.int p4), .val (.int p5), .val (.int (p0 &&& (7 : Int32))), .val (.int (own_dk p1)), .val (.int (p2 &&& (7 : Int32))), .val (.int (p3 &&& (7 : Int32))), .val (.int (own_dk p4)), .val (.int (p5 &&& (7 : Int32))), .val (.ref b62), .val (.int (((p0.toUInt32 >>> ((8 : Int32) &&& 31).toUInt32).toInt32) &&& (3 : Int32))), .val (.int (1 : Int32)), .val (.ref b74), .val (.int (1 : Int32))] [(.ref b74), (.ref b62)])
            have f79 := ((F66a.ext E74).keep K78k (ninS ne_b62_b74 nin0))
            have f80 := ((F66b.ext E74).keep K78k (ninS ne_b62_b74 nin0))
            have f81 := ((F66c.ext E74).keep K78k (ninS ne_b62_b74 nin0))
            have f83 := ((E66k.ext E74).keep K78k)
            obtain ⟨cq82, kq82, q82a, q82b, q82c⟩ := isOf hZ rfl f83
            obtain ⟨v82, T82, Lc82, X82, hQ82, st82⟩ := own_backV (X78h.virtualBack hx (y := (⟨"com/example/citadel_hill/citadelhill/cell/CurrentPulse", "equals", "(Ljava/lang/Object;)Z"⟩ : MethodName)) (z := (⟨"com/example/citadel_hill/citadelhill/cell/CurrentPulse", "equals", "(Ljava/lang/Object;)Z"⟩ : MethodName)) hown (mvT hZ (hw _ (List.mem_of_getElem? (i := 56) rfl))) (mvT hZ (hw _ (List.mem_of_getElem? (i := 57) rfl))) (notFace_of_selects (args := #[]) (mvT hZ (hw _ (List.mem_of_getElem? (i := 59) rfl)))) (mvT hZ (hw _ (List.mem_of_getElem? (i := 59) rfl))) (mvT hZ (hw _ (List.mem_of_getElem? (i := 58) rfl))) (by decide) (backOf (W := 0)  (rm11P l Z a0 hw [] b62 b74 (own_num (p0 &&& (7 : Int32))) (own_num (own_dk p1)) (own_num (p2 &&& (7 : Int32))) (own_num (p3 &&& (7 : Int32))) (own_num (own_dk p4)) (own_num (p5 &&& (7 : Int32))) T78.heap n0 Z78 E78k f79 f80 f81 F78a F78b F78c (own_nn (own_kk p0)) (own_nn (own_kd p1)) (own_nn (own_kk p2)) (own_nn (own_kk p3)) (own_nn (own_kd p4)) (own_nn (own_kk p5))) hZ (hw _ (List.mem_of_getElem? (i := 60) rfl)) (hw _ (List.mem_of_getElem? (i := 9) rfl)) (by decide) (by decide)) q82a q82c (g := (mkF m 194 #[.val (.int p0), .val (.int p1), .val (.int p2), .val (.int p3), .val (.int p4), .val (.int p5), .val (.int (p0 &&& (7 : Int32))), .val (.int (own_dk p1)), .val (.int (p2 &&& (7 : Int32))), .val (.int (p3 &&& (7 : Int32))), .val (.int (own_dk p4)), .val (.int (p5 &&& (7 : Int32))), .val (.ref b62), .val (.int (((p0.toUInt32 >>> ((8 : Int32) &&& 31).toUInt32).toInt32) &&& (3 : Int32))), .val (.int (1 : Int32)), .val (.ref b74), .val (.int (1 : Int32))] [(.ref b74), (.ref b62)])) rfl (by rw [hml]; rfl) (Steps.refl _) (argsL := [(.ref b74)]) (rest := []) (lenOf own_pd11 rfl) rfl (by show 2 * 0 + _ ≤ _; exact Nat.le_of_eq rfl) (hb hby at_194) (fun _ _ => ⟨rfl, rfl, (by first | decide | omega : 22 + 0 ≤ _), (by first | decide | omega : 454 + 0 ≤ _)⟩))
            obtain ⟨r82, rfl, N82q, e82, b82, I82⟩ := hQ82
            refine DoneW.go st82 ?_
            clear st82
            have N82 := Fr.app N78h N82q
            clear N82q
            obtain ⟨Lh82, X82h, N82h⟩ : ∃ L, Stand p l e room_1 bs78 m #[(.int p0), (.int p1), (.int p2), (.int p3), (.int p4), (.int p5)] below meth c T82 L 22 454 ∧ Fr n0 L := ⟨_, X82, N82⟩
            clear X82 N82 X78h N78h
            obtain rfl : r82 = 1 := I82.mpr ⟨congrArg own_num hc161, congrArg own_num hc168, congrArg own_num hc175⟩
            show DoneW p e s below _ _ _ T82 (mkF m 197 #[.val (.int p0), .val (.int p1), .val (.int p2), .val (.int p3), .val (.int p4), .val (.int p5), .val (.int (p0 &&& (7 : Int32))), .val (.int (own_dk p1)), .val (.int (p2 &&& (7 : Int32))), .val (.int (p3 &&& (7 : Int32))), .val (.int (own_dk p4)), .val (.int (p5 &&& (7 : Int32))), .val (.ref b62), .val (.int (((p0.toUInt32 >>> ((8 : Int32) &&& 31).toUInt32).toInt32) &&& (3 : Int32))), .val (.int (1 : Int32)), .val (.ref b74), .val (.int (1 : Int32))] [(.int (1 : Int32))])
            refine DoneW.go (fun _ kt_ => XS.iload X82h.here hx rfl (hb hby at_197) rfl kt_) ?_
            show DoneW p e s below _ _ _ T82 (mkF m 199 #[.val (.int p0), .val (.int p1), .val (.int p2), .val (.int p3), .val (.int p4), .val (.int p5), .val (.int (p0 &&& (7 : Int32))), .val (.int (own_dk p1)), .val (.int (p2 &&& (7 : Int32))), .val (.int (p3 &&& (7 : Int32))), .val (.int (own_dk p4)), .val (.int (p5 &&& (7 : Int32))), .val (.ref b62), .val (.int (((p0.toUInt32 >>> ((8 : Int32) &&& 31).toUInt32).toInt32) &&& (3 : Int32))), .val (.int (1 : Int32)), .val (.ref b74), .val (.int (1 : Int32))] [(.int (1 : Int32)), (.int (1 : Int32))])
            refine DoneW.go (fun _ kt_ => XS.icmpNo X82h.here hx rfl (hb hby at_199) rfl (teq rfl).2 kt_) ?_
            show DoneW p e s below _ _ _ T82 (mkF m 202 #[.val (.int p0), .val (.int p1), .val (.int p2), .val (.int p3), .val (.int p4), .val (.int p5), .val (.int (p0 &&& (7 : Int32))), .val (.int (own_dk p1)), .val (.int (p2 &&& (7 : Int32))), .val (.int (p3 &&& (7 : Int32))), .val (.int (own_dk p4)), .val (.int (p5 &&& (7 : Int32))), .val (.ref b62), .val (.int (((p0.toUInt32 >>> ((8 : Int32) &&& 31).toUInt32).toInt32) &&& (3 : Int32))), .val (.int (1 : Int32)), .val (.ref b74), .val (.int (1 : Int32))] [])
            refine DoneW.go (fun _ kt_ => XS.aload X82h.here hx rfl (hb hby at_202) rfl rfl kt_) ?_
            show DoneW p e s below _ _ _ T82 (mkF m 204 #[.val (.int p0), .val (.int p1), .val (.int p2), .val (.int p3), .val (.int p4), .val (.int p5), .val (.int (p0 &&& (7 : Int32))), .val (.int (own_dk p1)), .val (.int (p2 &&& (7 : Int32))), .val (.int (p3 &&& (7 : Int32))), .val (.int (own_dk p4)), .val (.int (p5 &&& (7 : Int32))), .val (.ref b62), .val (.int (((p0.toUInt32 >>> ((8 : Int32) &&& 31).toUInt32).toInt32) &&& (3 : Int32))), .val (.int (1 : Int32)), .val (.ref b74), .val (.int (1 : Int32))] [(.ref b74)])
            refine DoneW.go (fun _ kt_ => XS.aload X82h.here hx rfl (hb hby at_204) rfl rfl kt_) ?_
            show DoneW p e s below _ _ _ T82 (mkF m 206 #[.val (.int p0), .val (.int p1), .val (.int p2), .val (.int p3), .val (.int p4), .val (.int p5), .val (.int (p0 &&& (7 : Int32))), .val (.int (own_dk p1)), .val (.int (p2 &&& (7 : Int32))), .val (.int (p3 &&& (7 : Int32))), .val (.int (own_dk p4)), .val (.int (p5 &&& (7 : Int32))), .val (.ref b62), .val (.int (((p0.toUInt32 >>> ((8 : Int32) &&& 31).toUInt32).toInt32) &&& (3 : Int32))), .val (.int (1 : Int32)), .val (.ref b74), .val (.int (1 : Int32))] [(.ref b62), (.ref b74)])
            obtain ⟨cq84, kq84, q84a, q84b, q84c⟩ := isOf hZ e82 E78k
            obtain ⟨v84, T84, Lc84, X84, hQ84, st84⟩ := own_backV (X82h.virtualBack hx (y := (⟨"com/example/citadel_hill/citadelhill/cell/CurrentPulse", "equals", "(Ljava/lang/Object;)Z"⟩ : MethodName)) (z := (⟨"com/example/citadel_hill/citadelhill/cell/CurrentPulse", "equals", "(Ljava/lang/Object;)Z"⟩ : MethodName)) hown (mvT hZ (hw _ (List.mem_of_getElem? (i := 56) rfl))) (mvT hZ (hw _ (List.mem_of_getElem? (i := 57) rfl))) (notFace_of_selects (args := #[]) (mvT hZ (hw _ (List.mem_of_getElem? (i := 59) rfl)))) (mvT hZ (hw _ (List.mem_of_getElem? (i := 59) rfl))) (mvT hZ (hw _ (List.mem_of_getElem? (i := 58) rfl))) (by decide) (backOf (W := 0)  (rm11P l Z a0 hw [] b74 b62 (own_num (p3 &&& (7 : Int32))) (own_num (own_dk p4)) (own_num (p5 &&& (7 : Int32))) (own_num (p0 &&& (7 : Int32))) (own_num (own_dk p1)) (own_num (p2 &&& (7 : Int32))) T78.heap n0 Z78 f83 F78a F78b F78c f79 f80 f81 (own_nn (own_kk p3)) (own_nn (own_kd p4)) (own_nn (own_kk p5)) (own_nn (own_kk p0)) (own_nn (own_kd p1)) (own_nn (own_kk p2))) hZ (hw _ (List.mem_of_getElem? (i := 60) rfl)) (hw _ (List.mem_of_getElem? (i := 9) rfl)) (by decide) (by decide)) q84a q84c (g := (mkF m 206 #[.val (.int p0), .val (.int p1), .val (.int p2), .val (.int p3), .val (.int p4), .val (.int p5), .val (.int (p0 &&& (7 : Int32))), .val (.int (own_dk p1)), .val (.int (p2 &&& (7 : Int32))), .val (.int (p3 &&& (7 : Int32))), .val (.int (own_dk p4)), .val (.int (p5 &&& (7 : Int32))), .val (.ref b62), .val (.int (((p0.toUInt32 >>> ((8 : Int32) &&& 31).toUInt32).toInt32) &&& (3 : Int32))), .val (.int (1 : Int32)), .val (.ref b74), .val (.int (1 : Int32))] [(.ref b62), (.ref b74)])) rfl (by rw [hml]; rfl) (Steps.refl _) (argsL := [(.ref b62)]) (rest := []) (lenOf own_pd11 rfl) rfl (by show 2 * 0 + _ ≤ _; exact Nat.le_of_eq rfl) (hb hby at_206) (fun _ _ => ⟨rfl, e82, (by first | decide | omega : 22 + 0 ≤ _), (by first | decide | omega : 454 + 0 ≤ _)⟩))
            obtain ⟨r84, rfl, N84q, e84, b84, I84⟩ := hQ84
            refine DoneW.go st84 ?_
            clear st84
            have N84 := Fr.app N82h N84q
            clear N84q
            obtain ⟨Lh84, X84h, N84h⟩ : ∃ L, Stand p l e room_1 bs78 m #[(.int p0), (.int p1), (.int p2), (.int p3), (.int p4), (.int p5)] below meth c T84 L 22 454 ∧ Fr n0 L := ⟨_, X84, N84⟩
            clear X84 N84 X82h e82 N82h
            obtain rfl : r84 = 1 := I84.mpr ⟨congrArg own_num hc161.symm, congrArg own_num hc168.symm, congrArg own_num hc175.symm⟩
            show DoneW p e s below _ _ _ T84 (mkF m 209 #[.val (.int p0), .val (.int p1), .val (.int p2), .val (.int p3), .val (.int p4), .val (.int p5), .val (.int (p0 &&& (7 : Int32))), .val (.int (own_dk p1)), .val (.int (p2 &&& (7 : Int32))), .val (.int (p3 &&& (7 : Int32))), .val (.int (own_dk p4)), .val (.int (p5 &&& (7 : Int32))), .val (.ref b62), .val (.int (((p0.toUInt32 >>> ((8 : Int32) &&& 31).toUInt32).toInt32) &&& (3 : Int32))), .val (.int (1 : Int32)), .val (.ref b74), .val (.int (1 : Int32))] [(.int (1 : Int32))])
            refine DoneW.go (fun _ kt_ => XS.iload X84h.here hx rfl (hb hby at_209) rfl kt_) ?_
            show DoneW p e s below _ _ _ T84 (mkF m 211 #[.val (.int p0), .val (.int p1), .val (.int p2), .val (.int p3), .val (.int p4), .val (.int p5), .val (.int (p0 &&& (7 : Int32))), .val (.int (own_dk p1)), .val (.int (p2 &&& (7 : Int32))), .val (.int (p3 &&& (7 : Int32))), .val (.int (own_dk p4)), .val (.int (p5 &&& (7 : Int32))), .val (.ref b62), .val (.int (((p0.toUInt32 >>> ((8 : Int32) &&& 31).toUInt32).toInt32) &&& (3 : Int32))), .val (.int (1 : Int32)), .val (.ref b74), .val (.int (1 : Int32))] [(.int (1 : Int32)), (.int (1 : Int32))])
            refine DoneW.go (fun _ kt_ => XS.icmpNo X84h.here hx rfl (hb hby at_211) rfl (teq rfl).2 kt_) ?_
            show DoneW p e s below _ _ _ T84 (mkF m 214 #[.val (.int p0), .val (.int p1), .val (.int p2), .val (.int p3), .val (.int p4), .val (.int p5), .val (.int (p0 &&& (7 : Int32))), .val (.int (own_dk p1)), .val (.int (p2 &&& (7 : Int32))), .val (.int (p3 &&& (7 : Int32))), .val (.int (own_dk p4)), .val (.int (p5 &&& (7 : Int32))), .val (.ref b62), .val (.int (((p0.toUInt32 >>> ((8 : Int32) &&& 31).toUInt32).toInt32) &&& (3 : Int32))), .val (.int (1 : Int32)), .val (.ref b74), .val (.int (1 : Int32))] [])
            refine DoneW.go (fun _ kt_ => XS.iconst X84h.here hx rfl (hb hby at_214) kt_) ?_
            show DoneW p e s below _ _ _ T84 (mkF m 215 #[.val (.int p0), .val (.int p1), .val (.int p2), .val (.int p3), .val (.int p4), .val (.int p5), .val (.int (p0 &&& (7 : Int32))), .val (.int (own_dk p1)), .val (.int (p2 &&& (7 : Int32))), .val (.int (p3 &&& (7 : Int32))), .val (.int (own_dk p4)), .val (.int (p5 &&& (7 : Int32))), .val (.ref b62), .val (.int (((p0.toUInt32 >>> ((8 : Int32) &&& 31).toUInt32).toInt32) &&& (3 : Int32))), .val (.int (1 : Int32)), .val (.ref b74), .val (.int (1 : Int32))] [(.int (1 : Int32))])
            refine DoneW.go (fun _ kt_ => XS.goto X84h.here hx rfl (pc0 := 215) (pc' := 219) rfl (hb hby at_215) (by decide) (by decide) kt_) ?_
            show DoneW p e s below _ _ _ T84 (mkF m 219 #[.val (.int p0), .val (.int p1), .val (.int p2), .val (.int p3), .val (.int p4), .val (.int p5), .val (.int (p0 &&& (7 : Int32))), .val (.int (own_dk p1)), .val (.int (p2 &&& (7 : Int32))), .val (.int (p3 &&& (7 : Int32))), .val (.int (own_dk p4)), .val (.int (p5 &&& (7 : Int32))), .val (.ref b62), .val (.int (((p0.toUInt32 >>> ((8 : Int32) &&& 31).toUInt32).toInt32) &&& (3 : Int32))), .val (.int (1 : Int32)), .val (.ref b74), .val (.int (1 : Int32))] [(.int (1 : Int32))])
            refine DoneW.retN X84h hx ⟨hlk, _, hS78, (by rw [e84]; exact HK78)⟩ (t := .boolean) hrt (by simp) (z' := (1 : Int32)) rfl (hb hby at_219) ?_ (by first | decide | omega) (by first | decide | omega)
            rw [e84]
            exact ⟨rfl, N84h⟩
          · skip
            refine DoneW.go (fun _ kt_ => XS.icmpYes X78h.here hx rfl (pc0 := 175) (pc' := 182) rfl (hb hby at_175) rfl (feq hc175).2 (by decide) (by decide) kt_) ?_
            show DoneW p e s below _ _ _ T78 (mkF m 182 #[.val (.int p0), .val (.int p1), .val (.int p2), .val (.int p3), .val (.int p4), .val (.int p5), .val (.int (p0 &&& (7 : Int32))), .val (.int (own_dk p1)), .val (.int (p2 &&& (7 : Int32))), .val (.int (p3 &&& (7 : Int32))), .val (.int (own_dk p4)), .val (.int (p5 &&& (7 : Int32))), .val (.ref b62), .val (.int (((p0.toUInt32 >>> ((8 : Int32) &&& 31).toUInt32).toInt32) &&& (3 : Int32))), .val (.int (1 : Int32)), .val (.ref b74), .unset] [])
            refine DoneW.go (fun _ kt_ => XS.iconst X78h.here hx rfl (hb hby at_182) kt_) ?_
            show DoneW p e s below _ _ _ T78 (mkF m 183 #[.val (.int p0), .val (.int p1), .val (.int p2), .val (.int p3), .val (.int p4), .val (.int p5), .val (.int (p0 &&& (7 : Int32))), .val (.int (own_dk p1)), .val (.int (p2 &&& (7 : Int32))), .val (.int (p3 &&& (7 : Int32))), .val (.int (own_dk p4)), .val (.int (p5 &&& (7 : Int32))), .val (.ref b62), .val (.int (((p0.toUInt32 >>> ((8 : Int32) &&& 31).toUInt32).toInt32) &&& (3 : Int32))), .val (.int (1 : Int32)), .val (.ref b74), .unset] [(.int (0 : Int32))])
            refine DoneW.go (fun _ kt_ => XS.istore X78h.here hx rfl (hb hby at_183) rfl (l' := #[.val (.int p0), .val (.int p1), .val (.int p2), .val (.int p3), .val (.int p4), .val (.int p5), .val (.int (p0 &&& (7 : Int32))), .val (.int (own_dk p1)), .val (.int (p2 &&& (7 : Int32))), .val (.int (p3 &&& (7 : Int32))), .val (.int (own_dk p4)), .val (.int (p5 &&& (7 : Int32))), .val (.ref b62), .val (.int (((p0.toUInt32 >>> ((8 : Int32) &&& 31).toUInt32).toInt32) &&& (3 : Int32))), .val (.int (1 : Int32)), .val (.ref b74), .val (.int (0 : Int32))]) rfl kt_) ?_
            show DoneW p e s below _ _ _ T78 (mkF m 185 #[.val (.int p0), .val (.int p1), .val (.int p2), .val (.int p3), .val (.int p4), .val (.int p5), .val (.int (p0 &&& (7 : Int32))), .val (.int (own_dk p1)), .val (.int (p2 &&& (7 : Int32))), .val (.int (p3 &&& (7 : Int32))), .val (.int (own_dk p4)), .val (.int (p5 &&& (7 : Int32))), .val (.ref b62), .val (.int (((p0.toUInt32 >>> ((8 : Int32) &&& 31).toUInt32).toInt32) &&& (3 : Int32))), .val (.int (1 : Int32)), .val (.ref b74), .val (.int (0 : Int32))] [])
            refine DoneW.go (fun _ kt_ => XS.iload X78h.here hx rfl (hb hby at_185) rfl kt_) ?_
            show DoneW p e s below _ _ _ T78 (mkF m 187 #[.val (.int p0), .val (.int p1), .val (.int p2), .val (.int p3), .val (.int p4), .val (.int p5), .val (.int (p0 &&& (7 : Int32))), .val (.int (own_dk p1)), .val (.int (p2 &&& (7 : Int32))), .val (.int (p3 &&& (7 : Int32))), .val (.int (own_dk p4)), .val (.int (p5 &&& (7 : Int32))), .val (.ref b62), .val (.int (((p0.toUInt32 >>> ((8 : Int32) &&& 31).toUInt32).toInt32) &&& (3 : Int32))), .val (.int (1 : Int32)), .val (.ref b74), .val (.int (0 : Int32))] [(.int (1 : Int32))])
            refine DoneW.go (fun _ kt_ => XS.ifNo X78h.here hx rfl (hb hby at_187) rfl ((if0 _ _).trans (feq (by decide)).1) kt_) ?_
            show DoneW p e s below _ _ _ T78 (mkF m 190 #[.val (.int p0), .val (.int p1), .val (.int p2), .val (.int p3), .val (.int p4), .val (.int p5), .val (.int (p0 &&& (7 : Int32))), .val (.int (own_dk p1)), .val (.int (p2 &&& (7 : Int32))), .val (.int (p3 &&& (7 : Int32))), .val (.int (own_dk p4)), .val (.int (p5 &&& (7 : Int32))), .val (.ref b62), .val (.int (((p0.toUInt32 >>> ((8 : Int32) &&& 31).toUInt32).toInt32) &&& (3 : Int32))), .val (.int (1 : Int32)), .val (.ref b74), .val (.int (0 : Int32))] [])
            refine DoneW.go (fun _ kt_ => XS.aload X78h.here hx rfl (hb hby at_190) rfl rfl kt_) ?_
            show DoneW p e s below _ _ _ T78 (mkF m 192 #[.val (.int p0), .val (.int p1), .val (.int p2), .val (.int p3), .val (.int p4), .val (.int p5), .val (.int (p0 &&& (7 : Int32))), .val (.int (own_dk p1)), .val (.int (p2 &&& (7 : Int32))), .val (.int (p3 &&& (7 : Int32))), .val (.int (own_dk p4)), .val (.int (p5 &&& (7 : Int32))), .val (.ref b62), .val (.int (((p0.toUInt32 >>> ((8 : Int32) &&& 31).toUInt32).toInt32) &&& (3 : Int32))), .val (.int (1 : Int32)), .val (.ref b74), .val (.int (0 : Int32))] [(.ref b62)])
            refine DoneW.go (fun _ kt_ => XS.aload X78h.here hx rfl (hb hby at_192) rfl rfl kt_) ?_
            show DoneW p e s below _ _ _ T78 (mkF m 194 #[.val (.int p0), .val (.int p1), .val (.int p2), .val (.int p3), .val (.int p4), .val (.int p5), .val (.int (p0 &&& (7 : Int32))), .val (.int (own_dk p1)), .val (.int (p2 &&& (7 : Int32))), .val (.int (p3 &&& (7 : Int32))), .val (.int (own_dk p4)), .val (.int (p5 &&& (7 : Int32))), .val (.ref b62), .val (.int (((p0.toUInt32 >>> ((8 : Int32) &&& 31).toUInt32).toInt32) &&& (3 : Int32))), .val (.int (1 : Int32)), .val (.ref b74), .val (.int (0 : Int32))] [(.ref b74), (.ref b62)])
            have f85 := ((F66a.ext E74).keep K78k (ninS ne_b62_b74 nin0))
            have f86 := ((F66b.ext E74).keep K78k (ninS ne_b62_b74 nin0))
            have f87 := ((F66c.ext E74).keep K78k (ninS ne_b62_b74 nin0))
            have f89 := ((E66k.ext E74).keep K78k)
            obtain ⟨cq88, kq88, q88a, q88b, q88c⟩ := isOf hZ rfl f89
            obtain ⟨v88, T88, Lc88, X88, hQ88, st88⟩ := own_backV (X78h.virtualBack hx (y := (⟨"com/example/citadel_hill/citadelhill/cell/CurrentPulse", "equals", "(Ljava/lang/Object;)Z"⟩ : MethodName)) (z := (⟨"com/example/citadel_hill/citadelhill/cell/CurrentPulse", "equals", "(Ljava/lang/Object;)Z"⟩ : MethodName)) hown (mvT hZ (hw _ (List.mem_of_getElem? (i := 56) rfl))) (mvT hZ (hw _ (List.mem_of_getElem? (i := 57) rfl))) (notFace_of_selects (args := #[]) (mvT hZ (hw _ (List.mem_of_getElem? (i := 59) rfl)))) (mvT hZ (hw _ (List.mem_of_getElem? (i := 59) rfl))) (mvT hZ (hw _ (List.mem_of_getElem? (i := 58) rfl))) (by decide) (backOf (W := 0)  (rm11P l Z a0 hw [] b62 b74 (own_num (p0 &&& (7 : Int32))) (own_num (own_dk p1)) (own_num (p2 &&& (7 : Int32))) (own_num (p3 &&& (7 : Int32))) (own_num (own_dk p4)) (own_num (p5 &&& (7 : Int32))) T78.heap n0 Z78 E78k f85 f86 f87 F78a F78b F78c (own_nn (own_kk p0)) (own_nn (own_kd p1)) (own_nn (own_kk p2)) (own_nn (own_kk p3)) (own_nn (own_kd p4)) (own_nn (own_kk p5))) hZ (hw _ (List.mem_of_getElem? (i := 60) rfl)) (hw _ (List.mem_of_getElem? (i := 9) rfl)) (by decide) (by decide)) q88a q88c (g := (mkF m 194 #[.val (.int p0), .val (.int p1), .val (.int p2), .val (.int p3), .val (.int p4), .val (.int p5), .val (.int (p0 &&& (7 : Int32))), .val (.int (own_dk p1)), .val (.int (p2 &&& (7 : Int32))), .val (.int (p3 &&& (7 : Int32))), .val (.int (own_dk p4)), .val (.int (p5 &&& (7 : Int32))), .val (.ref b62), .val (.int (((p0.toUInt32 >>> ((8 : Int32) &&& 31).toUInt32).toInt32) &&& (3 : Int32))), .val (.int (1 : Int32)), .val (.ref b74), .val (.int (0 : Int32))] [(.ref b74), (.ref b62)])) rfl (by rw [hml]; rfl) (Steps.refl _) (argsL := [(.ref b74)]) (rest := []) (lenOf own_pd11 rfl) rfl (by show 2 * 0 + _ ≤ _; exact Nat.le_of_eq rfl) (hb hby at_194) (fun _ _ => ⟨rfl, rfl, (by first | decide | omega : 22 + 0 ≤ _), (by first | decide | omega : 454 + 0 ≤ _)⟩))
            obtain ⟨r88, rfl, N88q, e88, b88, I88⟩ := hQ88
            refine DoneW.go st88 ?_
            clear st88
            have N88 := Fr.app N78h N88q
            clear N88q
            obtain ⟨Lh88, X88h, N88h⟩ : ∃ L, Stand p l e room_1 bs78 m #[(.int p0), (.int p1), (.int p2), (.int p3), (.int p4), (.int p5)] below meth c T88 L 22 454 ∧ Fr n0 L := ⟨_, X88, N88⟩
            clear X88 N88 X78h N78h
            obtain rfl : r88 = 0 := own_r0 b88 I88 (fun q => hc175 (own_inj (own_kk p2) (own_kk p5) q.2.2))
            show DoneW p e s below _ _ _ T88 (mkF m 197 #[.val (.int p0), .val (.int p1), .val (.int p2), .val (.int p3), .val (.int p4), .val (.int p5), .val (.int (p0 &&& (7 : Int32))), .val (.int (own_dk p1)), .val (.int (p2 &&& (7 : Int32))), .val (.int (p3 &&& (7 : Int32))), .val (.int (own_dk p4)), .val (.int (p5 &&& (7 : Int32))), .val (.ref b62), .val (.int (((p0.toUInt32 >>> ((8 : Int32) &&& 31).toUInt32).toInt32) &&& (3 : Int32))), .val (.int (1 : Int32)), .val (.ref b74), .val (.int (0 : Int32))] [(.int (0 : Int32))])
            refine DoneW.go (fun _ kt_ => XS.iload X88h.here hx rfl (hb hby at_197) rfl kt_) ?_
            show DoneW p e s below _ _ _ T88 (mkF m 199 #[.val (.int p0), .val (.int p1), .val (.int p2), .val (.int p3), .val (.int p4), .val (.int p5), .val (.int (p0 &&& (7 : Int32))), .val (.int (own_dk p1)), .val (.int (p2 &&& (7 : Int32))), .val (.int (p3 &&& (7 : Int32))), .val (.int (own_dk p4)), .val (.int (p5 &&& (7 : Int32))), .val (.ref b62), .val (.int (((p0.toUInt32 >>> ((8 : Int32) &&& 31).toUInt32).toInt32) &&& (3 : Int32))), .val (.int (1 : Int32)), .val (.ref b74), .val (.int (0 : Int32))] [(.int (0 : Int32)), (.int (0 : Int32))])
            refine DoneW.go (fun _ kt_ => XS.icmpNo X88h.here hx rfl (hb hby at_199) rfl (teq rfl).2 kt_) ?_
            show DoneW p e s below _ _ _ T88 (mkF m 202 #[.val (.int p0), .val (.int p1), .val (.int p2), .val (.int p3), .val (.int p4), .val (.int p5), .val (.int (p0 &&& (7 : Int32))), .val (.int (own_dk p1)), .val (.int (p2 &&& (7 : Int32))), .val (.int (p3 &&& (7 : Int32))), .val (.int (own_dk p4)), .val (.int (p5 &&& (7 : Int32))), .val (.ref b62), .val (.int (((p0.toUInt32 >>> ((8 : Int32) &&& 31).toUInt32).toInt32) &&& (3 : Int32))), .val (.int (1 : Int32)), .val (.ref b74), .val (.int (0 : Int32))] [])
            refine DoneW.go (fun _ kt_ => XS.aload X88h.here hx rfl (hb hby at_202) rfl rfl kt_) ?_
            show DoneW p e s below _ _ _ T88 (mkF m 204 #[.val (.int p0), .val (.int p1), .val (.int p2), .val (.int p3), .val (.int p4), .val (.int p5), .val (.int (p0 &&& (7 : Int32))), .val (.int (own_dk p1)), .val (.int (p2 &&& (7 : Int32))), .val (.int (p3 &&& (7 : Int32))), .val (.int (own_dk p4)), .val (.int (p5 &&& (7 : Int32))), .val (.ref b62), .val (.int (((p0.toUInt32 >>> ((8 : Int32) &&& 31).toUInt32).toInt32) &&& (3 : Int32))), .val (.int (1 : Int32)), .val (.ref b74), .val (.int (0 : Int32))] [(.ref b74)])
            refine DoneW.go (fun _ kt_ => XS.aload X88h.here hx rfl (hb hby at_204) rfl rfl kt_) ?_
            show DoneW p e s below _ _ _ T88 (mkF m 206 #[.val (.int p0), .val (.int p1), .val (.int p2), .val (.int p3), .val (.int p4), .val (.int p5), .val (.int (p0 &&& (7 : Int32))), .val (.int (own_dk p1)), .val (.int (p2 &&& (7 : Int32))), .val (.int (p3 &&& (7 : Int32))), .val (.int (own_dk p4)), .val (.int (p5 &&& (7 : Int32))), .val (.ref b62), .val (.int (((p0.toUInt32 >>> ((8 : Int32) &&& 31).toUInt32).toInt32) &&& (3 : Int32))), .val (.int (1 : Int32)), .val (.ref b74), .val (.int (0 : Int32))] [(.ref b62), (.ref b74)])
            obtain ⟨cq90, kq90, q90a, q90b, q90c⟩ := isOf hZ e88 E78k
            obtain ⟨v90, T90, Lc90, X90, hQ90, st90⟩ := own_backV (X88h.virtualBack hx (y := (⟨"com/example/citadel_hill/citadelhill/cell/CurrentPulse", "equals", "(Ljava/lang/Object;)Z"⟩ : MethodName)) (z := (⟨"com/example/citadel_hill/citadelhill/cell/CurrentPulse", "equals", "(Ljava/lang/Object;)Z"⟩ : MethodName)) hown (mvT hZ (hw _ (List.mem_of_getElem? (i := 56) rfl))) (mvT hZ (hw _ (List.mem_of_getElem? (i := 57) rfl))) (notFace_of_selects (args := #[]) (mvT hZ (hw _ (List.mem_of_getElem? (i := 59) rfl)))) (mvT hZ (hw _ (List.mem_of_getElem? (i := 59) rfl))) (mvT hZ (hw _ (List.mem_of_getElem? (i := 58) rfl))) (by decide) (backOf (W := 0)  (rm11P l Z a0 hw [] b74 b62 (own_num (p3 &&& (7 : Int32))) (own_num (own_dk p4)) (own_num (p5 &&& (7 : Int32))) (own_num (p0 &&& (7 : Int32))) (own_num (own_dk p1)) (own_num (p2 &&& (7 : Int32))) T78.heap n0 Z78 f89 F78a F78b F78c f85 f86 f87 (own_nn (own_kk p3)) (own_nn (own_kd p4)) (own_nn (own_kk p5)) (own_nn (own_kk p0)) (own_nn (own_kd p1)) (own_nn (own_kk p2))) hZ (hw _ (List.mem_of_getElem? (i := 60) rfl)) (hw _ (List.mem_of_getElem? (i := 9) rfl)) (by decide) (by decide)) q90a q90c (g := (mkF m 206 #[.val (.int p0), .val (.int p1), .val (.int p2), .val (.int p3), .val (.int p4), .val (.int p5), .val (.int (p0 &&& (7 : Int32))), .val (.int (own_dk p1)), .val (.int (p2 &&& (7 : Int32))), .val (.int (p3 &&& (7 : Int32))), .val (.int (own_dk p4)), .val (.int (p5 &&& (7 : Int32))), .val (.ref b62), .val (.int (((p0.toUInt32 >>> ((8 : Int32) &&& 31).toUInt32).toInt32) &&& (3 : Int32))), .val (.int (1 : Int32)), .val (.ref b74), .val (.int (0 : Int32))] [(.ref b62), (.ref b74)])) rfl (by rw [hml]; rfl) (Steps.refl _) (argsL := [(.ref b62)]) (rest := []) (lenOf own_pd11 rfl) rfl (by show 2 * 0 + _ ≤ _; exact Nat.le_of_eq rfl) (hb hby at_206) (fun _ _ => ⟨rfl, e88, (by first | decide | omega : 22 + 0 ≤ _), (by first | decide | omega : 454 + 0 ≤ _)⟩))
            obtain ⟨r90, rfl, N90q, e90, b90, I90⟩ := hQ90
            refine DoneW.go st90 ?_
            clear st90
            have N90 := Fr.app N88h N90q
            clear N90q
            obtain ⟨Lh90, X90h, N90h⟩ : ∃ L, Stand p l e room_1 bs78 m #[(.int p0), (.int p1), (.int p2), (.int p3), (.int p4), (.int p5)] below meth c T90 L 22 454 ∧ Fr n0 L := ⟨_, X90, N90⟩
            clear X90 N90 X88h e88 N88h
            obtain rfl : r90 = 0 := own_r0 b90 I90 (fun q => hc175 ((own_inj (own_kk p5) (own_kk p2) q.2.2).symm))
            show DoneW p e s below _ _ _ T90 (mkF m 209 #[.val (.int p0), .val (.int p1), .val (.int p2), .val (.int p3), .val (.int p4), .val (.int p5), .val (.int (p0 &&& (7 : Int32))), .val (.int (own_dk p1)), .val (.int (p2 &&& (7 : Int32))), .val (.int (p3 &&& (7 : Int32))), .val (.int (own_dk p4)), .val (.int (p5 &&& (7 : Int32))), .val (.ref b62), .val (.int (((p0.toUInt32 >>> ((8 : Int32) &&& 31).toUInt32).toInt32) &&& (3 : Int32))), .val (.int (1 : Int32)), .val (.ref b74), .val (.int (0 : Int32))] [(.int (0 : Int32))])
            refine DoneW.go (fun _ kt_ => XS.iload X90h.here hx rfl (hb hby at_209) rfl kt_) ?_
            show DoneW p e s below _ _ _ T90 (mkF m 211 #[.val (.int p0), .val (.int p1), .val (.int p2), .val (.int p3), .val (.int p4), .val (.int p5), .val (.int (p0 &&& (7 : Int32))), .val (.int (own_dk p1)), .val (.int (p2 &&& (7 : Int32))), .val (.int (p3 &&& (7 : Int32))), .val (.int (own_dk p4)), .val (.int (p5 &&& (7 : Int32))), .val (.ref b62), .val (.int (((p0.toUInt32 >>> ((8 : Int32) &&& 31).toUInt32).toInt32) &&& (3 : Int32))), .val (.int (1 : Int32)), .val (.ref b74), .val (.int (0 : Int32))] [(.int (0 : Int32)), (.int (0 : Int32))])
            refine DoneW.go (fun _ kt_ => XS.icmpNo X90h.here hx rfl (hb hby at_211) rfl (teq rfl).2 kt_) ?_
            show DoneW p e s below _ _ _ T90 (mkF m 214 #[.val (.int p0), .val (.int p1), .val (.int p2), .val (.int p3), .val (.int p4), .val (.int p5), .val (.int (p0 &&& (7 : Int32))), .val (.int (own_dk p1)), .val (.int (p2 &&& (7 : Int32))), .val (.int (p3 &&& (7 : Int32))), .val (.int (own_dk p4)), .val (.int (p5 &&& (7 : Int32))), .val (.ref b62), .val (.int (((p0.toUInt32 >>> ((8 : Int32) &&& 31).toUInt32).toInt32) &&& (3 : Int32))), .val (.int (1 : Int32)), .val (.ref b74), .val (.int (0 : Int32))] [])
            refine DoneW.go (fun _ kt_ => XS.iconst X90h.here hx rfl (hb hby at_214) kt_) ?_
            show DoneW p e s below _ _ _ T90 (mkF m 215 #[.val (.int p0), .val (.int p1), .val (.int p2), .val (.int p3), .val (.int p4), .val (.int p5), .val (.int (p0 &&& (7 : Int32))), .val (.int (own_dk p1)), .val (.int (p2 &&& (7 : Int32))), .val (.int (p3 &&& (7 : Int32))), .val (.int (own_dk p4)), .val (.int (p5 &&& (7 : Int32))), .val (.ref b62), .val (.int (((p0.toUInt32 >>> ((8 : Int32) &&& 31).toUInt32).toInt32) &&& (3 : Int32))), .val (.int (1 : Int32)), .val (.ref b74), .val (.int (0 : Int32))] [(.int (1 : Int32))])
            refine DoneW.go (fun _ kt_ => XS.goto X90h.here hx rfl (pc0 := 215) (pc' := 219) rfl (hb hby at_215) (by decide) (by decide) kt_) ?_
            show DoneW p e s below _ _ _ T90 (mkF m 219 #[.val (.int p0), .val (.int p1), .val (.int p2), .val (.int p3), .val (.int p4), .val (.int p5), .val (.int (p0 &&& (7 : Int32))), .val (.int (own_dk p1)), .val (.int (p2 &&& (7 : Int32))), .val (.int (p3 &&& (7 : Int32))), .val (.int (own_dk p4)), .val (.int (p5 &&& (7 : Int32))), .val (.ref b62), .val (.int (((p0.toUInt32 >>> ((8 : Int32) &&& 31).toUInt32).toInt32) &&& (3 : Int32))), .val (.int (1 : Int32)), .val (.ref b74), .val (.int (0 : Int32))] [(.int (1 : Int32))])
            refine DoneW.retN X90h hx ⟨hlk, _, hS78, (by rw [e90]; exact HK78)⟩ (t := .boolean) hrt (by simp) (z' := (1 : Int32)) rfl (hb hby at_219) ?_ (by first | decide | omega) (by first | decide | omega)
            rw [e90]
            exact ⟨rfl, N90h⟩
        · skip
          refine DoneW.go (fun _ kt_ => XS.icmpYes X78h.here hx rfl (pc0 := 168) (pc' := 182) rfl (hb hby at_168) rfl (feq hc168).2 (by decide) (by decide) kt_) ?_
          show DoneW p e s below _ _ _ T78 (mkF m 182 #[.val (.int p0), .val (.int p1), .val (.int p2), .val (.int p3), .val (.int p4), .val (.int p5), .val (.int (p0 &&& (7 : Int32))), .val (.int (own_dk p1)), .val (.int (p2 &&& (7 : Int32))), .val (.int (p3 &&& (7 : Int32))), .val (.int (own_dk p4)), .val (.int (p5 &&& (7 : Int32))), .val (.ref b62), .val (.int (((p0.toUInt32 >>> ((8 : Int32) &&& 31).toUInt32).toInt32) &&& (3 : Int32))), .val (.int (1 : Int32)), .val (.ref b74), .unset] [])
          refine DoneW.go (fun _ kt_ => XS.iconst X78h.here hx rfl (hb hby at_182) kt_) ?_
          show DoneW p e s below _ _ _ T78 (mkF m 183 #[.val (.int p0), .val (.int p1), .val (.int p2), .val (.int p3), .val (.int p4), .val (.int p5), .val (.int (p0 &&& (7 : Int32))), .val (.int (own_dk p1)), .val (.int (p2 &&& (7 : Int32))), .val (.int (p3 &&& (7 : Int32))), .val (.int (own_dk p4)), .val (.int (p5 &&& (7 : Int32))), .val (.ref b62), .val (.int (((p0.toUInt32 >>> ((8 : Int32) &&& 31).toUInt32).toInt32) &&& (3 : Int32))), .val (.int (1 : Int32)), .val (.ref b74), .unset] [(.int (0 : Int32))])
          refine DoneW.go (fun _ kt_ => XS.istore X78h.here hx rfl (hb hby at_183) rfl (l' := #[.val (.int p0), .val (.int p1), .val (.int p2), .val (.int p3), .val (.int p4), .val (.int p5), .val (.int (p0 &&& (7 : Int32))), .val (.int (own_dk p1)), .val (.int (p2 &&& (7 : Int32))), .val (.int (p3 &&& (7 : Int32))), .val (.int (own_dk p4)), .val (.int (p5 &&& (7 : Int32))), .val (.ref b62), .val (.int (((p0.toUInt32 >>> ((8 : Int32) &&& 31).toUInt32).toInt32) &&& (3 : Int32))), .val (.int (1 : Int32)), .val (.ref b74), .val (.int (0 : Int32))]) rfl kt_) ?_
          show DoneW p e s below _ _ _ T78 (mkF m 185 #[.val (.int p0), .val (.int p1), .val (.int p2), .val (.int p3), .val (.int p4), .val (.int p5), .val (.int (p0 &&& (7 : Int32))), .val (.int (own_dk p1)), .val (.int (p2 &&& (7 : Int32))), .val (.int (p3 &&& (7 : Int32))), .val (.int (own_dk p4)), .val (.int (p5 &&& (7 : Int32))), .val (.ref b62), .val (.int (((p0.toUInt32 >>> ((8 : Int32) &&& 31).toUInt32).toInt32) &&& (3 : Int32))), .val (.int (1 : Int32)), .val (.ref b74), .val (.int (0 : Int32))] [])
          refine DoneW.go (fun _ kt_ => XS.iload X78h.here hx rfl (hb hby at_185) rfl kt_) ?_
          show DoneW p e s below _ _ _ T78 (mkF m 187 #[.val (.int p0), .val (.int p1), .val (.int p2), .val (.int p3), .val (.int p4), .val (.int p5), .val (.int (p0 &&& (7 : Int32))), .val (.int (own_dk p1)), .val (.int (p2 &&& (7 : Int32))), .val (.int (p3 &&& (7 : Int32))), .val (.int (own_dk p4)), .val (.int (p5 &&& (7 : Int32))), .val (.ref b62), .val (.int (((p0.toUInt32 >>> ((8 : Int32) &&& 31).toUInt32).toInt32) &&& (3 : Int32))), .val (.int (1 : Int32)), .val (.ref b74), .val (.int (0 : Int32))] [(.int (1 : Int32))])
          refine DoneW.go (fun _ kt_ => XS.ifNo X78h.here hx rfl (hb hby at_187) rfl ((if0 _ _).trans (feq (by decide)).1) kt_) ?_
          show DoneW p e s below _ _ _ T78 (mkF m 190 #[.val (.int p0), .val (.int p1), .val (.int p2), .val (.int p3), .val (.int p4), .val (.int p5), .val (.int (p0 &&& (7 : Int32))), .val (.int (own_dk p1)), .val (.int (p2 &&& (7 : Int32))), .val (.int (p3 &&& (7 : Int32))), .val (.int (own_dk p4)), .val (.int (p5 &&& (7 : Int32))), .val (.ref b62), .val (.int (((p0.toUInt32 >>> ((8 : Int32) &&& 31).toUInt32).toInt32) &&& (3 : Int32))), .val (.int (1 : Int32)), .val (.ref b74), .val (.int (0 : Int32))] [])
          refine DoneW.go (fun _ kt_ => XS.aload X78h.here hx rfl (hb hby at_190) rfl rfl kt_) ?_
          show DoneW p e s below _ _ _ T78 (mkF m 192 #[.val (.int p0), .val (.int p1), .val (.int p2), .val (.int p3), .val (.int p4), .val (.int p5), .val (.int (p0 &&& (7 : Int32))), .val (.int (own_dk p1)), .val (.int (p2 &&& (7 : Int32))), .val (.int (p3 &&& (7 : Int32))), .val (.int (own_dk p4)), .val (.int (p5 &&& (7 : Int32))), .val (.ref b62), .val (.int (((p0.toUInt32 >>> ((8 : Int32) &&& 31).toUInt32).toInt32) &&& (3 : Int32))), .val (.int (1 : Int32)), .val (.ref b74), .val (.int (0 : Int32))] [(.ref b62)])
          refine DoneW.go (fun _ kt_ => XS.aload X78h.here hx rfl (hb hby at_192) rfl rfl kt_) ?_
          show DoneW p e s below _ _ _ T78 (mkF m 194 #[.val (.int p0), .val (.int p1), .val (.int p2), .val (.int p3), .val (.int p4), .val (.int p5), .val (.int (p0 &&& (7 : Int32))), .val (.int (own_dk p1)), .val (.int (p2 &&& (7 : Int32))), .val (.int (p3 &&& (7 : Int32))), .val (.int (own_dk p4)), .val (.int (p5 &&& (7 : Int32))), .val (.ref b62), .val (.int (((p0.toUInt32 >>> ((8 : Int32) &&& 31).toUInt32).toInt32) &&& (3 : Int32))), .val (.int (1 : Int32)), .val (.ref b74), .val (.int (0 : Int32))] [(.ref b74), (.ref b62)])
          have f91 := ((F66a.ext E74).keep K78k (ninS ne_b62_b74 nin0))
          have f92 := ((F66b.ext E74).keep K78k (ninS ne_b62_b74 nin0))
          have f93 := ((F66c.ext E74).keep K78k (ninS ne_b62_b74 nin0))
          have f95 := ((E66k.ext E74).keep K78k)
          obtain ⟨cq94, kq94, q94a, q94b, q94c⟩ := isOf hZ rfl f95
          obtain ⟨v94, T94, Lc94, X94, hQ94, st94⟩ := own_backV (X78h.virtualBack hx (y := (⟨"com/example/citadel_hill/citadelhill/cell/CurrentPulse", "equals", "(Ljava/lang/Object;)Z"⟩ : MethodName)) (z := (⟨"com/example/citadel_hill/citadelhill/cell/CurrentPulse", "equals", "(Ljava/lang/Object;)Z"⟩ : MethodName)) hown (mvT hZ (hw _ (List.mem_of_getElem? (i := 56) rfl))) (mvT hZ (hw _ (List.mem_of_getElem? (i := 57) rfl))) (notFace_of_selects (args := #[]) (mvT hZ (hw _ (List.mem_of_getElem? (i := 59) rfl)))) (mvT hZ (hw _ (List.mem_of_getElem? (i := 59) rfl))) (mvT hZ (hw _ (List.mem_of_getElem? (i := 58) rfl))) (by decide) (backOf (W := 0)  (rm11P l Z a0 hw [] b62 b74 (own_num (p0 &&& (7 : Int32))) (own_num (own_dk p1)) (own_num (p2 &&& (7 : Int32))) (own_num (p3 &&& (7 : Int32))) (own_num (own_dk p4)) (own_num (p5 &&& (7 : Int32))) T78.heap n0 Z78 E78k f91 f92 f93 F78a F78b F78c (own_nn (own_kk p0)) (own_nn (own_kd p1)) (own_nn (own_kk p2)) (own_nn (own_kk p3)) (own_nn (own_kd p4)) (own_nn (own_kk p5))) hZ (hw _ (List.mem_of_getElem? (i := 60) rfl)) (hw _ (List.mem_of_getElem? (i := 9) rfl)) (by decide) (by decide)) q94a q94c (g := (mkF m 194 #[.val (.int p0), .val (.int p1), .val (.int p2), .val (.int p3), .val (.int p4), .val (.int p5), .val (.int (p0 &&& (7 : Int32))), .val (.int (own_dk p1)), .val (.int (p2 &&& (7 : Int32))), .val (.int (p3 &&& (7 : Int32))), .val (.int (own_dk p4)), .val (.int (p5 &&& (7 : Int32))), .val (.ref b62), .val (.int (((p0.toUInt32 >>> ((8 : Int32) &&& 31).toUInt32).toInt32) &&& (3 : Int32))), .val (.int (1 : Int32)), .val (.ref b74), .val (.int (0 : Int32))] [(.ref b74), (.ref b62)])) rfl (by rw [hml]; rfl) (Steps.refl _) (argsL := [(.ref b74)]) (rest := []) (lenOf own_pd11 rfl) rfl (by show 2 * 0 + _ ≤ _; exact Nat.le_of_eq rfl) (hb hby at_194) (fun _ _ => ⟨rfl, rfl, (by first | decide | omega : 22 + 0 ≤ _), (by first | decide | omega : 454 + 0 ≤ _)⟩))
          obtain ⟨r94, rfl, N94q, e94, b94, I94⟩ := hQ94
          refine DoneW.go st94 ?_
          clear st94
          have N94 := Fr.app N78h N94q
          clear N94q
          obtain ⟨Lh94, X94h, N94h⟩ : ∃ L, Stand p l e room_1 bs78 m #[(.int p0), (.int p1), (.int p2), (.int p3), (.int p4), (.int p5)] below meth c T94 L 22 454 ∧ Fr n0 L := ⟨_, X94, N94⟩
          clear X94 N94 X78h N78h
          obtain rfl : r94 = 0 := own_r0 b94 I94 (fun q => hc168 (own_inj (own_kd p1) (own_kd p4) q.2.1))
          show DoneW p e s below _ _ _ T94 (mkF m 197 #[.val (.int p0), .val (.int p1), .val (.int p2), .val (.int p3), .val (.int p4), .val (.int p5), .val (.int (p0 &&& (7 : Int32))), .val (.int (own_dk p1)), .val (.int (p2 &&& (7 : Int32))), .val (.int (p3 &&& (7 : Int32))), .val (.int (own_dk p4)), .val (.int (p5 &&& (7 : Int32))), .val (.ref b62), .val (.int (((p0.toUInt32 >>> ((8 : Int32) &&& 31).toUInt32).toInt32) &&& (3 : Int32))), .val (.int (1 : Int32)), .val (.ref b74), .val (.int (0 : Int32))] [(.int (0 : Int32))])
          refine DoneW.go (fun _ kt_ => XS.iload X94h.here hx rfl (hb hby at_197) rfl kt_) ?_
          show DoneW p e s below _ _ _ T94 (mkF m 199 #[.val (.int p0), .val (.int p1), .val (.int p2), .val (.int p3), .val (.int p4), .val (.int p5), .val (.int (p0 &&& (7 : Int32))), .val (.int (own_dk p1)), .val (.int (p2 &&& (7 : Int32))), .val (.int (p3 &&& (7 : Int32))), .val (.int (own_dk p4)), .val (.int (p5 &&& (7 : Int32))), .val (.ref b62), .val (.int (((p0.toUInt32 >>> ((8 : Int32) &&& 31).toUInt32).toInt32) &&& (3 : Int32))), .val (.int (1 : Int32)), .val (.ref b74), .val (.int (0 : Int32))] [(.int (0 : Int32)), (.int (0 : Int32))])
          refine DoneW.go (fun _ kt_ => XS.icmpNo X94h.here hx rfl (hb hby at_199) rfl (teq rfl).2 kt_) ?_
          show DoneW p e s below _ _ _ T94 (mkF m 202 #[.val (.int p0), .val (.int p1), .val (.int p2), .val (.int p3), .val (.int p4), .val (.int p5), .val (.int (p0 &&& (7 : Int32))), .val (.int (own_dk p1)), .val (.int (p2 &&& (7 : Int32))), .val (.int (p3 &&& (7 : Int32))), .val (.int (own_dk p4)), .val (.int (p5 &&& (7 : Int32))), .val (.ref b62), .val (.int (((p0.toUInt32 >>> ((8 : Int32) &&& 31).toUInt32).toInt32) &&& (3 : Int32))), .val (.int (1 : Int32)), .val (.ref b74), .val (.int (0 : Int32))] [])
          refine DoneW.go (fun _ kt_ => XS.aload X94h.here hx rfl (hb hby at_202) rfl rfl kt_) ?_
          show DoneW p e s below _ _ _ T94 (mkF m 204 #[.val (.int p0), .val (.int p1), .val (.int p2), .val (.int p3), .val (.int p4), .val (.int p5), .val (.int (p0 &&& (7 : Int32))), .val (.int (own_dk p1)), .val (.int (p2 &&& (7 : Int32))), .val (.int (p3 &&& (7 : Int32))), .val (.int (own_dk p4)), .val (.int (p5 &&& (7 : Int32))), .val (.ref b62), .val (.int (((p0.toUInt32 >>> ((8 : Int32) &&& 31).toUInt32).toInt32) &&& (3 : Int32))), .val (.int (1 : Int32)), .val (.ref b74), .val (.int (0 : Int32))] [(.ref b74)])
          refine DoneW.go (fun _ kt_ => XS.aload X94h.here hx rfl (hb hby at_204) rfl rfl kt_) ?_
          show DoneW p e s below _ _ _ T94 (mkF m 206 #[.val (.int p0), .val (.int p1), .val (.int p2), .val (.int p3), .val (.int p4), .val (.int p5), .val (.int (p0 &&& (7 : Int32))), .val (.int (own_dk p1)), .val (.int (p2 &&& (7 : Int32))), .val (.int (p3 &&& (7 : Int32))), .val (.int (own_dk p4)), .val (.int (p5 &&& (7 : Int32))), .val (.ref b62), .val (.int (((p0.toUInt32 >>> ((8 : Int32) &&& 31).toUInt32).toInt32) &&& (3 : Int32))), .val (.int (1 : Int32)), .val (.ref b74), .val (.int (0 : Int32))] [(.ref b62), (.ref b74)])
          obtain ⟨cq96, kq96, q96a, q96b, q96c⟩ := isOf hZ e94 E78k
          obtain ⟨v96, T96, Lc96, X96, hQ96, st96⟩ := own_backV (X94h.virtualBack hx (y := (⟨"com/example/citadel_hill/citadelhill/cell/CurrentPulse", "equals", "(Ljava/lang/Object;)Z"⟩ : MethodName)) (z := (⟨"com/example/citadel_hill/citadelhill/cell/CurrentPulse", "equals", "(Ljava/lang/Object;)Z"⟩ : MethodName)) hown (mvT hZ (hw _ (List.mem_of_getElem? (i := 56) rfl))) (mvT hZ (hw _ (List.mem_of_getElem? (i := 57) rfl))) (notFace_of_selects (args := #[]) (mvT hZ (hw _ (List.mem_of_getElem? (i := 59) rfl)))) (mvT hZ (hw _ (List.mem_of_getElem? (i := 59) rfl))) (mvT hZ (hw _ (List.mem_of_getElem? (i := 58) rfl))) (by decide) (backOf (W := 0)  (rm11P l Z a0 hw [] b74 b62 (own_num (p3 &&& (7 : Int32))) (own_num (own_dk p4)) (own_num (p5 &&& (7 : Int32))) (own_num (p0 &&& (7 : Int32))) (own_num (own_dk p1)) (own_num (p2 &&& (7 : Int32))) T78.heap n0 Z78 f95 F78a F78b F78c f91 f92 f93 (own_nn (own_kk p3)) (own_nn (own_kd p4)) (own_nn (own_kk p5)) (own_nn (own_kk p0)) (own_nn (own_kd p1)) (own_nn (own_kk p2))) hZ (hw _ (List.mem_of_getElem? (i := 60) rfl)) (hw _ (List.mem_of_getElem? (i := 9) rfl)) (by decide) (by decide)) q96a q96c (g := (mkF m 206 #[.val (.int p0), .val (.int p1), .val (.int p2), .val (.int p3), .val (.int p4), .val (.int p5), .val (.int (p0 &&& (7 : Int32))), .val (.int (own_dk p1)), .val (.int (p2 &&& (7 : Int32))), .val (.int (p3 &&& (7 : Int32))), .val (.int (own_dk p4)), .val (.int (p5 &&& (7 : Int32))), .val (.ref b62), .val (.int (((p0.toUInt32 >>> ((8 : Int32) &&& 31).toUInt32).toInt32) &&& (3 : Int32))), .val (.int (1 : Int32)), .val (.ref b74), .val (.int (0 : Int32))] [(.ref b62), (.ref b74)])) rfl (by rw [hml]; rfl) (Steps.refl _) (argsL := [(.ref b62)]) (rest := []) (lenOf own_pd11 rfl) rfl (by show 2 * 0 + _ ≤ _; exact Nat.le_of_eq rfl) (hb hby at_206) (fun _ _ => ⟨rfl, e94, (by first | decide | omega : 22 + 0 ≤ _), (by first | decide | omega : 454 + 0 ≤ _)⟩))
          obtain ⟨r96, rfl, N96q, e96, b96, I96⟩ := hQ96
          refine DoneW.go st96 ?_
          clear st96
          have N96 := Fr.app N94h N96q
          clear N96q
          obtain ⟨Lh96, X96h, N96h⟩ : ∃ L, Stand p l e room_1 bs78 m #[(.int p0), (.int p1), (.int p2), (.int p3), (.int p4), (.int p5)] below meth c T96 L 22 454 ∧ Fr n0 L := ⟨_, X96, N96⟩
          clear X96 N96 X94h e94 N94h
          obtain rfl : r96 = 0 := own_r0 b96 I96 (fun q => hc168 ((own_inj (own_kd p4) (own_kd p1) q.2.1).symm))
          show DoneW p e s below _ _ _ T96 (mkF m 209 #[.val (.int p0), .val (.int p1), .val (.int p2), .val (.int p3), .val (.int p4), .val (.int p5), .val (.int (p0 &&& (7 : Int32))), .val (.int (own_dk p1)), .val (.int (p2 &&& (7 : Int32))), .val (.int (p3 &&& (7 : Int32))), .val (.int (own_dk p4)), .val (.int (p5 &&& (7 : Int32))), .val (.ref b62), .val (.int (((p0.toUInt32 >>> ((8 : Int32) &&& 31).toUInt32).toInt32) &&& (3 : Int32))), .val (.int (1 : Int32)), .val (.ref b74), .val (.int (0 : Int32))] [(.int (0 : Int32))])
          refine DoneW.go (fun _ kt_ => XS.iload X96h.here hx rfl (hb hby at_209) rfl kt_) ?_
          show DoneW p e s below _ _ _ T96 (mkF m 211 #[.val (.int p0), .val (.int p1), .val (.int p2), .val (.int p3), .val (.int p4), .val (.int p5), .val (.int (p0 &&& (7 : Int32))), .val (.int (own_dk p1)), .val (.int (p2 &&& (7 : Int32))), .val (.int (p3 &&& (7 : Int32))), .val (.int (own_dk p4)), .val (.int (p5 &&& (7 : Int32))), .val (.ref b62), .val (.int (((p0.toUInt32 >>> ((8 : Int32) &&& 31).toUInt32).toInt32) &&& (3 : Int32))), .val (.int (1 : Int32)), .val (.ref b74), .val (.int (0 : Int32))] [(.int (0 : Int32)), (.int (0 : Int32))])
          refine DoneW.go (fun _ kt_ => XS.icmpNo X96h.here hx rfl (hb hby at_211) rfl (teq rfl).2 kt_) ?_
          show DoneW p e s below _ _ _ T96 (mkF m 214 #[.val (.int p0), .val (.int p1), .val (.int p2), .val (.int p3), .val (.int p4), .val (.int p5), .val (.int (p0 &&& (7 : Int32))), .val (.int (own_dk p1)), .val (.int (p2 &&& (7 : Int32))), .val (.int (p3 &&& (7 : Int32))), .val (.int (own_dk p4)), .val (.int (p5 &&& (7 : Int32))), .val (.ref b62), .val (.int (((p0.toUInt32 >>> ((8 : Int32) &&& 31).toUInt32).toInt32) &&& (3 : Int32))), .val (.int (1 : Int32)), .val (.ref b74), .val (.int (0 : Int32))] [])
          refine DoneW.go (fun _ kt_ => XS.iconst X96h.here hx rfl (hb hby at_214) kt_) ?_
          show DoneW p e s below _ _ _ T96 (mkF m 215 #[.val (.int p0), .val (.int p1), .val (.int p2), .val (.int p3), .val (.int p4), .val (.int p5), .val (.int (p0 &&& (7 : Int32))), .val (.int (own_dk p1)), .val (.int (p2 &&& (7 : Int32))), .val (.int (p3 &&& (7 : Int32))), .val (.int (own_dk p4)), .val (.int (p5 &&& (7 : Int32))), .val (.ref b62), .val (.int (((p0.toUInt32 >>> ((8 : Int32) &&& 31).toUInt32).toInt32) &&& (3 : Int32))), .val (.int (1 : Int32)), .val (.ref b74), .val (.int (0 : Int32))] [(.int (1 : Int32))])
          refine DoneW.go (fun _ kt_ => XS.goto X96h.here hx rfl (pc0 := 215) (pc' := 219) rfl (hb hby at_215) (by decide) (by decide) kt_) ?_
          show DoneW p e s below _ _ _ T96 (mkF m 219 #[.val (.int p0), .val (.int p1), .val (.int p2), .val (.int p3), .val (.int p4), .val (.int p5), .val (.int (p0 &&& (7 : Int32))), .val (.int (own_dk p1)), .val (.int (p2 &&& (7 : Int32))), .val (.int (p3 &&& (7 : Int32))), .val (.int (own_dk p4)), .val (.int (p5 &&& (7 : Int32))), .val (.ref b62), .val (.int (((p0.toUInt32 >>> ((8 : Int32) &&& 31).toUInt32).toInt32) &&& (3 : Int32))), .val (.int (1 : Int32)), .val (.ref b74), .val (.int (0 : Int32))] [(.int (1 : Int32))])
          refine DoneW.retN X96h hx ⟨hlk, _, hS78, (by rw [e96]; exact HK78)⟩ (t := .boolean) hrt (by simp) (z' := (1 : Int32)) rfl (hb hby at_219) ?_ (by first | decide | omega) (by first | decide | omega)
          rw [e96]
          exact ⟨rfl, N96h⟩
      · skip
        refine DoneW.go (fun _ kt_ => XS.icmpYes X78h.here hx rfl (pc0 := 161) (pc' := 182) rfl (hb hby at_161) rfl (feq hc161).2 (by decide) (by decide) kt_) ?_
        show DoneW p e s below _ _ _ T78 (mkF m 182 #[.val (.int p0), .val (.int p1), .val (.int p2), .val (.int p3), .val (.int p4), .val (.int p5), .val (.int (p0 &&& (7 : Int32))), .val (.int (own_dk p1)), .val (.int (p2 &&& (7 : Int32))), .val (.int (p3 &&& (7 : Int32))), .val (.int (own_dk p4)), .val (.int (p5 &&& (7 : Int32))), .val (.ref b62), .val (.int (((p0.toUInt32 >>> ((8 : Int32) &&& 31).toUInt32).toInt32) &&& (3 : Int32))), .val (.int (1 : Int32)), .val (.ref b74), .unset] [])
        refine DoneW.go (fun _ kt_ => XS.iconst X78h.here hx rfl (hb hby at_182) kt_) ?_
        show DoneW p e s below _ _ _ T78 (mkF m 183 #[.val (.int p0), .val (.int p1), .val (.int p2), .val (.int p3), .val (.int p4), .val (.int p5), .val (.int (p0 &&& (7 : Int32))), .val (.int (own_dk p1)), .val (.int (p2 &&& (7 : Int32))), .val (.int (p3 &&& (7 : Int32))), .val (.int (own_dk p4)), .val (.int (p5 &&& (7 : Int32))), .val (.ref b62), .val (.int (((p0.toUInt32 >>> ((8 : Int32) &&& 31).toUInt32).toInt32) &&& (3 : Int32))), .val (.int (1 : Int32)), .val (.ref b74), .unset] [(.int (0 : Int32))])
        refine DoneW.go (fun _ kt_ => XS.istore X78h.here hx rfl (hb hby at_183) rfl (l' := #[.val (.int p0), .val (.int p1), .val (.int p2), .val (.int p3), .val (.int p4), .val (.int p5), .val (.int (p0 &&& (7 : Int32))), .val (.int (own_dk p1)), .val (.int (p2 &&& (7 : Int32))), .val (.int (p3 &&& (7 : Int32))), .val (.int (own_dk p4)), .val (.int (p5 &&& (7 : Int32))), .val (.ref b62), .val (.int (((p0.toUInt32 >>> ((8 : Int32) &&& 31).toUInt32).toInt32) &&& (3 : Int32))), .val (.int (1 : Int32)), .val (.ref b74), .val (.int (0 : Int32))]) rfl kt_) ?_
        show DoneW p e s below _ _ _ T78 (mkF m 185 #[.val (.int p0), .val (.int p1), .val (.int p2), .val (.int p3), .val (.int p4), .val (.int p5), .val (.int (p0 &&& (7 : Int32))), .val (.int (own_dk p1)), .val (.int (p2 &&& (7 : Int32))), .val (.int (p3 &&& (7 : Int32))), .val (.int (own_dk p4)), .val (.int (p5 &&& (7 : Int32))), .val (.ref b62), .val (.int (((p0.toUInt32 >>> ((8 : Int32) &&& 31).toUInt32).toInt32) &&& (3 : Int32))), .val (.int (1 : Int32)), .val (.ref b74), .val (.int (0 : Int32))] [])
        refine DoneW.go (fun _ kt_ => XS.iload X78h.here hx rfl (hb hby at_185) rfl kt_) ?_
        show DoneW p e s below _ _ _ T78 (mkF m 187 #[.val (.int p0), .val (.int p1), .val (.int p2), .val (.int p3), .val (.int p4), .val (.int p5), .val (.int (p0 &&& (7 : Int32))), .val (.int (own_dk p1)), .val (.int (p2 &&& (7 : Int32))), .val (.int (p3 &&& (7 : Int32))), .val (.int (own_dk p4)), .val (.int (p5 &&& (7 : Int32))), .val (.ref b62), .val (.int (((p0.toUInt32 >>> ((8 : Int32) &&& 31).toUInt32).toInt32) &&& (3 : Int32))), .val (.int (1 : Int32)), .val (.ref b74), .val (.int (0 : Int32))] [(.int (1 : Int32))])
        refine DoneW.go (fun _ kt_ => XS.ifNo X78h.here hx rfl (hb hby at_187) rfl ((if0 _ _).trans (feq (by decide)).1) kt_) ?_
        show DoneW p e s below _ _ _ T78 (mkF m 190 #[.val (.int p0), .val (.int p1), .val (.int p2), .val (.int p3), .val (.int p4), .val (.int p5), .val (.int (p0 &&& (7 : Int32))), .val (.int (own_dk p1)), .val (.int (p2 &&& (7 : Int32))), .val (.int (p3 &&& (7 : Int32))), .val (.int (own_dk p4)), .val (.int (p5 &&& (7 : Int32))), .val (.ref b62), .val (.int (((p0.toUInt32 >>> ((8 : Int32) &&& 31).toUInt32).toInt32) &&& (3 : Int32))), .val (.int (1 : Int32)), .val (.ref b74), .val (.int (0 : Int32))] [])
        refine DoneW.go (fun _ kt_ => XS.aload X78h.here hx rfl (hb hby at_190) rfl rfl kt_) ?_
        show DoneW p e s below _ _ _ T78 (mkF m 192 #[.val (.int p0), .val (.int p1), .val (.int p2), .val (.int p3), .val (.int p4), .val (.int p5), .val (.int (p0 &&& (7 : Int32))), .val (.int (own_dk p1)), .val (.int (p2 &&& (7 : Int32))), .val (.int (p3 &&& (7 : Int32))), .val (.int (own_dk p4)), .val (.int (p5 &&& (7 : Int32))), .val (.ref b62), .val (.int (((p0.toUInt32 >>> ((8 : Int32) &&& 31).toUInt32).toInt32) &&& (3 : Int32))), .val (.int (1 : Int32)), .val (.ref b74), .val (.int (0 : Int32))] [(.ref b62)])
        refine DoneW.go (fun _ kt_ => XS.aload X78h.here hx rfl (hb hby at_192) rfl rfl kt_) ?_
        show DoneW p e s below _ _ _ T78 (mkF m 194 #[.val (.int p0), .val (.int p1), .val (.int p2), .val (.int p3), .val (.int p4), .val (.int p5), .val (.int (p0 &&& (7 : Int32))), .val (.int (own_dk p1)), .val (.int (p2 &&& (7 : Int32))), .val (.int (p3 &&& (7 : Int32))), .val (.int (own_dk p4)), .val (.int (p5 &&& (7 : Int32))), .val (.ref b62), .val (.int (((p0.toUInt32 >>> ((8 : Int32) &&& 31).toUInt32).toInt32) &&& (3 : Int32))), .val (.int (1 : Int32)), .val (.ref b74), .val (.int (0 : Int32))] [(.ref b74), (.ref b62)])
        have f97 := ((F66a.ext E74).keep K78k (ninS ne_b62_b74 nin0))
        have f98 := ((F66b.ext E74).keep K78k (ninS ne_b62_b74 nin0))
        have f99 := ((F66c.ext E74).keep K78k (ninS ne_b62_b74 nin0))
        have f101 := ((E66k.ext E74).keep K78k)
        obtain ⟨cq100, kq100, q100a, q100b, q100c⟩ := isOf hZ rfl f101
        obtain ⟨v100, T100, Lc100, X100, hQ100, st100⟩ := own_backV (X78h.virtualBack hx (y := (⟨"com/example/citadel_hill/citadelhill/cell/CurrentPulse", "equals", "(Ljava/lang/Object;)Z"⟩ : MethodName)) (z := (⟨"com/example/citadel_hill/citadelhill/cell/CurrentPulse", "equals", "(Ljava/lang/Object;)Z"⟩ : MethodName)) hown (mvT hZ (hw _ (List.mem_of_getElem? (i := 56) rfl))) (mvT hZ (hw _ (List.mem_of_getElem? (i := 57) rfl))) (notFace_of_selects (args := #[]) (mvT hZ (hw _ (List.mem_of_getElem? (i := 59) rfl)))) (mvT hZ (hw _ (List.mem_of_getElem? (i := 59) rfl))) (mvT hZ (hw _ (List.mem_of_getElem? (i := 58) rfl))) (by decide) (backOf (W := 0)  (rm11P l Z a0 hw [] b62 b74 (own_num (p0 &&& (7 : Int32))) (own_num (own_dk p1)) (own_num (p2 &&& (7 : Int32))) (own_num (p3 &&& (7 : Int32))) (own_num (own_dk p4)) (own_num (p5 &&& (7 : Int32))) T78.heap n0 Z78 E78k f97 f98 f99 F78a F78b F78c (own_nn (own_kk p0)) (own_nn (own_kd p1)) (own_nn (own_kk p2)) (own_nn (own_kk p3)) (own_nn (own_kd p4)) (own_nn (own_kk p5))) hZ (hw _ (List.mem_of_getElem? (i := 60) rfl)) (hw _ (List.mem_of_getElem? (i := 9) rfl)) (by decide) (by decide)) q100a q100c (g := (mkF m 194 #[.val (.int p0), .val (.int p1), .val (.int p2), .val (.int p3), .val (.int p4), .val (.int p5), .val (.int (p0 &&& (7 : Int32))), .val (.int (own_dk p1)), .val (.int (p2 &&& (7 : Int32))), .val (.int (p3 &&& (7 : Int32))), .val (.int (own_dk p4)), .val (.int (p5 &&& (7 : Int32))), .val (.ref b62), .val (.int (((p0.toUInt32 >>> ((8 : Int32) &&& 31).toUInt32).toInt32) &&& (3 : Int32))), .val (.int (1 : Int32)), .val (.ref b74), .val (.int (0 : Int32))] [(.ref b74), (.ref b62)])) rfl (by rw [hml]; rfl) (Steps.refl _) (argsL := [(.ref b74)]) (rest := []) (lenOf own_pd11 rfl) rfl (by show 2 * 0 + _ ≤ _; exact Nat.le_of_eq rfl) (hb hby at_194) (fun _ _ => ⟨rfl, rfl, (by first | decide | omega : 22 + 0 ≤ _), (by first | decide | omega : 454 + 0 ≤ _)⟩))
        obtain ⟨r100, rfl, N100q, e100, b100, I100⟩ := hQ100
        refine DoneW.go st100 ?_
        clear st100
        have N100 := Fr.app N78h N100q
        clear N100q
        obtain ⟨Lh100, X100h, N100h⟩ : ∃ L, Stand p l e room_1 bs78 m #[(.int p0), (.int p1), (.int p2), (.int p3), (.int p4), (.int p5)] below meth c T100 L 22 454 ∧ Fr n0 L := ⟨_, X100, N100⟩
        clear X100 N100 X78h N78h
        obtain rfl : r100 = 0 := own_r0 b100 I100 (fun q => hc161 (own_inj (own_kk p0) (own_kk p3) q.1))
        show DoneW p e s below _ _ _ T100 (mkF m 197 #[.val (.int p0), .val (.int p1), .val (.int p2), .val (.int p3), .val (.int p4), .val (.int p5), .val (.int (p0 &&& (7 : Int32))), .val (.int (own_dk p1)), .val (.int (p2 &&& (7 : Int32))), .val (.int (p3 &&& (7 : Int32))), .val (.int (own_dk p4)), .val (.int (p5 &&& (7 : Int32))), .val (.ref b62), .val (.int (((p0.toUInt32 >>> ((8 : Int32) &&& 31).toUInt32).toInt32) &&& (3 : Int32))), .val (.int (1 : Int32)), .val (.ref b74), .val (.int (0 : Int32))] [(.int (0 : Int32))])
        refine DoneW.go (fun _ kt_ => XS.iload X100h.here hx rfl (hb hby at_197) rfl kt_) ?_
        show DoneW p e s below _ _ _ T100 (mkF m 199 #[.val (.int p0), .val (.int p1), .val (.int p2), .val (.int p3), .val (.int p4), .val (.int p5), .val (.int (p0 &&& (7 : Int32))), .val (.int (own_dk p1)), .val (.int (p2 &&& (7 : Int32))), .val (.int (p3 &&& (7 : Int32))), .val (.int (own_dk p4)), .val (.int (p5 &&& (7 : Int32))), .val (.ref b62), .val (.int (((p0.toUInt32 >>> ((8 : Int32) &&& 31).toUInt32).toInt32) &&& (3 : Int32))), .val (.int (1 : Int32)), .val (.ref b74), .val (.int (0 : Int32))] [(.int (0 : Int32)), (.int (0 : Int32))])
        refine DoneW.go (fun _ kt_ => XS.icmpNo X100h.here hx rfl (hb hby at_199) rfl (teq rfl).2 kt_) ?_
        show DoneW p e s below _ _ _ T100 (mkF m 202 #[.val (.int p0), .val (.int p1), .val (.int p2), .val (.int p3), .val (.int p4), .val (.int p5), .val (.int (p0 &&& (7 : Int32))), .val (.int (own_dk p1)), .val (.int (p2 &&& (7 : Int32))), .val (.int (p3 &&& (7 : Int32))), .val (.int (own_dk p4)), .val (.int (p5 &&& (7 : Int32))), .val (.ref b62), .val (.int (((p0.toUInt32 >>> ((8 : Int32) &&& 31).toUInt32).toInt32) &&& (3 : Int32))), .val (.int (1 : Int32)), .val (.ref b74), .val (.int (0 : Int32))] [])
        refine DoneW.go (fun _ kt_ => XS.aload X100h.here hx rfl (hb hby at_202) rfl rfl kt_) ?_
        show DoneW p e s below _ _ _ T100 (mkF m 204 #[.val (.int p0), .val (.int p1), .val (.int p2), .val (.int p3), .val (.int p4), .val (.int p5), .val (.int (p0 &&& (7 : Int32))), .val (.int (own_dk p1)), .val (.int (p2 &&& (7 : Int32))), .val (.int (p3 &&& (7 : Int32))), .val (.int (own_dk p4)), .val (.int (p5 &&& (7 : Int32))), .val (.ref b62), .val (.int (((p0.toUInt32 >>> ((8 : Int32) &&& 31).toUInt32).toInt32) &&& (3 : Int32))), .val (.int (1 : Int32)), .val (.ref b74), .val (.int (0 : Int32))] [(.ref b74)])
        refine DoneW.go (fun _ kt_ => XS.aload X100h.here hx rfl (hb hby at_204) rfl rfl kt_) ?_
        show DoneW p e s below _ _ _ T100 (mkF m 206 #[.val (.int p0), .val (.int p1), .val (.int p2), .val (.int p3), .val (.int p4), .val (.int p5), .val (.int (p0 &&& (7 : Int32))), .val (.int (own_dk p1)), .val (.int (p2 &&& (7 : Int32))), .val (.int (p3 &&& (7 : Int32))), .val (.int (own_dk p4)), .val (.int (p5 &&& (7 : Int32))), .val (.ref b62), .val (.int (((p0.toUInt32 >>> ((8 : Int32) &&& 31).toUInt32).toInt32) &&& (3 : Int32))), .val (.int (1 : Int32)), .val (.ref b74), .val (.int (0 : Int32))] [(.ref b62), (.ref b74)])
        obtain ⟨cq102, kq102, q102a, q102b, q102c⟩ := isOf hZ e100 E78k
        obtain ⟨v102, T102, Lc102, X102, hQ102, st102⟩ := own_backV (X100h.virtualBack hx (y := (⟨"com/example/citadel_hill/citadelhill/cell/CurrentPulse", "equals", "(Ljava/lang/Object;)Z"⟩ : MethodName)) (z := (⟨"com/example/citadel_hill/citadelhill/cell/CurrentPulse", "equals", "(Ljava/lang/Object;)Z"⟩ : MethodName)) hown (mvT hZ (hw _ (List.mem_of_getElem? (i := 56) rfl))) (mvT hZ (hw _ (List.mem_of_getElem? (i := 57) rfl))) (notFace_of_selects (args := #[]) (mvT hZ (hw _ (List.mem_of_getElem? (i := 59) rfl)))) (mvT hZ (hw _ (List.mem_of_getElem? (i := 59) rfl))) (mvT hZ (hw _ (List.mem_of_getElem? (i := 58) rfl))) (by decide) (backOf (W := 0)  (rm11P l Z a0 hw [] b74 b62 (own_num (p3 &&& (7 : Int32))) (own_num (own_dk p4)) (own_num (p5 &&& (7 : Int32))) (own_num (p0 &&& (7 : Int32))) (own_num (own_dk p1)) (own_num (p2 &&& (7 : Int32))) T78.heap n0 Z78 f101 F78a F78b F78c f97 f98 f99 (own_nn (own_kk p3)) (own_nn (own_kd p4)) (own_nn (own_kk p5)) (own_nn (own_kk p0)) (own_nn (own_kd p1)) (own_nn (own_kk p2))) hZ (hw _ (List.mem_of_getElem? (i := 60) rfl)) (hw _ (List.mem_of_getElem? (i := 9) rfl)) (by decide) (by decide)) q102a q102c (g := (mkF m 206 #[.val (.int p0), .val (.int p1), .val (.int p2), .val (.int p3), .val (.int p4), .val (.int p5), .val (.int (p0 &&& (7 : Int32))), .val (.int (own_dk p1)), .val (.int (p2 &&& (7 : Int32))), .val (.int (p3 &&& (7 : Int32))), .val (.int (own_dk p4)), .val (.int (p5 &&& (7 : Int32))), .val (.ref b62), .val (.int (((p0.toUInt32 >>> ((8 : Int32) &&& 31).toUInt32).toInt32) &&& (3 : Int32))), .val (.int (1 : Int32)), .val (.ref b74), .val (.int (0 : Int32))] [(.ref b62), (.ref b74)])) rfl (by rw [hml]; rfl) (Steps.refl _) (argsL := [(.ref b62)]) (rest := []) (lenOf own_pd11 rfl) rfl (by show 2 * 0 + _ ≤ _; exact Nat.le_of_eq rfl) (hb hby at_206) (fun _ _ => ⟨rfl, e100, (by first | decide | omega : 22 + 0 ≤ _), (by first | decide | omega : 454 + 0 ≤ _)⟩))
        obtain ⟨r102, rfl, N102q, e102, b102, I102⟩ := hQ102
        refine DoneW.go st102 ?_
        clear st102
        have N102 := Fr.app N100h N102q
        clear N102q
        obtain ⟨Lh102, X102h, N102h⟩ : ∃ L, Stand p l e room_1 bs78 m #[(.int p0), (.int p1), (.int p2), (.int p3), (.int p4), (.int p5)] below meth c T102 L 22 454 ∧ Fr n0 L := ⟨_, X102, N102⟩
        clear X102 N102 X100h e100 N100h
        obtain rfl : r102 = 0 := own_r0 b102 I102 (fun q => hc161 ((own_inj (own_kk p3) (own_kk p0) q.1).symm))
        show DoneW p e s below _ _ _ T102 (mkF m 209 #[.val (.int p0), .val (.int p1), .val (.int p2), .val (.int p3), .val (.int p4), .val (.int p5), .val (.int (p0 &&& (7 : Int32))), .val (.int (own_dk p1)), .val (.int (p2 &&& (7 : Int32))), .val (.int (p3 &&& (7 : Int32))), .val (.int (own_dk p4)), .val (.int (p5 &&& (7 : Int32))), .val (.ref b62), .val (.int (((p0.toUInt32 >>> ((8 : Int32) &&& 31).toUInt32).toInt32) &&& (3 : Int32))), .val (.int (1 : Int32)), .val (.ref b74), .val (.int (0 : Int32))] [(.int (0 : Int32))])
        refine DoneW.go (fun _ kt_ => XS.iload X102h.here hx rfl (hb hby at_209) rfl kt_) ?_
        show DoneW p e s below _ _ _ T102 (mkF m 211 #[.val (.int p0), .val (.int p1), .val (.int p2), .val (.int p3), .val (.int p4), .val (.int p5), .val (.int (p0 &&& (7 : Int32))), .val (.int (own_dk p1)), .val (.int (p2 &&& (7 : Int32))), .val (.int (p3 &&& (7 : Int32))), .val (.int (own_dk p4)), .val (.int (p5 &&& (7 : Int32))), .val (.ref b62), .val (.int (((p0.toUInt32 >>> ((8 : Int32) &&& 31).toUInt32).toInt32) &&& (3 : Int32))), .val (.int (1 : Int32)), .val (.ref b74), .val (.int (0 : Int32))] [(.int (0 : Int32)), (.int (0 : Int32))])
        refine DoneW.go (fun _ kt_ => XS.icmpNo X102h.here hx rfl (hb hby at_211) rfl (teq rfl).2 kt_) ?_
        show DoneW p e s below _ _ _ T102 (mkF m 214 #[.val (.int p0), .val (.int p1), .val (.int p2), .val (.int p3), .val (.int p4), .val (.int p5), .val (.int (p0 &&& (7 : Int32))), .val (.int (own_dk p1)), .val (.int (p2 &&& (7 : Int32))), .val (.int (p3 &&& (7 : Int32))), .val (.int (own_dk p4)), .val (.int (p5 &&& (7 : Int32))), .val (.ref b62), .val (.int (((p0.toUInt32 >>> ((8 : Int32) &&& 31).toUInt32).toInt32) &&& (3 : Int32))), .val (.int (1 : Int32)), .val (.ref b74), .val (.int (0 : Int32))] [])
        refine DoneW.go (fun _ kt_ => XS.iconst X102h.here hx rfl (hb hby at_214) kt_) ?_
        show DoneW p e s below _ _ _ T102 (mkF m 215 #[.val (.int p0), .val (.int p1), .val (.int p2), .val (.int p3), .val (.int p4), .val (.int p5), .val (.int (p0 &&& (7 : Int32))), .val (.int (own_dk p1)), .val (.int (p2 &&& (7 : Int32))), .val (.int (p3 &&& (7 : Int32))), .val (.int (own_dk p4)), .val (.int (p5 &&& (7 : Int32))), .val (.ref b62), .val (.int (((p0.toUInt32 >>> ((8 : Int32) &&& 31).toUInt32).toInt32) &&& (3 : Int32))), .val (.int (1 : Int32)), .val (.ref b74), .val (.int (0 : Int32))] [(.int (1 : Int32))])
        refine DoneW.go (fun _ kt_ => XS.goto X102h.here hx rfl (pc0 := 215) (pc' := 219) rfl (hb hby at_215) (by decide) (by decide) kt_) ?_
        show DoneW p e s below _ _ _ T102 (mkF m 219 #[.val (.int p0), .val (.int p1), .val (.int p2), .val (.int p3), .val (.int p4), .val (.int p5), .val (.int (p0 &&& (7 : Int32))), .val (.int (own_dk p1)), .val (.int (p2 &&& (7 : Int32))), .val (.int (p3 &&& (7 : Int32))), .val (.int (own_dk p4)), .val (.int (p5 &&& (7 : Int32))), .val (.ref b62), .val (.int (((p0.toUInt32 >>> ((8 : Int32) &&& 31).toUInt32).toInt32) &&& (3 : Int32))), .val (.int (1 : Int32)), .val (.ref b74), .val (.int (0 : Int32))] [(.int (1 : Int32))])
        refine DoneW.retN X102h hx ⟨hlk, _, hS78, (by rw [e102]; exact HK78)⟩ (t := .boolean) hrt (by simp) (z' := (1 : Int32)) rfl (hb hby at_219) ?_ (by first | decide | omega) (by first | decide | omega)
        rw [e102]
        exact ⟨rfl, N102h⟩
set_option maxRecDepth 65536 in
set_option maxHeartbeats 40000000 in
theorem comes_1 {Post : Tables → Env → Array Value → State → Outcome → State → Prop} (hpost : ∀ tb e args s v u, (limb_1_1.after args s (.returned v) u = true ∧ limb_1_2.after args s (.returned v) u = true ∧ True) → ReturnedEndW s (.returned v) u (Jvm.fieldLocs frame_1_writes args s ++ Jvm.arrayLocs frame_1_arrays args s ++ Jvm.staticLocs frame_1_statics s) 24 5248 → Post tb e args s (.returned v) u) :
    ArmFor flags0 classFile x code maxLocals ret World_1 tables_1 room_1 Calls_1 rest_1 Pre_1 Post := by
  intro l hfl _ _ p e ha hc hk s m args below hf hA hF happ hP
  obtain ⟨hcalls, hrest, hpre⟩ := hP
  obtain ⟨-, -, -, hnamed, -, -, -, hat⟩ := (Spec.applies_iff hf).mp happ
  obtain ⟨hg, hn⟩ := and_e (Cond.before_iff.mp (show (Jvm.Cond.and given_1 narrow_1).before args s = true from hpre))
  obtain ⟨hcount, hg⟩ := and_e hg
  obtain ⟨hv0, hg⟩ := and_e hg
  obtain ⟨hv1, hg⟩ := and_e hg
  obtain ⟨hv2, hg⟩ := and_e hg
  obtain ⟨hv3, hg⟩ := and_e hg
  obtain ⟨hv4, hg⟩ := and_e hg
  have hv5 := hg
  obtain ⟨w0, w1, w2, w3, w4, w5, rfl⟩ : ∃ w0 w1 w2 w3 w4 w5 : Value, args = #[w0, w1, w2, w3, w4, w5] := by
    have hs : args.size = 6 := by simpa [Cond.value, given_1] using hcount
    obtain ⟨L⟩ := args
    match L, hs with
    | [w0, w1, w2, w3, w4, w5], _ => exact ⟨w0, w1, w2, w3, w4, w5, rfl⟩
  have hw := fun d (hd : d ∈ tables_1) => atoms_spec (ws := Jvm.Cond.code x code maxLocals ret :: tables_1) hat d (List.mem_cons_of_mem _ hd)
  have hfit : Fit s := fun {y c} hc i hi => by
    obtain ⟨ha, rfl⟩ := Array.getElem?_eq_some_iff.mp hc
    have q := List.all_eq_true.mp ((Array.all_eq_true_iff_forall_mem.mp hF) _ (Array.getElem_mem ha)) i (List.mem_range.mpr hi)
    simpa [Array.getElem?_eq_getElem hi] using q
  obtain ⟨hsets, hown0⟩ := atoms_of _ (rest_1_c_eq ▸ (show rest_1_c.before _ s = true from hrest))
  have hr0 := Cond.before_iff.mp hown0
  obtain ⟨i0, ei0⟩ := is_v hv0
  obtain rfl : w0 = (.int i0) := Option.some.inj ei0
  obtain ⟨i1, ei1⟩ := is_v hv1
  obtain rfl : w1 = (.int i1) := Option.some.inj ei1
  obtain ⟨i2, ei2⟩ := is_v hv2
  obtain rfl : w2 = (.int i2) := Option.some.inj ei2
  obtain ⟨i3, ei3⟩ := is_v hv3
  obtain rfl : w3 = (.int i3) := Option.some.inj ei3
  obtain ⟨i4, ei4⟩ := is_v hv4
  obtain rfl : w4 = (.int i4) := Option.some.inj ei4
  obtain ⟨i5, ei5⟩ := is_v hv5
  obtain rfl : w5 = (.int i5) := Option.some.inj ei5
  have evh := eqv_i (Term.int_eval 127) (Cond.before_iff.mp (hsets _ (List.mem_of_getElem? (i := 3) rfl)))
  have Sh := Sta.start evh (Or.inr ⟨(hw _ (List.mem_of_getElem? (i := 98) rfl)), (hsets _ (List.mem_of_getElem? (i := 0) rfl))⟩)
  obtain ⟨ac, evc⟩ := arr_v (Cond.before_iff.mp (hsets _ (List.mem_of_getElem? (i := 4) rfl)))
  have Sc := Sta.start evc (Or.inr ⟨(hw _ (List.mem_of_getElem? (i := 98) rfl)), (hsets _ (List.mem_of_getElem? (i := 2) rfl))⟩)
  have Bx := own_bxs (fun _ => evc) (Cond.before_iff.mp (hsets _ (List.mem_of_getElem? (i := 4) rfl))) (Cond.before_iff.mp (hsets _ (List.mem_of_getElem? (i := 6) rfl))) (Cond.before_iff.mp (hsets _ (List.mem_of_getElem? (i := 7) rfl)))
  obtain ⟨n, o, h1, h2, h3, _, L, rfl, ⟨rfl, N⟩, hq⟩ := rm0 l s _ hw tables_1 i0 i1 i2 i3 i4 i5 ac s.heap s.heap.size (Nat.le_refl _) Sh Sc Bx p e ha hc hk s m _ below hf ((Spec.applies_iff_loose hf).mp happ).1 ⟨rfl, State.Warmed39.refl s, rfl⟩ trivial
  refine ⟨n, _, h1, h2, h3, hpost _ _ _ _ _ _ ⟨Cond.after_iff.mpr rfl, Cond.after_iff.mpr (eq_i res_at (Term.int_eval (1)) rfl), trivial⟩ ⟨hq.1, hq.2.1, hq.2.2.1, (hq.2.2.2.sift fun y hy => Or.inr (N y hy)).mono (by decide) (by decide)⟩⟩
theorem main_1_1 : Claimed_1_1 := comes_1 fun _ _ _ _ _ _ h hF => ⟨h.1, hF⟩
theorem main_1_2 : Claimed_1_2 := comes_1 fun _ _ _ _ _ _ h hF => ⟨h.2.1, hF⟩
end Jvm.Pilot.@@N@@
namespace Jvm.Pilot.@@N@@
open Jvm Jvm.ClassFile Sem Op Lib Jvm.Free Jvm.Stand Jvm.Pilot.@@N@@.Jvm.D
/-! MADE BY PROGRAM (witnessworld.py) out of the Statement's table words and the real class files: 21 classes; the members and pool entries that the words name. The judged class is class 1, her method 4. -/
namespace start1
open Jvm.ClassFile
def u (s : String) : CpInfo := .utf8 (stringToUtf16 s)
/-- a pool by its gaps: so many unusable entries, then the entry; so many at the end -/
def gap : Nat → List CpInfo → List CpInfo
  | 0, r => r
  | n + 1, r => .unusable :: gap n r
def poolList (es : List (Nat × CpInfo)) (last : Nat) : List CpInfo := es.foldr (fun e r => gap e.1 (e.2 :: r)) (gap last [])
def pool (es : List (Nat × CpInfo)) (last : Nat) : Array CpInfo := ⟨poolList es last⟩
def fileOf (pool : Array CpInfo) (this : Nat) (attrs : Array Attribute := #[]) (ms : Array MethodInfo := #[]) (fl : Nat := 33) (sup : Nat := 0) (ifs : Array Nat := #[]) (fds : Array FieldInfo := #[]) : ClassFile where
  minorVersion := 0
  majorVersion := 65
  constantPool := pool
  accessFlags := fl
  thisClass := this
  superClass := sup
  interfaces := ifs
  fields := fds
  methods := ms
  attributes := attrs
def plain (name : String) (sup : Option ClassId) : Class where
  name := name
  kind := .ordinary
  loader := none
  accessFlags := 33
  super := sup
  interfaces := #[]
  cf := none
  fields := #[]
  methods := #[]
  instanceTypes := #[]
  staticTypes := #[]
  resolved := #[]
  callSites := []
  init := .initialized
  statics := none
  mirror := none

def pool0 : Array CpInfo := pool [(5, u "<init>"), (0, u "()V"), (1, .class_ 10), (1, u "java/lang/Object")] 113

def k0c0 : Code := { maxStack := 0, maxLocals := 1, code := object_method_1_code, exceptionTable := #[], attributes := #[] }
def k0m0 : Method := { name := "<init>", desc := "()V", sig := { parameters := [], returnType := none }, accessFlags := 1, code := some k0c0 }
/-- java/lang/Object -/
def k0 : Class := { plain "java/lang/Object" none with
  accessFlags := 33
  interfaces := #[]
  cf := some (fileOf pool0 8 #[] #[{ accessFlags := 1, nameIndex := 5, descriptorIndex := 6, attributes := #[] }] 33 0 #[] #[])
  fields := #[]
  methods := #[k0m0]
  instanceTypes := #[]
  staticTypes := #[]
  resolved := Array.replicate 124 none
  statics := none }

def pool1 : Array CpInfo := pool [(2, .class_ 4), (1, u "java/lang/Object"), (0, u "<init>"), (0, u "()V"), (0, .methodref 8 9), (0, .class_ 10), (0, .nameAndType 11 12), (0, u "com/example/citadel_hill/citadelhill/cell/CurrentPulseEqualsPinLaw"), (0, u "key"), (0, u "(I)I"), (0, .methodref 8 14), (0, .nameAndType 15 12), (0, u "durKey"), (0, .class_ 17), (0, u "com/example/citadel_hill/citadelhill/cell/CurrentPulse"), (0, .methodref 8 19), (0, .nameAndType 20 21), (0, u "num"), (0, u "(I)D"), (0, .methodref 16 23), (0, .nameAndType 5 24), (0, u "(DDD)V"), (0, .methodref 16 26), (0, .nameAndType 27 28), (0, u "equals"), (0, u "(Ljava/lang/Object;)Z"), (0, .methodref 30 31), (0, .class_ 32), (0, .nameAndType 33 34), (0, u "java/lang/Integer"), (0, u "valueOf"), (0, u "(I)Ljava/lang/Integer;"), (3, u "law"), (0, u "(IIIIII)Z")] 2

def k1m0 : Method := { name := "<init>", desc := "()V", sig := { parameters := [], returnType := none }, accessFlags := 1, code := none }
def k1c1 : Code := { maxStack := 2, maxLocals := 1, code := method_2_code, exceptionTable := #[], attributes := #[] }
def k1m1 : Method := { name := "key", desc := "(I)I", sig := { parameters := [.int], returnType := some .int }, accessFlags := 10, code := some k1c1 }
def k1c2 : Code := { maxStack := 2, maxLocals := 2, code := method_3_code, exceptionTable := #[], attributes := #[] }
def k1m2 : Method := { name := "durKey", desc := "(I)I", sig := { parameters := [.int], returnType := some .int }, accessFlags := 10, code := some k1c2 }
def k1c3 : Code := { maxStack := 2, maxLocals := 3, code := method_4_code, exceptionTable := #[], attributes := #[] }
def k1m3 : Method := { name := "num", desc := "(I)D", sig := { parameters := [.int], returnType := some .double }, accessFlags := 10, code := some k1c3 }
def k1c4 : Code := { maxStack := 8, maxLocals := 17, code := code, exceptionTable := #[], attributes := #[] }
def k1m4 : Method := { name := "law", desc := "(IIIIII)Z", sig := { parameters := [.int, .int, .int, .int, .int, .int], returnType := some .boolean }, accessFlags := 9, code := some k1c4 }
/-- com/example/citadel_hill/citadelhill/cell/CurrentPulseEqualsPinLaw -/
def k1 : Class := { plain "com/example/citadel_hill/citadelhill/cell/CurrentPulseEqualsPinLaw" (some 0) with
  accessFlags := 49
  interfaces := #[]
  cf := some (fileOf pool1 8 #[] #[{ accessFlags := 1, nameIndex := 5, descriptorIndex := 6, attributes := #[] }, { accessFlags := 10, nameIndex := 11, descriptorIndex := 12, attributes := #[] }, { accessFlags := 10, nameIndex := 15, descriptorIndex := 12, attributes := #[] }, { accessFlags := 10, nameIndex := 20, descriptorIndex := 21, attributes := #[] }, { accessFlags := 9, nameIndex := 38, descriptorIndex := 39, attributes := #[] }] 49 2 #[] #[])
  fields := #[]
  methods := #[k1m0, k1m1, k1m2, k1m3, k1m4]
  instanceTypes := #[]
  staticTypes := #[]
  resolved := Array.replicate 42 none
  statics := none }

def pool2 : Array CpInfo := pool [(1, .methodref 2 3), (0, .class_ 4), (0, .nameAndType 5 6), (0, u "java/lang/Object"), (0, u "<init>"), (0, u "()V"), (0, .string 8), (0, u "delay"), (0, .methodref 10 11), (0, .class_ 12), (0, .nameAndType 13 14), (0, u "com/example/citadel_hill/citadelhill/channel/ParameterChecks"), (0, u "requireFinite"), (0, u "(Ljava/lang/String;D)D"), (0, .string 16), (0, u "duration"), (0, .methodref 10 18), (0, .nameAndType 19 14), (0, u "requireNonNegative"), (0, .string 21), (0, u "amplitude"), (0, .fieldref 23 24), (0, .class_ 25), (0, .nameAndType 8 26), (0, u "com/example/citadel_hill/citadelhill/cell/CurrentPulse"), (0, u "D"), (0, .fieldref 23 28), (0, .nameAndType 16 26), (0, .fieldref 23 30), (0, .nameAndType 21 26), (7, .methodref 39 40), (0, .class_ 41), (0, .nameAndType 42 43), (0, u "java/lang/Double"), (0, u "compare"), (0, u "(DD)I"), (10, u "(DDD)V"), (5, u "equals"), (0, u "(Ljava/lang/Object;)Z")] 4

def k2c0 : Code := { maxStack := 3, maxLocals := 7, code := prog_4_method_1_code, exceptionTable := #[], attributes := #[] }
def k2m0 : Method := { name := "<init>", desc := "(DDD)V", sig := { parameters := [.double, .double, .double], returnType := none }, accessFlags := 1, code := some k2c0 }
def k2c1 : Code := { maxStack := 4, maxLocals := 3, code := prog_4_method_5_code, exceptionTable := #[], attributes := #[] }
def k2m1 : Method := { name := "equals", desc := "(Ljava/lang/Object;)Z", sig := { parameters := [(.object "java/lang/Object")], returnType := some .boolean }, accessFlags := 1, code := some k2c1 }
/-- com/example/citadel_hill/citadelhill/cell/CurrentPulse -/
def k2 : Class := { plain "com/example/citadel_hill/citadelhill/cell/CurrentPulse" (some 0) with
  accessFlags := 49
  interfaces := #[]
  cf := some (fileOf pool2 23 #[] #[{ accessFlags := 1, nameIndex := 5, descriptorIndex := 54, attributes := #[] }, { accessFlags := 1, nameIndex := 60, descriptorIndex := 61, attributes := #[] }] 49 2 #[] #[{ accessFlags := 18, nameIndex := 8, descriptorIndex := 26, attributes := #[] }, { accessFlags := 18, nameIndex := 16, descriptorIndex := 26, attributes := #[] }, { accessFlags := 18, nameIndex := 21, descriptorIndex := 26, attributes := #[] }])
  fields := #[{ name := "delay", type := .double, accessFlags := 18, slot := 0, constantValue := 0 }, { name := "duration", type := .double, accessFlags := 18, slot := 1, constantValue := 0 }, { name := "amplitude", type := .double, accessFlags := 18, slot := 2, constantValue := 0 }]
  methods := #[k2m0, k2m1]
  instanceTypes := #[.double, .double, .double]
  staticTypes := #[]
  resolved := Array.replicate 66 none
  statics := none }

def pool3 : Array CpInfo := pool [(1, .class_ 2), (0, u "java/io/Serializable"), (0, .class_ 4), (0, u "java/lang/Object")] 2

/-- java/io/Serializable -/
def k3 : Class := { plain "java/io/Serializable" (some 0) with
  accessFlags := 1537
  interfaces := #[]
  cf := some (fileOf pool3 1 #[] #[] 1537 3 #[] #[])
  fields := #[]
  methods := #[]
  instanceTypes := #[]
  staticTypes := #[]
  resolved := Array.replicate 7 none
  statics := none }

def pool4 : Array CpInfo := pool [(1, .class_ 2), (0, u "java/lang/Comparable"), (0, .class_ 4), (0, u "java/lang/Object")] 7

/-- java/lang/Comparable -/
def k4 : Class := { plain "java/lang/Comparable" (some 0) with
  accessFlags := 1537
  interfaces := #[]
  cf := some (fileOf pool4 1 #[] #[] 1537 3 #[] #[])
  fields := #[]
  methods := #[]
  instanceTypes := #[]
  staticTypes := #[]
  resolved := Array.replicate 12 none
  statics := none }

def pool5 : Array CpInfo := pool [(2, .class_ 4), (1, u "java/lang/CharSequence"), (42, .class_ 48), (0, u "java/lang/CharSequence$1CodePointIterator"), (10, .class_ 60), (0, u "java/lang/CharSequence$1CharIterator"), (5, .class_ 67), (0, u "java/lang/Object")] 63

/-- java/lang/CharSequence -/
def k5 : Class := { plain "java/lang/CharSequence" (some 0) with
  accessFlags := 1537
  interfaces := #[]
  cf := some (fileOf pool5 2 #[.nestMembers #[47, 59]] #[] 1537 66 #[] #[])
  fields := #[]
  methods := #[]
  instanceTypes := #[]
  staticTypes := #[]
  resolved := Array.replicate 131 none
  statics := none }

def pool6 : Array CpInfo := pool [(1, .class_ 2), (0, u "java/lang/constant/Constable"), (0, .class_ 4), (0, u "java/lang/Object")] 6

/-- java/lang/constant/Constable -/
def k6 : Class := { plain "java/lang/constant/Constable" (some 0) with
  accessFlags := 1537
  interfaces := #[]
  cf := some (fileOf pool6 1 #[] #[] 1537 3 #[] #[])
  fields := #[]
  methods := #[]
  instanceTypes := #[]
  staticTypes := #[]
  resolved := Array.replicate 11 none
  statics := none }

def pool7 : Array CpInfo := pool [(1, .class_ 2), (0, u "java/lang/constant/ConstantDesc"), (0, .class_ 4), (0, u "java/lang/Object")] 32

/-- java/lang/constant/ConstantDesc -/
def k7 : Class := { plain "java/lang/constant/ConstantDesc" (some 0) with
  accessFlags := 1537
  interfaces := #[]
  cf := some (fileOf pool7 1 #[] #[] 1537 3 #[] #[])
  fields := #[]
  methods := #[]
  instanceTypes := #[]
  staticTypes := #[]
  resolved := Array.replicate 37 none
  statics := none }

def pool8 : Array CpInfo := pool [(2, .class_ 4), (1, u "java/lang/Object"), (0, u "<init>"), (0, u "()V"), (3, .class_ 12), (1, u "java/lang/String"), (0, u "value"), (0, u "[B"), (2, u "coder"), (0, u "B"), (2, u "hash"), (0, u "I"), (2, u "hashIsZero"), (0, u "Z"), (13, u "COMPACT_STRINGS"), (534, .class_ 576), (0, u "java/lang/CharSequence"), (22, u "CASE_INSENSITIVE_ORDER"), (0, u "Ljava/util/Comparator;"), (500, u "serialPersistentFields"), (0, u "[Ljava/io/ObjectStreamField;"), (0, .class_ 1104), (0, u "java/lang/String$CaseInsensitiveComparator"), (1, .class_ 1107), (0, u "java/io/Serializable"), (0, .class_ 1109), (0, u "java/lang/Comparable"), (0, .class_ 1111), (0, u "java/lang/constant/Constable"), (0, .class_ 1113), (0, u "java/lang/constant/ConstantDesc"), (2, u "serialVersionUID"), (0, u "J"), (3, u "REPL"), (0, u "C"), (2, u "LATIN1"), (1, u "UTF16")] 323

def k8m0 : Method := { name := "<init>", desc := "()V", sig := { parameters := [], returnType := none }, accessFlags := 1, code := none }
/-- java/lang/String -/
def k8 : Class := { plain "java/lang/String" (some 0) with
  accessFlags := 49
  interfaces := #[3, 4, 5, 6, 7]
  cf := some (fileOf pool8 10 #[.nestMembers #[1103]] #[{ accessFlags := 1, nameIndex := 5, descriptorIndex := 6, attributes := #[] }] 49 2 #[1106, 1108, 575, 1110, 1112] #[{ accessFlags := 18, nameIndex := 13, descriptorIndex := 14, attributes := #[] }, { accessFlags := 18, nameIndex := 17, descriptorIndex := 18, attributes := #[] }, { accessFlags := 2, nameIndex := 21, descriptorIndex := 22, attributes := #[] }, { accessFlags := 2, nameIndex := 25, descriptorIndex := 26, attributes := #[] }, { accessFlags := 26, nameIndex := 1116, descriptorIndex := 1117, attributes := #[] }, { accessFlags := 24, nameIndex := 40, descriptorIndex := 26, attributes := #[] }, { accessFlags := 26, nameIndex := 1101, descriptorIndex := 1102, attributes := #[] }, { accessFlags := 26, nameIndex := 1121, descriptorIndex := 1122, attributes := #[] }, { accessFlags := 25, nameIndex := 599, descriptorIndex := 600, attributes := #[] }, { accessFlags := 24, nameIndex := 1125, descriptorIndex := 18, attributes := #[] }, { accessFlags := 24, nameIndex := 1127, descriptorIndex := 18, attributes := #[] }])
  fields := #[{ name := "value", type := (.array .byte), accessFlags := 18, slot := 0, constantValue := 0 }, { name := "coder", type := .byte, accessFlags := 18, slot := 1, constantValue := 0 }, { name := "hash", type := .int, accessFlags := 2, slot := 2, constantValue := 0 }, { name := "hashIsZero", type := .boolean, accessFlags := 2, slot := 3, constantValue := 0 }, { name := "serialVersionUID", type := .long, accessFlags := 26, slot := 0, constantValue := 0 }, { name := "COMPACT_STRINGS", type := .boolean, accessFlags := 24, slot := 1, constantValue := 0 }, { name := "serialPersistentFields", type := (.array (.object "java/io/ObjectStreamField")), accessFlags := 26, slot := 2, constantValue := 0 }, { name := "REPL", type := .char, accessFlags := 26, slot := 3, constantValue := 0 }, { name := "CASE_INSENSITIVE_ORDER", type := (.object "java/util/Comparator"), accessFlags := 25, slot := 4, constantValue := 0 }, { name := "LATIN1", type := .byte, accessFlags := 24, slot := 5, constantValue := 0 }, { name := "UTF16", type := .byte, accessFlags := 24, slot := 6, constantValue := 0 }]
  methods := #[k8m0]
  instanceTypes := #[(.array .byte), .byte, .int, .boolean]
  staticTypes := #[.long, .boolean, (.array (.object "java/io/ObjectStreamField")), .char, (.object "java/util/Comparator"), .byte, .byte]
  resolved := Array.replicate 1451 none
  statics := none }

def pool9 : Array CpInfo := pool [(2, .class_ 4), (1, u "java/lang/Object"), (0, u "<init>"), (0, u "()V"), (0, .methodref 8 9), (0, .class_ 10), (0, .nameAndType 11 12), (0, u "java/lang/Double"), (0, u "isFinite"), (0, u "(D)Z"), (0, .string 14), (0, u "finite"), (0, .methodref 16 17), (0, .class_ 18), (0, .nameAndType 19 20), (0, u "com/example/citadel_hill/citadelhill/channel/ParameterChecks"), (0, u "require"), (0, u "(ZLjava/lang/String;Ljava/lang/String;D)D"), (4, .string 26), (0, u "non-negative and finite"), (19, u "requireFinite"), (0, u "(Ljava/lang/String;D)D"), (3, u "requireNonNegative")] 2

def k9m0 : Method := { name := "<init>", desc := "()V", sig := { parameters := [], returnType := none }, accessFlags := 2, code := none }
def k9c1 : Code := { maxStack := 5, maxLocals := 3, code := prog_24_method_2_code, exceptionTable := #[], attributes := #[] }
def k9m1 : Method := { name := "requireFinite", desc := "(Ljava/lang/String;D)D", sig := { parameters := [(.object "java/lang/String"), .double], returnType := some .double }, accessFlags := 9, code := some k9c1 }
def k9c2 : Code := { maxStack := 5, maxLocals := 3, code := prog_24_method_5_code, exceptionTable := #[], attributes := #[] }
def k9m2 : Method := { name := "requireNonNegative", desc := "(Ljava/lang/String;D)D", sig := { parameters := [(.object "java/lang/String"), .double], returnType := some .double }, accessFlags := 9, code := some k9c2 }
def k9c3 : Code := { maxStack := 8, maxLocals := 5, code := prog_24_method_6_code, exceptionTable := #[], attributes := #[] }
def k9m3 : Method := { name := "require", desc := "(ZLjava/lang/String;Ljava/lang/String;D)D", sig := { parameters := [.boolean, (.object "java/lang/String"), (.object "java/lang/String"), .double], returnType := some .double }, accessFlags := 10, code := some k9c3 }
/-- com/example/citadel_hill/citadelhill/channel/ParameterChecks -/
def k9 : Class := { plain "com/example/citadel_hill/citadelhill/channel/ParameterChecks" (some 0) with
  accessFlags := 49
  interfaces := #[]
  cf := some (fileOf pool9 16 #[] #[{ accessFlags := 2, nameIndex := 5, descriptorIndex := 6, attributes := #[] }, { accessFlags := 9, nameIndex := 46, descriptorIndex := 47, attributes := #[] }, { accessFlags := 9, nameIndex := 51, descriptorIndex := 47, attributes := #[] }, { accessFlags := 10, nameIndex := 19, descriptorIndex := 20, attributes := #[] }] 49 2 #[] #[])
  fields := #[]
  methods := #[k9m0, k9m1, k9m2, k9m3]
  instanceTypes := #[]
  staticTypes := #[]
  resolved := Array.replicate 54 none
  statics := none }

def pool10 : Array CpInfo := pool [(1, .methodref 2 3), (0, .class_ 4), (0, .nameAndType 5 6), (0, u "java/lang/Object"), (0, u "<init>"), (0, u "()V"), (1, .class_ 10), (1, u "java/lang/Number"), (2, .class_ 14), (0, u "java/io/Serializable"), (0, u "serialVersionUID"), (0, u "J")] 20

def k10c0 : Code := { maxStack := 1, maxLocals := 1, code := jdk_18_method_1_code, exceptionTable := #[], attributes := #[] }
def k10m0 : Method := { name := "<init>", desc := "()V", sig := { parameters := [], returnType := none }, accessFlags := 1, code := some k10c0 }
/-- java/lang/Number -/
def k10 : Class := { plain "java/lang/Number" (some 0) with
  accessFlags := 1057
  interfaces := #[3]
  cf := some (fileOf pool10 8 #[] #[{ accessFlags := 1, nameIndex := 5, descriptorIndex := 6, attributes := #[] }] 1057 2 #[13] #[{ accessFlags := 26, nameIndex := 15, descriptorIndex := 16, attributes := #[] }])
  fields := #[{ name := "serialVersionUID", type := .long, accessFlags := 26, slot := 0, constantValue := 0 }]
  methods := #[k10m0]
  instanceTypes := #[]
  staticTypes := #[.long]
  resolved := Array.replicate 37 none
  statics := none }

def pool11 : Array CpInfo := pool [(1, .class_ 2), (0, u "java/lang/Double"), (10, u "isFinite"), (0, u "(D)Z"), (8, .class_ 25), (1, u "java/lang/Math"), (12, .methodref 23 39), (0, .nameAndType 40 41), (0, u "abs"), (0, u "(D)D"), (4, .methodref 1 47), (0, .nameAndType 48 49), (0, u "doubleToLongBits"), (0, u "(D)J"), (61, .double 9218868437227405311), (2, .class_ 116), (1, u "java/lang/Number"), (3, u "value"), (0, u "D"), (0, .methodref 1 123), (0, .nameAndType 124 14), (0, u "isNaN"), (9, .methodref 1 135), (0, .nameAndType 136 49), (0, u "doubleToRawLongBits"), (4, u "compare"), (0, u "(DD)I"), (30, u "TYPE"), (0, u "Ljava/lang/Class;"), (0, .class_ 176), (0, u "java/lang/Comparable"), (0, .class_ 178), (0, u "java/lang/constant/Constable"), (0, .class_ 180), (0, u "java/lang/constant/ConstantDesc"), (0, u "POSITIVE_INFINITY"), (3, u "NEGATIVE_INFINITY"), (2, u "NaN"), (2, u "MAX_VALUE"), (0, u "MIN_NORMAL"), (0, u "MIN_VALUE"), (2, u "SIZE"), (0, u "I"), (1, u "PRECISION"), (1, u "MAX_EXPONENT"), (1, u "MIN_EXPONENT"), (1, u "BYTES"), (3, u "serialVersionUID"), (0, u "J")] 79

def k11c0 : Code := { maxStack := 4, maxLocals := 2, code := jdk_117_method_6_code, exceptionTable := #[], attributes := #[] }
def k11m0 : Method := { name := "isNaN", desc := "(D)Z", sig := { parameters := [.double], returnType := some .boolean }, accessFlags := 9, code := some k11c0 }
def k11c1 : Code := { maxStack := 4, maxLocals := 2, code := jdk_117_method_8_code, exceptionTable := #[], attributes := #[] }
def k11m1 : Method := { name := "isFinite", desc := "(D)Z", sig := { parameters := [.double], returnType := some .boolean }, accessFlags := 9, code := some k11c1 }
def k11c2 : Code := { maxStack := 2, maxLocals := 2, code := jdk_117_method_23_code, exceptionTable := #[], attributes := #[] }
def k11m2 : Method := { name := "doubleToLongBits", desc := "(D)J", sig := { parameters := [.double], returnType := some .long }, accessFlags := 9, code := some k11c2 }
def k11m3 : Method := { name := "doubleToRawLongBits", desc := "(D)J", sig := { parameters := [.double], returnType := some .long }, accessFlags := 265, code := none }
def k11c4 : Code := { maxStack := 4, maxLocals := 8, code := jdk_117_method_27_code, exceptionTable := #[], attributes := #[] }
def k11m4 : Method := { name := "compare", desc := "(DD)I", sig := { parameters := [.double, .double], returnType := some .int }, accessFlags := 9, code := some k11c4 }
/-- java/lang/Double -/
def k11 : Class := { plain "java/lang/Double" (some 10) with
  accessFlags := 49
  interfaces := #[4, 6, 7]
  cf := some (fileOf pool11 1 #[] #[{ accessFlags := 9, nameIndex := 124, descriptorIndex := 14, attributes := #[] }, { accessFlags := 9, nameIndex := 13, descriptorIndex := 14, attributes := #[] }, { accessFlags := 9, nameIndex := 48, descriptorIndex := 49, attributes := #[] }, { accessFlags := 265, nameIndex := 136, descriptorIndex := 49, attributes := #[] }, { accessFlags := 9, nameIndex := 141, descriptorIndex := 142, attributes := #[] }] 49 114 #[175, 177, 179] #[{ accessFlags := 25, nameIndex := 181, descriptorIndex := 121, attributes := #[] }, { accessFlags := 25, nameIndex := 185, descriptorIndex := 121, attributes := #[] }, { accessFlags := 25, nameIndex := 188, descriptorIndex := 121, attributes := #[] }, { accessFlags := 25, nameIndex := 191, descriptorIndex := 121, attributes := #[] }, { accessFlags := 25, nameIndex := 192, descriptorIndex := 121, attributes := #[] }, { accessFlags := 25, nameIndex := 193, descriptorIndex := 121, attributes := #[] }, { accessFlags := 25, nameIndex := 196, descriptorIndex := 197, attributes := #[] }, { accessFlags := 25, nameIndex := 199, descriptorIndex := 197, attributes := #[] }, { accessFlags := 25, nameIndex := 201, descriptorIndex := 197, attributes := #[] }, { accessFlags := 25, nameIndex := 203, descriptorIndex := 197, attributes := #[] }, { accessFlags := 25, nameIndex := 205, descriptorIndex := 197, attributes := #[] }, { accessFlags := 25, nameIndex := 173, descriptorIndex := 174, attributes := #[] }, { accessFlags := 18, nameIndex := 120, descriptorIndex := 121, attributes := #[] }, { accessFlags := 26, nameIndex := 209, descriptorIndex := 210, attributes := #[] }])
  fields := #[{ name := "POSITIVE_INFINITY", type := .double, accessFlags := 25, slot := 0, constantValue := 0 }, { name := "NEGATIVE_INFINITY", type := .double, accessFlags := 25, slot := 1, constantValue := 0 }, { name := "NaN", type := .double, accessFlags := 25, slot := 2, constantValue := 0 }, { name := "MAX_VALUE", type := .double, accessFlags := 25, slot := 3, constantValue := 0 }, { name := "MIN_NORMAL", type := .double, accessFlags := 25, slot := 4, constantValue := 0 }, { name := "MIN_VALUE", type := .double, accessFlags := 25, slot := 5, constantValue := 0 }, { name := "SIZE", type := .int, accessFlags := 25, slot := 6, constantValue := 0 }, { name := "PRECISION", type := .int, accessFlags := 25, slot := 7, constantValue := 0 }, { name := "MAX_EXPONENT", type := .int, accessFlags := 25, slot := 8, constantValue := 0 }, { name := "MIN_EXPONENT", type := .int, accessFlags := 25, slot := 9, constantValue := 0 }, { name := "BYTES", type := .int, accessFlags := 25, slot := 10, constantValue := 0 }, { name := "TYPE", type := (.object "java/lang/Class"), accessFlags := 25, slot := 11, constantValue := 0 }, { name := "value", type := .double, accessFlags := 18, slot := 0, constantValue := 0 }, { name := "serialVersionUID", type := .long, accessFlags := 26, slot := 12, constantValue := 0 }]
  methods := #[k11m0, k11m1, k11m2, k11m3, k11m4]
  instanceTypes := #[.double]
  staticTypes := #[.double, .double, .double, .double, .double, .double, .int, .int, .int, .int, .int, (.object "java/lang/Class"), .long]
  resolved := Array.replicate 290 none
  statics := none }

def pool12 : Array CpInfo := pool [(1, .class_ 2), (0, u "java/lang/Math"), (1, .class_ 6), (1, u "java/lang/Object"), (0, u "<init>"), (0, u "()V"), (5, u "(D)D"), (83, .class_ 100), (1, u "java/lang/Math$RandomNumberGeneratorHolder"), (23, u "abs"), (47, u "negativeZeroFloatBits"), (0, u "J"), (2, u "negativeZeroDoubleBits"), (68, u "$assertionsDisabled"), (0, u "Z"), (91, u "twoToTheDoubleScaleDown"), (0, u "D"), (4, u "twoToTheDoubleScaleUp"), (9, u "E"), (3, u "PI"), (2, u "TAU"), (2, u "DEGREES_TO_RADIANS"), (0, u "RADIANS_TO_DEGREES")] 94

def k12m0 : Method := { name := "<init>", desc := "()V", sig := { parameters := [], returnType := none }, accessFlags := 2, code := none }
def k12c1 : Code := { maxStack := 4, maxLocals := 2, code := jdk_29_method_64_code, exceptionTable := #[], attributes := #[] }
def k12m1 : Method := { name := "abs", desc := "(D)D", sig := { parameters := [.double], returnType := some .double }, accessFlags := 9, code := some k12c1 }
/-- java/lang/Math -/
def k12 : Class := { plain "java/lang/Math" (some 0) with
  accessFlags := 49
  interfaces := #[]
  cf := some (fileOf pool12 1 #[.nestMembers #[98]] #[{ accessFlags := 2, nameIndex := 7, descriptorIndex := 8, attributes := #[] }, { accessFlags := 9, nameIndex := 124, descriptorIndex := 14, attributes := #[] }] 49 4 #[] #[{ accessFlags := 25, nameIndex := 354, descriptorIndex := 339, attributes := #[] }, { accessFlags := 25, nameIndex := 358, descriptorIndex := 339, attributes := #[] }, { accessFlags := 25, nameIndex := 361, descriptorIndex := 339, attributes := #[] }, { accessFlags := 26, nameIndex := 364, descriptorIndex := 339, attributes := #[] }, { accessFlags := 26, nameIndex := 365, descriptorIndex := 339, attributes := #[] }, { accessFlags := 26, nameIndex := 172, descriptorIndex := 173, attributes := #[] }, { accessFlags := 26, nameIndex := 176, descriptorIndex := 173, attributes := #[] }, { accessFlags := 8, nameIndex := 344, descriptorIndex := 339, attributes := #[] }, { accessFlags := 8, nameIndex := 338, descriptorIndex := 339, attributes := #[] }, { accessFlags := 4120, nameIndex := 245, descriptorIndex := 246, attributes := #[] }])
  fields := #[{ name := "E", type := .double, accessFlags := 25, slot := 0, constantValue := 0 }, { name := "PI", type := .double, accessFlags := 25, slot := 1, constantValue := 0 }, { name := "TAU", type := .double, accessFlags := 25, slot := 2, constantValue := 0 }, { name := "DEGREES_TO_RADIANS", type := .double, accessFlags := 26, slot := 3, constantValue := 0 }, { name := "RADIANS_TO_DEGREES", type := .double, accessFlags := 26, slot := 4, constantValue := 0 }, { name := "negativeZeroFloatBits", type := .long, accessFlags := 26, slot := 5, constantValue := 0 }, { name := "negativeZeroDoubleBits", type := .long, accessFlags := 26, slot := 6, constantValue := 0 }, { name := "twoToTheDoubleScaleUp", type := .double, accessFlags := 8, slot := 7, constantValue := 0 }, { name := "twoToTheDoubleScaleDown", type := .double, accessFlags := 8, slot := 8, constantValue := 0 }, { name := "$assertionsDisabled", type := .boolean, accessFlags := 4120, slot := 9, constantValue := 0 }]
  methods := #[k12m0, k12m1]
  instanceTypes := #[]
  staticTypes := #[.double, .double, .double, .double, .double, .long, .long, .double, .double, .boolean]
  resolved := Array.replicate 460 none
  statics := none }

def pool13 : Array CpInfo := pool [(1, .class_ 2), (0, u "java/lang/Integer"), (16, u "digits"), (0, u "[C"), (46, u "<init>"), (17, u "DigitOnes"), (0, u "[B"), (2, u "DigitTens"), (10, .nameAndType 67 101), (0, u "()V"), (85, u "valueOf"), (0, u "(I)Ljava/lang/Integer;"), (0, .class_ 190), (0, u "java/lang/Integer$IntegerCache"), (0, .fieldref 189 192), (0, .nameAndType 193 194), (0, u "high"), (0, u "I"), (0, .fieldref 189 196), (0, .nameAndType 197 198), (0, u "cache"), (0, u "[Ljava/lang/Integer;"), (0, .methodref 1 200), (0, .nameAndType 67 201), (0, u "(I)V"), (0, .methodref 203 100), (0, .class_ 204), (0, u "java/lang/Number"), (0, .fieldref 1 206), (0, .nameAndType 207 194), (0, u "value"), (94, u "TYPE"), (0, u "Ljava/lang/Class;"), (0, .class_ 305), (0, u "java/lang/Comparable"), (0, .class_ 307), (0, u "java/lang/constant/Constable"), (0, .class_ 309), (0, u "java/lang/constant/ConstantDesc"), (0, u "MIN_VALUE"), (1, u "MAX_VALUE"), (3, u "SIZE"), (1, u "BYTES"), (1, u "serialVersionUID"), (0, u "J")] 131

def k13c0 : Code := { maxStack := 3, maxLocals := 1, code := jdk_33_method_22_code, exceptionTable := #[], attributes := #[] }
def k13m0 : Method := { name := "valueOf", desc := "(I)Ljava/lang/Integer;", sig := { parameters := [.int], returnType := some (.object "java/lang/Integer") }, accessFlags := 9, code := some k13c0 }
def k13c1 : Code := { maxStack := 2, maxLocals := 2, code := jdk_33_method_23_code, exceptionTable := #[], attributes := #[] }
def k13m1 : Method := { name := "<init>", desc := "(I)V", sig := { parameters := [.int], returnType := none }, accessFlags := 1, code := some k13c1 }
/-- java/lang/Integer -/
def k13 : Class := { plain "java/lang/Integer" (some 10) with
  accessFlags := 49
  interfaces := #[4, 6, 7]
  cf := some (fileOf pool13 1 #[.nestMembers #[189]] #[{ accessFlags := 9, nameIndex := 187, descriptorIndex := 188, attributes := #[] }, { accessFlags := 1, nameIndex := 67, descriptorIndex := 201, attributes := #[] }] 49 203 #[304, 306, 308] #[{ accessFlags := 25, nameIndex := 310, descriptorIndex := 194, attributes := #[] }, { accessFlags := 25, nameIndex := 312, descriptorIndex := 194, attributes := #[] }, { accessFlags := 25, nameIndex := 302, descriptorIndex := 303, attributes := #[] }, { accessFlags := 24, nameIndex := 19, descriptorIndex := 20, attributes := #[] }, { accessFlags := 24, nameIndex := 89, descriptorIndex := 86, attributes := #[] }, { accessFlags := 24, nameIndex := 85, descriptorIndex := 86, attributes := #[] }, { accessFlags := 18, nameIndex := 207, descriptorIndex := 194, attributes := #[] }, { accessFlags := 25, nameIndex := 316, descriptorIndex := 194, attributes := #[] }, { accessFlags := 25, nameIndex := 318, descriptorIndex := 194, attributes := #[] }, { accessFlags := 26, nameIndex := 320, descriptorIndex := 321, attributes := #[] }])
  fields := #[{ name := "MIN_VALUE", type := .int, accessFlags := 25, slot := 0, constantValue := 0 }, { name := "MAX_VALUE", type := .int, accessFlags := 25, slot := 1, constantValue := 0 }, { name := "TYPE", type := (.object "java/lang/Class"), accessFlags := 25, slot := 2, constantValue := 0 }, { name := "digits", type := (.array .char), accessFlags := 24, slot := 3, constantValue := 0 }, { name := "DigitTens", type := (.array .byte), accessFlags := 24, slot := 4, constantValue := 0 }, { name := "DigitOnes", type := (.array .byte), accessFlags := 24, slot := 5, constantValue := 0 }, { name := "value", type := .int, accessFlags := 18, slot := 0, constantValue := 0 }, { name := "SIZE", type := .int, accessFlags := 25, slot := 6, constantValue := 0 }, { name := "BYTES", type := .int, accessFlags := 25, slot := 7, constantValue := 0 }, { name := "serialVersionUID", type := .long, accessFlags := 26, slot := 8, constantValue := 0 }]
  methods := #[k13m0, k13m1]
  instanceTypes := #[.int]
  staticTypes := #[.int, .int, (.object "java/lang/Class"), (.array .char), (.array .byte), (.array .byte), .int, .int, .long]
  resolved := Array.replicate 453 none
  statics := none }

def pool14 : Array CpInfo := pool [(2, .class_ 4), (1, u "java/lang/Object"), (0, u "<init>"), (0, u "()V"), (0, .class_ 8), (0, u "java/lang/Integer"), (7, .class_ 18), (1, u "java/lang/Integer$IntegerCache"), (0, u "$assertionsDisabled"), (0, u "Z"), (26, u "high"), (0, u "I"), (8, u "archivedCache"), (0, u "[Ljava/lang/Integer;"), (12, u "cache"), (0, u "low")] 27

def k14m0 : Method := { name := "<init>", desc := "()V", sig := { parameters := [], returnType := none }, accessFlags := 2, code := none }
/-- java/lang/Integer$IntegerCache -/
def k14 : Class := { plain "java/lang/Integer$IntegerCache" (some 0) with
  accessFlags := 48
  interfaces := #[]
  cf := some (fileOf pool14 16 #[.nestHost 7] #[{ accessFlags := 2, nameIndex := 5, descriptorIndex := 6, attributes := #[] }] 48 2 #[] #[{ accessFlags := 24, nameIndex := 72, descriptorIndex := 48, attributes := #[] }, { accessFlags := 24, nameIndex := 47, descriptorIndex := 48, attributes := #[] }, { accessFlags := 24, nameIndex := 71, descriptorIndex := 58, attributes := #[] }, { accessFlags := 8, nameIndex := 57, descriptorIndex := 58, attributes := #[] }, { accessFlags := 4120, nameIndex := 19, descriptorIndex := 20, attributes := #[] }])
  fields := #[{ name := "low", type := .int, accessFlags := 24, slot := 0, constantValue := 0 }, { name := "high", type := .int, accessFlags := 24, slot := 1, constantValue := 0 }, { name := "cache", type := (.array (.object "java/lang/Integer")), accessFlags := 24, slot := 2, constantValue := 0 }, { name := "archivedCache", type := (.array (.object "java/lang/Integer")), accessFlags := 8, slot := 3, constantValue := 0 }, { name := "$assertionsDisabled", type := .boolean, accessFlags := 4120, slot := 4, constantValue := 0 }]
  methods := #[k14m0]
  instanceTypes := #[]
  staticTypes := #[.int, .int, (.array (.object "java/lang/Integer")), (.array (.object "java/lang/Integer")), .boolean]
  resolved := Array.replicate 100 none
  statics := some 0 }

def pool15 : Array CpInfo := pool [(1, u "java/lang/Cloneable"), (0, .class_ 1), (0, u "java/lang/Object"), (0, .class_ 3)] 3

/-- java/lang/Cloneable -/
def k15 : Class := { plain "java/lang/Cloneable" (some 0) with
  accessFlags := 1537
  interfaces := #[]
  cf := some (fileOf pool15 2 #[] #[] 1537 4 #[] #[])
  fields := #[]
  methods := #[]
  instanceTypes := #[]
  staticTypes := #[]
  resolved := Array.replicate 8 none
  statics := none }

/-- the primitive byte -/
def k16 : Class := { plain "byte" none with kind := .primitive 'B', accessFlags := 0x411 }
/-- [B -/
def k17 : Class := { plain "[B" (some 0) with kind := .array 16 .byte, interfaces := #[15, 3], accessFlags := 1041 }

/-- the primitive int -/
def k18 : Class := { plain "int" none with kind := .primitive 'I', accessFlags := 0x411 }
/-- [I -/
def k19 : Class := { plain "[I" (some 0) with kind := .array 18 .int, interfaces := #[15, 3], accessFlags := 1041 }

/-- [Ljava/lang/Integer; -/
def k20 : Class := { plain "[Ljava/lang/Integer;" (some 0) with kind := .array 13 (.object "java/lang/Integer"), interfaces := #[15, 3], accessFlags := 1041 }

def heap : Heap := #[{ cls := 14, slots := #[.int 0, .int 127, .ref 1, .null, .int 0], vm := .statics 14 },
  { cls := 20, slots := #[.ref 2, .ref 3, .ref 4, .ref 5, .ref 6, .ref 7, .ref 8, .ref 9, .ref 10, .ref 11, .ref 12, .ref 13, .ref 14, .ref 15, .ref 16, .ref 17, .ref 18, .ref 19, .ref 20, .ref 21, .ref 22, .ref 23, .ref 24, .ref 25, .ref 26, .ref 27, .ref 28, .ref 29, .ref 30, .ref 31, .ref 32, .ref 33, .ref 34, .ref 35, .ref 36, .ref 37, .ref 38, .ref 39, .ref 40, .ref 41, .ref 42, .ref 43, .ref 44, .ref 45, .ref 46, .ref 47, .ref 48, .ref 49, .ref 50, .ref 51, .ref 52, .ref 53, .ref 54, .ref 55, .ref 56, .ref 57, .ref 58, .ref 59, .ref 60, .ref 61, .ref 62, .ref 63, .ref 64, .ref 65, .ref 66, .ref 67, .ref 68, .ref 69, .ref 70, .ref 71, .ref 72, .ref 73, .ref 74, .ref 75, .ref 76, .ref 77, .ref 78, .ref 79, .ref 80, .ref 81, .ref 82, .ref 83, .ref 84, .ref 85, .ref 86, .ref 87, .ref 88, .ref 89, .ref 90, .ref 91, .ref 92, .ref 93, .ref 94, .ref 95, .ref 96, .ref 97, .ref 98, .ref 99, .ref 100, .ref 101, .ref 102, .ref 103, .ref 104, .ref 105, .ref 106, .ref 107, .ref 108, .ref 109, .ref 110, .ref 111, .ref 112, .ref 113, .ref 114, .ref 115, .ref 116, .ref 117, .ref 118, .ref 119, .ref 120, .ref 121, .ref 122, .ref 123, .ref 124, .ref 125, .ref 126, .ref 127, .ref 128, .ref 129, .ref 130, .ref 131, .ref 132, .ref 133, .ref 134, .ref 135, .ref 136, .ref 137, .ref 138, .ref 139, .ref 140, .ref 141, .ref 142, .ref 143, .ref 144, .ref 145, .ref 146, .ref 147, .ref 148, .ref 149, .ref 150, .ref 151, .ref 152, .ref 153, .ref 154, .ref 155, .ref 156, .ref 157, .ref 158, .ref 159, .ref 160, .ref 161, .ref 162, .ref 163, .ref 164, .ref 165, .ref 166, .ref 167, .ref 168, .ref 169, .ref 170, .ref 171, .ref 172, .ref 173, .ref 174, .ref 175, .ref 176, .ref 177, .ref 178, .ref 179, .ref 180, .ref 181, .ref 182, .ref 183, .ref 184, .ref 185, .ref 186, .ref 187, .ref 188, .ref 189, .ref 190, .ref 191, .ref 192, .ref 193, .ref 194, .ref 195, .ref 196, .ref 197, .ref 198, .ref 199, .ref 200, .ref 201, .ref 202, .ref 203, .ref 204, .ref 205, .ref 206, .ref 207, .ref 208, .ref 209, .ref 210, .ref 211, .ref 212, .ref 213, .ref 214, .ref 215, .ref 216, .ref 217, .ref 218, .ref 219, .ref 220, .ref 221, .ref 222, .ref 223, .ref 224, .ref 225, .ref 226, .ref 227, .ref 228, .ref 229, .ref 230, .ref 231, .ref 232, .ref 233, .ref 234, .ref 235, .ref 236, .ref 237, .ref 238, .ref 239, .ref 240, .ref 241, .ref 242, .ref 243, .ref 244, .ref 245, .ref 246, .ref 247, .ref 248, .ref 249, .ref 250, .ref 251, .ref 252, .ref 253, .ref 254, .ref 255, .ref 256, .ref 257], vm := .none },
  { cls := 13, slots := #[.int (-128)], vm := .none },
  { cls := 13, slots := #[.int (-127)], vm := .none },
  { cls := 13, slots := #[.int (-126)], vm := .none },
  { cls := 13, slots := #[.int (-125)], vm := .none },
  { cls := 13, slots := #[.int (-124)], vm := .none },
  { cls := 13, slots := #[.int (-123)], vm := .none },
  { cls := 13, slots := #[.int (-122)], vm := .none },
  { cls := 13, slots := #[.int (-121)], vm := .none },
  { cls := 13, slots := #[.int (-120)], vm := .none },
  { cls := 13, slots := #[.int (-119)], vm := .none },
  { cls := 13, slots := #[.int (-118)], vm := .none },
  { cls := 13, slots := #[.int (-117)], vm := .none },
  { cls := 13, slots := #[.int (-116)], vm := .none },
  { cls := 13, slots := #[.int (-115)], vm := .none },
  { cls := 13, slots := #[.int (-114)], vm := .none },
  { cls := 13, slots := #[.int (-113)], vm := .none },
  { cls := 13, slots := #[.int (-112)], vm := .none },
  { cls := 13, slots := #[.int (-111)], vm := .none },
  { cls := 13, slots := #[.int (-110)], vm := .none },
  { cls := 13, slots := #[.int (-109)], vm := .none },
  { cls := 13, slots := #[.int (-108)], vm := .none },
  { cls := 13, slots := #[.int (-107)], vm := .none },
  { cls := 13, slots := #[.int (-106)], vm := .none },
  { cls := 13, slots := #[.int (-105)], vm := .none },
  { cls := 13, slots := #[.int (-104)], vm := .none },
  { cls := 13, slots := #[.int (-103)], vm := .none },
  { cls := 13, slots := #[.int (-102)], vm := .none },
  { cls := 13, slots := #[.int (-101)], vm := .none },
  { cls := 13, slots := #[.int (-100)], vm := .none },
  { cls := 13, slots := #[.int (-99)], vm := .none },
  { cls := 13, slots := #[.int (-98)], vm := .none },
  { cls := 13, slots := #[.int (-97)], vm := .none },
  { cls := 13, slots := #[.int (-96)], vm := .none },
  { cls := 13, slots := #[.int (-95)], vm := .none },
  { cls := 13, slots := #[.int (-94)], vm := .none },
  { cls := 13, slots := #[.int (-93)], vm := .none },
  { cls := 13, slots := #[.int (-92)], vm := .none },
  { cls := 13, slots := #[.int (-91)], vm := .none },
  { cls := 13, slots := #[.int (-90)], vm := .none },
  { cls := 13, slots := #[.int (-89)], vm := .none },
  { cls := 13, slots := #[.int (-88)], vm := .none },
  { cls := 13, slots := #[.int (-87)], vm := .none },
  { cls := 13, slots := #[.int (-86)], vm := .none },
  { cls := 13, slots := #[.int (-85)], vm := .none },
  { cls := 13, slots := #[.int (-84)], vm := .none },
  { cls := 13, slots := #[.int (-83)], vm := .none },
  { cls := 13, slots := #[.int (-82)], vm := .none },
  { cls := 13, slots := #[.int (-81)], vm := .none },
  { cls := 13, slots := #[.int (-80)], vm := .none },
  { cls := 13, slots := #[.int (-79)], vm := .none },
  { cls := 13, slots := #[.int (-78)], vm := .none },
  { cls := 13, slots := #[.int (-77)], vm := .none },
  { cls := 13, slots := #[.int (-76)], vm := .none },
  { cls := 13, slots := #[.int (-75)], vm := .none },
  { cls := 13, slots := #[.int (-74)], vm := .none },
  { cls := 13, slots := #[.int (-73)], vm := .none },
  { cls := 13, slots := #[.int (-72)], vm := .none },
  { cls := 13, slots := #[.int (-71)], vm := .none },
  { cls := 13, slots := #[.int (-70)], vm := .none },
  { cls := 13, slots := #[.int (-69)], vm := .none },
  { cls := 13, slots := #[.int (-68)], vm := .none },
  { cls := 13, slots := #[.int (-67)], vm := .none },
  { cls := 13, slots := #[.int (-66)], vm := .none },
  { cls := 13, slots := #[.int (-65)], vm := .none },
  { cls := 13, slots := #[.int (-64)], vm := .none },
  { cls := 13, slots := #[.int (-63)], vm := .none },
  { cls := 13, slots := #[.int (-62)], vm := .none },
  { cls := 13, slots := #[.int (-61)], vm := .none },
  { cls := 13, slots := #[.int (-60)], vm := .none },
  { cls := 13, slots := #[.int (-59)], vm := .none },
  { cls := 13, slots := #[.int (-58)], vm := .none },
  { cls := 13, slots := #[.int (-57)], vm := .none },
  { cls := 13, slots := #[.int (-56)], vm := .none },
  { cls := 13, slots := #[.int (-55)], vm := .none },
  { cls := 13, slots := #[.int (-54)], vm := .none },
  { cls := 13, slots := #[.int (-53)], vm := .none },
  { cls := 13, slots := #[.int (-52)], vm := .none },
  { cls := 13, slots := #[.int (-51)], vm := .none },
  { cls := 13, slots := #[.int (-50)], vm := .none },
  { cls := 13, slots := #[.int (-49)], vm := .none },
  { cls := 13, slots := #[.int (-48)], vm := .none },
  { cls := 13, slots := #[.int (-47)], vm := .none },
  { cls := 13, slots := #[.int (-46)], vm := .none },
  { cls := 13, slots := #[.int (-45)], vm := .none },
  { cls := 13, slots := #[.int (-44)], vm := .none },
  { cls := 13, slots := #[.int (-43)], vm := .none },
  { cls := 13, slots := #[.int (-42)], vm := .none },
  { cls := 13, slots := #[.int (-41)], vm := .none },
  { cls := 13, slots := #[.int (-40)], vm := .none },
  { cls := 13, slots := #[.int (-39)], vm := .none },
  { cls := 13, slots := #[.int (-38)], vm := .none },
  { cls := 13, slots := #[.int (-37)], vm := .none },
  { cls := 13, slots := #[.int (-36)], vm := .none },
  { cls := 13, slots := #[.int (-35)], vm := .none },
  { cls := 13, slots := #[.int (-34)], vm := .none },
  { cls := 13, slots := #[.int (-33)], vm := .none },
  { cls := 13, slots := #[.int (-32)], vm := .none },
  { cls := 13, slots := #[.int (-31)], vm := .none },
  { cls := 13, slots := #[.int (-30)], vm := .none },
  { cls := 13, slots := #[.int (-29)], vm := .none },
  { cls := 13, slots := #[.int (-28)], vm := .none },
  { cls := 13, slots := #[.int (-27)], vm := .none },
  { cls := 13, slots := #[.int (-26)], vm := .none },
  { cls := 13, slots := #[.int (-25)], vm := .none },
  { cls := 13, slots := #[.int (-24)], vm := .none },
  { cls := 13, slots := #[.int (-23)], vm := .none },
  { cls := 13, slots := #[.int (-22)], vm := .none },
  { cls := 13, slots := #[.int (-21)], vm := .none },
  { cls := 13, slots := #[.int (-20)], vm := .none },
  { cls := 13, slots := #[.int (-19)], vm := .none },
  { cls := 13, slots := #[.int (-18)], vm := .none },
  { cls := 13, slots := #[.int (-17)], vm := .none },
  { cls := 13, slots := #[.int (-16)], vm := .none },
  { cls := 13, slots := #[.int (-15)], vm := .none },
  { cls := 13, slots := #[.int (-14)], vm := .none },
  { cls := 13, slots := #[.int (-13)], vm := .none },
  { cls := 13, slots := #[.int (-12)], vm := .none },
  { cls := 13, slots := #[.int (-11)], vm := .none },
  { cls := 13, slots := #[.int (-10)], vm := .none },
  { cls := 13, slots := #[.int (-9)], vm := .none },
  { cls := 13, slots := #[.int (-8)], vm := .none },
  { cls := 13, slots := #[.int (-7)], vm := .none },
  { cls := 13, slots := #[.int (-6)], vm := .none },
  { cls := 13, slots := #[.int (-5)], vm := .none },
  { cls := 13, slots := #[.int (-4)], vm := .none },
  { cls := 13, slots := #[.int (-3)], vm := .none },
  { cls := 13, slots := #[.int (-2)], vm := .none },
  { cls := 13, slots := #[.int (-1)], vm := .none },
  { cls := 13, slots := #[.int (0)], vm := .none },
  { cls := 13, slots := #[.int (1)], vm := .none },
  { cls := 13, slots := #[.int (2)], vm := .none },
  { cls := 13, slots := #[.int (3)], vm := .none },
  { cls := 13, slots := #[.int (4)], vm := .none },
  { cls := 13, slots := #[.int (5)], vm := .none },
  { cls := 13, slots := #[.int (6)], vm := .none },
  { cls := 13, slots := #[.int (7)], vm := .none },
  { cls := 13, slots := #[.int (8)], vm := .none },
  { cls := 13, slots := #[.int (9)], vm := .none },
  { cls := 13, slots := #[.int (10)], vm := .none },
  { cls := 13, slots := #[.int (11)], vm := .none },
  { cls := 13, slots := #[.int (12)], vm := .none },
  { cls := 13, slots := #[.int (13)], vm := .none },
  { cls := 13, slots := #[.int (14)], vm := .none },
  { cls := 13, slots := #[.int (15)], vm := .none },
  { cls := 13, slots := #[.int (16)], vm := .none },
  { cls := 13, slots := #[.int (17)], vm := .none },
  { cls := 13, slots := #[.int (18)], vm := .none },
  { cls := 13, slots := #[.int (19)], vm := .none },
  { cls := 13, slots := #[.int (20)], vm := .none },
  { cls := 13, slots := #[.int (21)], vm := .none },
  { cls := 13, slots := #[.int (22)], vm := .none },
  { cls := 13, slots := #[.int (23)], vm := .none },
  { cls := 13, slots := #[.int (24)], vm := .none },
  { cls := 13, slots := #[.int (25)], vm := .none },
  { cls := 13, slots := #[.int (26)], vm := .none },
  { cls := 13, slots := #[.int (27)], vm := .none },
  { cls := 13, slots := #[.int (28)], vm := .none },
  { cls := 13, slots := #[.int (29)], vm := .none },
  { cls := 13, slots := #[.int (30)], vm := .none },
  { cls := 13, slots := #[.int (31)], vm := .none },
  { cls := 13, slots := #[.int (32)], vm := .none },
  { cls := 13, slots := #[.int (33)], vm := .none },
  { cls := 13, slots := #[.int (34)], vm := .none },
  { cls := 13, slots := #[.int (35)], vm := .none },
  { cls := 13, slots := #[.int (36)], vm := .none },
  { cls := 13, slots := #[.int (37)], vm := .none },
  { cls := 13, slots := #[.int (38)], vm := .none },
  { cls := 13, slots := #[.int (39)], vm := .none },
  { cls := 13, slots := #[.int (40)], vm := .none },
  { cls := 13, slots := #[.int (41)], vm := .none },
  { cls := 13, slots := #[.int (42)], vm := .none },
  { cls := 13, slots := #[.int (43)], vm := .none },
  { cls := 13, slots := #[.int (44)], vm := .none },
  { cls := 13, slots := #[.int (45)], vm := .none },
  { cls := 13, slots := #[.int (46)], vm := .none },
  { cls := 13, slots := #[.int (47)], vm := .none },
  { cls := 13, slots := #[.int (48)], vm := .none },
  { cls := 13, slots := #[.int (49)], vm := .none },
  { cls := 13, slots := #[.int (50)], vm := .none },
  { cls := 13, slots := #[.int (51)], vm := .none },
  { cls := 13, slots := #[.int (52)], vm := .none },
  { cls := 13, slots := #[.int (53)], vm := .none },
  { cls := 13, slots := #[.int (54)], vm := .none },
  { cls := 13, slots := #[.int (55)], vm := .none },
  { cls := 13, slots := #[.int (56)], vm := .none },
  { cls := 13, slots := #[.int (57)], vm := .none },
  { cls := 13, slots := #[.int (58)], vm := .none },
  { cls := 13, slots := #[.int (59)], vm := .none },
  { cls := 13, slots := #[.int (60)], vm := .none },
  { cls := 13, slots := #[.int (61)], vm := .none },
  { cls := 13, slots := #[.int (62)], vm := .none },
  { cls := 13, slots := #[.int (63)], vm := .none },
  { cls := 13, slots := #[.int (64)], vm := .none },
  { cls := 13, slots := #[.int (65)], vm := .none },
  { cls := 13, slots := #[.int (66)], vm := .none },
  { cls := 13, slots := #[.int (67)], vm := .none },
  { cls := 13, slots := #[.int (68)], vm := .none },
  { cls := 13, slots := #[.int (69)], vm := .none },
  { cls := 13, slots := #[.int (70)], vm := .none },
  { cls := 13, slots := #[.int (71)], vm := .none },
  { cls := 13, slots := #[.int (72)], vm := .none },
  { cls := 13, slots := #[.int (73)], vm := .none },
  { cls := 13, slots := #[.int (74)], vm := .none },
  { cls := 13, slots := #[.int (75)], vm := .none },
  { cls := 13, slots := #[.int (76)], vm := .none },
  { cls := 13, slots := #[.int (77)], vm := .none },
  { cls := 13, slots := #[.int (78)], vm := .none },
  { cls := 13, slots := #[.int (79)], vm := .none },
  { cls := 13, slots := #[.int (80)], vm := .none },
  { cls := 13, slots := #[.int (81)], vm := .none },
  { cls := 13, slots := #[.int (82)], vm := .none },
  { cls := 13, slots := #[.int (83)], vm := .none },
  { cls := 13, slots := #[.int (84)], vm := .none },
  { cls := 13, slots := #[.int (85)], vm := .none },
  { cls := 13, slots := #[.int (86)], vm := .none },
  { cls := 13, slots := #[.int (87)], vm := .none },
  { cls := 13, slots := #[.int (88)], vm := .none },
  { cls := 13, slots := #[.int (89)], vm := .none },
  { cls := 13, slots := #[.int (90)], vm := .none },
  { cls := 13, slots := #[.int (91)], vm := .none },
  { cls := 13, slots := #[.int (92)], vm := .none },
  { cls := 13, slots := #[.int (93)], vm := .none },
  { cls := 13, slots := #[.int (94)], vm := .none },
  { cls := 13, slots := #[.int (95)], vm := .none },
  { cls := 13, slots := #[.int (96)], vm := .none },
  { cls := 13, slots := #[.int (97)], vm := .none },
  { cls := 13, slots := #[.int (98)], vm := .none },
  { cls := 13, slots := #[.int (99)], vm := .none },
  { cls := 13, slots := #[.int (100)], vm := .none },
  { cls := 13, slots := #[.int (101)], vm := .none },
  { cls := 13, slots := #[.int (102)], vm := .none },
  { cls := 13, slots := #[.int (103)], vm := .none },
  { cls := 13, slots := #[.int (104)], vm := .none },
  { cls := 13, slots := #[.int (105)], vm := .none },
  { cls := 13, slots := #[.int (106)], vm := .none },
  { cls := 13, slots := #[.int (107)], vm := .none },
  { cls := 13, slots := #[.int (108)], vm := .none },
  { cls := 13, slots := #[.int (109)], vm := .none },
  { cls := 13, slots := #[.int (110)], vm := .none },
  { cls := 13, slots := #[.int (111)], vm := .none },
  { cls := 13, slots := #[.int (112)], vm := .none },
  { cls := 13, slots := #[.int (113)], vm := .none },
  { cls := 13, slots := #[.int (114)], vm := .none },
  { cls := 13, slots := #[.int (115)], vm := .none },
  { cls := 13, slots := #[.int (116)], vm := .none },
  { cls := 13, slots := #[.int (117)], vm := .none },
  { cls := 13, slots := #[.int (118)], vm := .none },
  { cls := 13, slots := #[.int (119)], vm := .none },
  { cls := 13, slots := #[.int (120)], vm := .none },
  { cls := 13, slots := #[.int (121)], vm := .none },
  { cls := 13, slots := #[.int (122)], vm := .none },
  { cls := 13, slots := #[.int (123)], vm := .none },
  { cls := 13, slots := #[.int (124)], vm := .none },
  { cls := 13, slots := #[.int (125)], vm := .none },
  { cls := 13, slots := #[.int (126)], vm := .none },
  { cls := 13, slots := #[.int (127)], vm := .none }]
def classes : Array Class := #[k0, k1, k2, k3, k4, k5, k6, k7, k8, k9, k10, k11, k12, k13, k14, k15, k16, k17, k18, k19, k20]
def interned : List (Array UInt16 × Addr) := []
def slotsUsed : Nat := 517
def theMethod : MethodId := ⟨1, 4⟩
def args0 : Array Value := #[.int 5, .int 6, .int 7, .int 8, .int 9, .int 10]
def aboutOver (below : List Frame) : State where
  vm := { classes := classes, interned := interned.toArray }
  heap := heap
  slotsUsed := slotsUsed
  threads := #[{ frames := .invoking theMethod args0 :: below }]
def below0 : List Frame := [.native { method := ⟨0, 0⟩, args := #[] }]
def about1 : State := aboutOver below0
def p0 : Program := .bare "" "" ""
def e0 : Env := launch0.env 0 0 0
theorem w_frames : about1.frames = Frame.invoking theMethod args0 :: below0 := rfl
set_option maxRecDepth 65536 in
theorem w_args : argsFit about1.vm theMethod args0 = true := by decide +kernel
set_option maxRecDepth 65536 in
theorem w_heap : heapFits about1 = true := by decide +kernel
set_option maxRecDepth 65536 in
theorem w_runnable : about1.curStatus? = some .runnable := by decide +kernel
set_option maxRecDepth 65536 in
theorem w_alone : about1.alone = true := by decide +kernel
set_option maxRecDepth 65536 in
theorem w_named : about1.methodNamed? x = some theMethod := by decide +kernel
set_option maxRecDepth 65536 in
theorem w_hears : about1.hears theMethod below0 = true := by decide +kernel
set_option maxRecDepth 65536 in
theorem w_ripe : about1.ripe theMethod args0 below0 = true := by decide +kernel
theorem w_running : about1.status = .running := rfl
set_option maxRecDepth 65536 in
theorem w_room : about1.hasRoom e0.platform room_1 = true :=
  launch0.hasRoom_least _ room_1 (by decide +kernel) (by decide +kernel) (by decide +kernel) (by decide +kernel) (by decide +kernel) (by decide +kernel)
theorem allAtoms_all (ts : List Jvm.Cond) (a : Array Jvm.Value) (st : Jvm.State) : (allAtoms ts).before a st = ts.all (fun c => c.before a st) := by
  induction ts with
  | nil => rfl
  | cons c t ih =>
    show (Jvm.Cond.and c (allAtoms t)).before a st = _
    rw [Jvm.Cond.before_and, ih, List.all_cons]
def words1 : List Jvm.Cond := Jvm.Cond.code x code maxLocals ret :: tables_1
/-- a 'code' word, met by the world's own term for the bytes: nothing is compared byte by byte -/
theorem code_word {y : MethodName} {bytes : ByteArray} {mx : Nat} {rt : Option FieldType} {a : Array Value} {s : State} {m : MethodId} {meth : Method} {c : Code} (h1 : s.methodNamed? y = some m) (h2 : s.vm.method? m = some meth) (h3 : meth.code = some c) (h4 : c.code = bytes)
    (h5 : (c.maxLocals == mx && c.exceptionTable.isEmpty && decide (c.maxStack ≤ mostOperands) && decide (meth.sig.returnType = rt) && !meth.locks && decide (parseMethodDescriptor y.desc = some meth.sig)) = true) : (Jvm.Cond.code y bytes mx rt).before a s = true := by
  simp only [Bool.and_eq_true, beq_iff_eq, Bool.not_eq_true', decide_eq_true_eq] at h5
  obtain ⟨⟨⟨⟨⟨g1, g2⟩, g3⟩, g4⟩, g5⟩, g6⟩ := h5
  simp [Cond.before, Cond.holds, Cond.value, h1, h2, h3, h4, g1, g2, g3, g4, g5, g6]
def isCode : Jvm.Cond → Bool
  | .code _ _ _ _ => true
  | _ => false
theorem all_split {L : List Jvm.Cond} {P : Jvm.Cond → Bool} (h1 : L.all (fun c => isCode c || P c) = true) (h2 : ∀ c ∈ L.filter isCode, P c = true) : L.all P = true := by
  refine List.all_eq_true.mpr fun c hc => ?_
  have h := List.all_eq_true.mp h1 c hc
  rcases Bool.eq_false_or_eq_true (isCode c) with hi | hi
  · exact h2 c (List.mem_filter.mpr ⟨hc, hi⟩)
  · simpa [hi] using h
set_option maxRecDepth 65536 in
theorem w_c0 : (Jvm.Cond.code x code maxLocals ret).before args0 about1 = true := code_word (m := ⟨1, 4⟩) (meth := k1m4) (c := k1c4) (by decide +kernel) rfl rfl rfl (by decide +kernel)
set_option maxRecDepth 65536 in
theorem w_c1 : (Jvm.Cond.code ({ cls := "com/example/citadel_hill/citadelhill/cell/CurrentPulseEqualsPinLaw", name := "key", desc := "(I)I" } : Jvm.MethodName) method_2_code (1 : Nat) (Option.some Jvm.ClassFile.FieldType.int)).before args0 about1 = true := code_word (m := ⟨1, 1⟩) (meth := k1m1) (c := k1c1) (by decide +kernel) rfl rfl rfl (by decide +kernel)
set_option maxRecDepth 65536 in
theorem w_c2 : (Jvm.Cond.code ({ cls := "com/example/citadel_hill/citadelhill/cell/CurrentPulseEqualsPinLaw", name := "durKey", desc := "(I)I" } : Jvm.MethodName) method_3_code (2 : Nat) (Option.some Jvm.ClassFile.FieldType.int)).before args0 about1 = true := code_word (m := ⟨1, 2⟩) (meth := k1m2) (c := k1c2) (by decide +kernel) rfl rfl rfl (by decide +kernel)
set_option maxRecDepth 65536 in
theorem w_c3 : (Jvm.Cond.code ({ cls := "com/example/citadel_hill/citadelhill/cell/CurrentPulseEqualsPinLaw", name := "num", desc := "(I)D" } : Jvm.MethodName) method_4_code (3 : Nat) (Option.some Jvm.ClassFile.FieldType.double)).before args0 about1 = true := code_word (m := ⟨1, 3⟩) (meth := k1m3) (c := k1c3) (by decide +kernel) rfl rfl rfl (by decide +kernel)
set_option maxRecDepth 65536 in
theorem w_c4 : (Jvm.Cond.code ({ cls := "com/example/citadel_hill/citadelhill/cell/CurrentPulse", name := "<init>", desc := "(DDD)V" } : Jvm.MethodName) prog_4_method_1_code (7 : Nat) (Option.none : Option Jvm.ClassFile.FieldType)).before args0 about1 = true := code_word (m := ⟨2, 0⟩) (meth := k2m0) (c := k2c0) (by decide +kernel) rfl rfl rfl (by decide +kernel)
set_option maxRecDepth 65536 in
theorem w_c5 : (Jvm.Cond.code ({ cls := "java/lang/Object", name := "<init>", desc := "()V" } : Jvm.MethodName) object_method_1_code (1 : Nat) (Option.none : Option Jvm.ClassFile.FieldType)).before args0 about1 = true := code_word (m := ⟨0, 0⟩) (meth := k0m0) (c := k0c0) (by decide +kernel) rfl rfl rfl (by decide +kernel)
set_option maxRecDepth 65536 in
theorem w_c6 : (Jvm.Cond.code ({ cls := "com/example/citadel_hill/citadelhill/channel/ParameterChecks", name := "requireFinite", desc := "(Ljava/lang/String;D)D" } : Jvm.MethodName) prog_24_method_2_code (3 : Nat) (Option.some Jvm.ClassFile.FieldType.double)).before args0 about1 = true := code_word (m := ⟨9, 1⟩) (meth := k9m1) (c := k9c1) (by decide +kernel) rfl rfl rfl (by decide +kernel)
set_option maxRecDepth 65536 in
theorem w_c7 : (Jvm.Cond.code ({ cls := "java/lang/Double", name := "isFinite", desc := "(D)Z" } : Jvm.MethodName) jdk_117_method_8_code (2 : Nat) (Option.some Jvm.ClassFile.FieldType.boolean)).before args0 about1 = true := code_word (m := ⟨11, 1⟩) (meth := k11m1) (c := k11c1) (by decide +kernel) rfl rfl rfl (by decide +kernel)
set_option maxRecDepth 65536 in
theorem w_c8 : (Jvm.Cond.code ({ cls := "java/lang/Math", name := "abs", desc := "(D)D" } : Jvm.MethodName) jdk_29_method_64_code (2 : Nat) (Option.some Jvm.ClassFile.FieldType.double)).before args0 about1 = true := code_word (m := ⟨12, 1⟩) (meth := k12m1) (c := k12c1) (by decide +kernel) rfl rfl rfl (by decide +kernel)
set_option maxRecDepth 65536 in
theorem w_c9 : (Jvm.Cond.code ({ cls := "com/example/citadel_hill/citadelhill/channel/ParameterChecks", name := "require", desc := "(ZLjava/lang/String;Ljava/lang/String;D)D" } : Jvm.MethodName) prog_24_method_6_code (5 : Nat) (Option.some Jvm.ClassFile.FieldType.double)).before args0 about1 = true := code_word (m := ⟨9, 3⟩) (meth := k9m3) (c := k9c3) (by decide +kernel) rfl rfl rfl (by decide +kernel)
set_option maxRecDepth 65536 in
theorem w_c10 : (Jvm.Cond.code ({ cls := "com/example/citadel_hill/citadelhill/channel/ParameterChecks", name := "requireNonNegative", desc := "(Ljava/lang/String;D)D" } : Jvm.MethodName) prog_24_method_5_code (3 : Nat) (Option.some Jvm.ClassFile.FieldType.double)).before args0 about1 = true := code_word (m := ⟨9, 2⟩) (meth := k9m2) (c := k9c2) (by decide +kernel) rfl rfl rfl (by decide +kernel)
set_option maxRecDepth 65536 in
theorem w_c11 : (Jvm.Cond.code ({ cls := "com/example/citadel_hill/citadelhill/cell/CurrentPulse", name := "equals", desc := "(Ljava/lang/Object;)Z" } : Jvm.MethodName) prog_4_method_5_code (3 : Nat) (Option.some Jvm.ClassFile.FieldType.boolean)).before args0 about1 = true := code_word (m := ⟨2, 1⟩) (meth := k2m1) (c := k2c1) (by decide +kernel) rfl rfl rfl (by decide +kernel)
set_option maxRecDepth 65536 in
theorem w_c12 : (Jvm.Cond.code ({ cls := "java/lang/Double", name := "compare", desc := "(DD)I" } : Jvm.MethodName) jdk_117_method_27_code (8 : Nat) (Option.some Jvm.ClassFile.FieldType.int)).before args0 about1 = true := code_word (m := ⟨11, 4⟩) (meth := k11m4) (c := k11c4) (by decide +kernel) rfl rfl rfl (by decide +kernel)
set_option maxRecDepth 65536 in
theorem w_c13 : (Jvm.Cond.code ({ cls := "java/lang/Double", name := "doubleToLongBits", desc := "(D)J" } : Jvm.MethodName) jdk_117_method_23_code (2 : Nat) (Option.some Jvm.ClassFile.FieldType.long)).before args0 about1 = true := code_word (m := ⟨11, 2⟩) (meth := k11m2) (c := k11c2) (by decide +kernel) rfl rfl rfl (by decide +kernel)
set_option maxRecDepth 65536 in
theorem w_c14 : (Jvm.Cond.code ({ cls := "java/lang/Double", name := "isNaN", desc := "(D)Z" } : Jvm.MethodName) jdk_117_method_6_code (2 : Nat) (Option.some Jvm.ClassFile.FieldType.boolean)).before args0 about1 = true := code_word (m := ⟨11, 0⟩) (meth := k11m0) (c := k11c0) (by decide +kernel) rfl rfl rfl (by decide +kernel)
set_option maxRecDepth 65536 in
theorem w_c15 : (Jvm.Cond.code ({ cls := "java/lang/Integer", name := "valueOf", desc := "(I)Ljava/lang/Integer;" } : Jvm.MethodName) jdk_33_method_22_code (1 : Nat) (Option.some (Jvm.ClassFile.FieldType.object "java/lang/Integer"))).before args0 about1 = true := code_word (m := ⟨13, 0⟩) (meth := k13m0) (c := k13c0) (by decide +kernel) rfl rfl rfl (by decide +kernel)
set_option maxRecDepth 65536 in
theorem w_c16 : (Jvm.Cond.code ({ cls := "java/lang/Integer", name := "<init>", desc := "(I)V" } : Jvm.MethodName) jdk_33_method_23_code (2 : Nat) (Option.none : Option Jvm.ClassFile.FieldType)).before args0 about1 = true := code_word (m := ⟨13, 1⟩) (meth := k13m1) (c := k13c1) (by decide +kernel) rfl rfl rfl (by decide +kernel)
set_option maxRecDepth 65536 in
theorem w_c17 : (Jvm.Cond.code ({ cls := "java/lang/Number", name := "<init>", desc := "()V" } : Jvm.MethodName) jdk_18_method_1_code (1 : Nat) (Option.none : Option Jvm.ClassFile.FieldType)).before args0 about1 = true := code_word (m := ⟨10, 0⟩) (meth := k10m0) (c := k10c0) (by decide +kernel) rfl rfl rfl (by decide +kernel)
def codes1 : List Jvm.Cond := [Jvm.Cond.code x code maxLocals ret, Jvm.Cond.code ({ cls := "com/example/citadel_hill/citadelhill/cell/CurrentPulseEqualsPinLaw", name := "key", desc := "(I)I" } : Jvm.MethodName) method_2_code (1 : Nat) (Option.some Jvm.ClassFile.FieldType.int), Jvm.Cond.code ({ cls := "com/example/citadel_hill/citadelhill/cell/CurrentPulseEqualsPinLaw", name := "durKey", desc := "(I)I" } : Jvm.MethodName) method_3_code (2 : Nat) (Option.some Jvm.ClassFile.FieldType.int), Jvm.Cond.code ({ cls := "com/example/citadel_hill/citadelhill/cell/CurrentPulseEqualsPinLaw", name := "num", desc := "(I)D" } : Jvm.MethodName) method_4_code (3 : Nat) (Option.some Jvm.ClassFile.FieldType.double), Jvm.Cond.code ({ cls := "com/example/citadel_hill/citadelhill/cell/CurrentPulse", name := "<init>", desc := "(DDD)V" } : Jvm.MethodName) prog_4_method_1_code (7 : Nat) (Option.none : Option Jvm.ClassFile.FieldType), Jvm.Cond.code ({ cls := "java/lang/Object", name := "<init>", desc := "()V" } : Jvm.MethodName) object_method_1_code (1 : Nat) (Option.none : Option Jvm.ClassFile.FieldType), Jvm.Cond.code ({ cls := "com/example/citadel_hill/citadelhill/channel/ParameterChecks", name := "requireFinite", desc := "(Ljava/lang/String;D)D" } : Jvm.MethodName) prog_24_method_2_code (3 : Nat) (Option.some Jvm.ClassFile.FieldType.double), Jvm.Cond.code ({ cls := "java/lang/Double", name := "isFinite", desc := "(D)Z" } : Jvm.MethodName) jdk_117_method_8_code (2 : Nat) (Option.some Jvm.ClassFile.FieldType.boolean), Jvm.Cond.code ({ cls := "java/lang/Math", name := "abs", desc := "(D)D" } : Jvm.MethodName) jdk_29_method_64_code (2 : Nat) (Option.some Jvm.ClassFile.FieldType.double), Jvm.Cond.code ({ cls := "com/example/citadel_hill/citadelhill/channel/ParameterChecks", name := "require", desc := "(ZLjava/lang/String;Ljava/lang/String;D)D" } : Jvm.MethodName) prog_24_method_6_code (5 : Nat) (Option.some Jvm.ClassFile.FieldType.double), Jvm.Cond.code ({ cls := "com/example/citadel_hill/citadelhill/channel/ParameterChecks", name := "requireNonNegative", desc := "(Ljava/lang/String;D)D" } : Jvm.MethodName) prog_24_method_5_code (3 : Nat) (Option.some Jvm.ClassFile.FieldType.double), Jvm.Cond.code ({ cls := "com/example/citadel_hill/citadelhill/cell/CurrentPulse", name := "equals", desc := "(Ljava/lang/Object;)Z" } : Jvm.MethodName) prog_4_method_5_code (3 : Nat) (Option.some Jvm.ClassFile.FieldType.boolean), Jvm.Cond.code ({ cls := "java/lang/Double", name := "compare", desc := "(DD)I" } : Jvm.MethodName) jdk_117_method_27_code (8 : Nat) (Option.some Jvm.ClassFile.FieldType.int), Jvm.Cond.code ({ cls := "java/lang/Double", name := "doubleToLongBits", desc := "(D)J" } : Jvm.MethodName) jdk_117_method_23_code (2 : Nat) (Option.some Jvm.ClassFile.FieldType.long), Jvm.Cond.code ({ cls := "java/lang/Double", name := "isNaN", desc := "(D)Z" } : Jvm.MethodName) jdk_117_method_6_code (2 : Nat) (Option.some Jvm.ClassFile.FieldType.boolean), Jvm.Cond.code ({ cls := "java/lang/Integer", name := "valueOf", desc := "(I)Ljava/lang/Integer;" } : Jvm.MethodName) jdk_33_method_22_code (1 : Nat) (Option.some (Jvm.ClassFile.FieldType.object "java/lang/Integer")), Jvm.Cond.code ({ cls := "java/lang/Integer", name := "<init>", desc := "(I)V" } : Jvm.MethodName) jdk_33_method_23_code (2 : Nat) (Option.none : Option Jvm.ClassFile.FieldType), Jvm.Cond.code ({ cls := "java/lang/Number", name := "<init>", desc := "()V" } : Jvm.MethodName) jdk_18_method_1_code (1 : Nat) (Option.none : Option Jvm.ClassFile.FieldType)]
set_option maxRecDepth 65536 in
theorem codes_eq : words1.filter isCode = codes1 := rfl
theorem w_codes : ∀ c ∈ words1.filter isCode, c.before args0 about1 = true := by
  rw [codes_eq]
  intro c hc
  simp only [codes1, List.mem_cons, List.not_mem_nil, or_false] at hc
  rcases hc with rfl | rfl | rfl | rfl | rfl | rfl | rfl | rfl | rfl | rfl | rfl | rfl | rfl | rfl | rfl | rfl | rfl | rfl
  · exact w_c0
  · exact w_c1
  · exact w_c2
  · exact w_c3
  · exact w_c4
  · exact w_c5
  · exact w_c6
  · exact w_c7
  · exact w_c8
  · exact w_c9
  · exact w_c10
  · exact w_c11
  · exact w_c12
  · exact w_c13
  · exact w_c14
  · exact w_c15
  · exact w_c16
  · exact w_c17
set_option maxRecDepth 65536 in
theorem w_t1 : (words1.take 24).all (fun c => isCode c || c.before args0 about1) = true := by decide +kernel
set_option maxRecDepth 65536 in
theorem w_t2 : ((words1.drop 24).take 24).all (fun c => isCode c || c.before args0 about1) = true := by decide +kernel
set_option maxRecDepth 65536 in
theorem w_t3 : (((words1.drop 24).drop 24).take 24).all (fun c => isCode c || c.before args0 about1) = true := by decide +kernel
set_option maxRecDepth 65536 in
theorem w_t4 : ((((words1.drop 24).drop 24).drop 24).take 24).all (fun c => isCode c || c.before args0 about1) = true := by decide +kernel
set_option maxRecDepth 65536 in
theorem w_t5 : ((((words1.drop 24).drop 24).drop 24).drop 24).all (fun c => isCode c || c.before args0 about1) = true := by decide +kernel
theorem w_tables : (allAtoms (Jvm.Cond.code x code maxLocals ret :: tables_1)).before args0 about1 = true := by
  rw [allAtoms_all]
  show words1.all (fun c => c.before args0 about1) = true
  refine all_split ?_ w_codes
  rw [← List.take_append_drop 24 words1, List.all_append, w_t1, ← List.take_append_drop 24 (words1.drop 24), List.all_append, w_t2, ← List.take_append_drop 24 ((words1.drop 24).drop 24), List.all_append, w_t3, ← List.take_append_drop 24 (((words1.drop 24).drop 24).drop 24), List.all_append, w_t4, w_t5]
  rfl
set_option maxRecDepth 65536 in
theorem w_rest : rest_1_c.before args0 about1 = true := by decide +kernel
set_option maxRecDepth 65536 in
theorem w_case : (Jvm.Cond.and given_1 narrow_1).before args0 about1 = true := by decide +kernel
theorem w_applies : (headSpec (Jvm.Cond.code x code maxLocals ret :: tables_1) room_1).applies x e0.platform about1 = true :=
  (Spec.applies_iff w_frames).mpr ⟨w_running, w_runnable, w_alone, w_named, w_hears, w_ripe, w_room, w_tables⟩
theorem atStart : AtStart classFile x code maxLocals ret World_1 tables_1 room_1 Calls_1 rest_1 Pre_1 launch0 p0 e0 about1 theMethod args0 below0 :=
  ⟨lists_1, trivial, launch0.admits_env _ _ _, launch0.least_env, fairChoices_fair.cas, fairChoices_fair.clock, w_frames, w_args, w_heap, w_applies, trivial, w_rest, w_case⟩
end start1
theorem witness_1 : WitnessClaimed_1 := ⟨start1.p0, start1.e0, start1.about1, start1.theMethod, start1.args0, start1.below0, start1.atStart⟩
end Jvm.Pilot.@@N@@
