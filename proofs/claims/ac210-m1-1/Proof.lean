import JvmDerived
import JvmDerived.Pilot.@@N@@Statement
import JvmDerived.Pilot.@@N@@Code
set_option linter.unusedVariables false
set_option linter.unusedSimpArgs false
namespace Jvm.RoadKit
open Sem ClassFile Op Lib Jvm.Stand Jvm.Free Jvm.LawKit
section Own
variable {p : Program} {l : Launch} {e : Env} {R : Room} {s : State} {m : MethodId} {args : Array Value} {below : List Frame} {meth : Method} {c : Code} {T T' : State} {locs : List Loc} {cells slots : Nat} {CC SS : Nat} {Q : Option Value → Heap → List Loc → Prop} {g g' : JFrame}
/-- from the frame g over T the run returns, and what it leaves is as Q says -/
def Done (p : Program) (e : Env) (s : State) (below : List Frame) (CC SS : Nat) (Q : Option Value → Heap → List Loc → Prop) (T : State) (g : JFrame) : Prop :=
  ∃ s₂ o, Steps p.tables e below (T.setTop g) s₂ ∧ s₂.status = .running ∧ Ended s₂ below o ∧ ∃ v L, o = .returned v ∧ Q v s₂.heap L ∧ FrameEnd s o s₂ L CC SS
theorem Done.go (st : ∀ t, Steps p.tables e below (T'.setTop g') t → Steps p.tables e below (T.setTop g) t) (k : Done p e s below CC SS Q T' g') : Done p e s below CC SS Q T g := by
  obtain ⟨s2, o, h, r⟩ := k; exact ⟨s2, o, st _ h, r⟩
theorem Done.via (st : Steps p.tables e below (T.setTop g) (T'.setTop g')) (k : Done p e s below CC SS Q T' g') : Done p e s below CC SS Q T g := by
  obtain ⟨s2, o, h, r⟩ := k; exact ⟨s2, o, st.trans h, r⟩
theorem Done.ret (X : Stand p l e R s m args below meth c T locs cells slots) (hlk : meth.locks = false) {v : Option Value} (hv : meth.sig.returnType = none → v = none)
    (st : ∀ fs : List Frame, (∀ (f : JFrame) (acts : List Action), f.method = m → f.locked = none → f.entered = [] → (doReturn e (T.setTop f) acts v).1 = T.setFrames fs) → Steps p.tables e below (T.setTop g) (T.setFrames fs))
    (hq : Q v T.heap locs) (hc : cells ≤ CC) (hs : slots ≤ SS) : Done p e s below CC SS Q T g := by
  obtain ⟨fs, hr, hrun, hended, hW, hsame⟩ := X.leave (v := v) hv hlk
  exact ⟨_, _, st fs hr, hrun, hended, _, _, rfl, hq, ⟨_, rfl⟩, hW, hsame.mono hc hs⟩
theorem Done.retI (X : Stand p l e R s m args below meth c T locs cells slots) (hx : p.tables.exec = Jvm.exec) (hlk : meth.locks = false) {pc : Nat} {Ls : Array Slot} {z : Int32} {rest : List Value} (hret : meth.sig.returnType = some .int) (hd : decode c.code pc = .ok (.ireturn, 1))
    (hq : Q (some (.int z)) T.heap locs) (hc : cells ≤ CC) (hs : slots ≤ SS) : Done p e s below CC SS Q T (mkF m pc Ls (.int z :: rest)) := by
  refine Done.ret X hlk (fun h => by rw [hret] at h; cases h) (fun fs hl => ?_) hq hc hs
  have hm' : T.vm.method? m = some meth := X.method'
  have hn : narrow .int (.int z) = .int z := rfl
  show Steps p.tables e below (T.setTop { method := m, pc := pc, locals := Ls, stack := _ :: rest, locked := none }) _
  jvm_step X.here [X.here.top, hx, hd, hm', hret, hn]
  first | (intro acts; rw [hl _ acts rfl rfl rfl]) | rw [hl _ _ rfl rfl rfl]
  exact Steps.refl _
theorem Done.retJ (X : Stand p l e R s m args below meth c T locs cells slots) (hx : p.tables.exec = Jvm.exec) (hlk : meth.locks = false) {pc : Nat} {Ls : Array Slot} {z : Int64} {rest : List Value} (hret : meth.sig.returnType = some .long) (hd : decode c.code pc = .ok (.lreturn, 1))
    (hq : Q (some (.long z)) T.heap locs) (hc : cells ≤ CC) (hs : slots ≤ SS) : Done p e s below CC SS Q T (mkF m pc Ls (.long z :: rest)) := by
  refine Done.ret X hlk (fun h => by rw [hret] at h; cases h) (fun fs hl => ?_) hq hc hs
  have hm' : T.vm.method? m = some meth := X.method'
  show Steps p.tables e below (T.setTop { method := m, pc := pc, locals := Ls, stack := _ :: rest, locked := none }) _
  jvm_step X.here [X.here.top, hx, hd, hm', hret]
  first | (intro acts; rw [hl _ acts rfl rfl rfl]) | rw [hl _ _ rfl rfl rfl]
  exact Steps.refl _
theorem Done.retR (X : Stand p l e R s m args below meth c T locs cells slots) (hx : p.tables.exec = Jvm.exec) (hlk : meth.locks = false) {pc : Nat} {Ls : Array Slot} {v : Value} {t : FieldType} {rest : List Value} (hret : meth.sig.returnType = some t) (ht : t.isReference = true) (hv : v.isRef = true) (hd : decode c.code pc = .ok (.areturn, 1))
    (hq : Q (some v) T.heap locs) (hc : cells ≤ CC) (hs : slots ≤ SS) : Done p e s below CC SS Q T (mkF m pc Ls (v :: rest)) := by
  refine Done.ret X hlk (fun h => by rw [hret] at h; cases h) (fun fs hl => ?_) hq hc hs
  have hm' : T.vm.method? m = some meth := X.method'
  show Steps p.tables e below (T.setTop { method := m, pc := pc, locals := Ls, stack := _ :: rest, locked := none }) _
  jvm_step X.here [X.here.top, hx, hd, hm', hret, ht, hv]
  first | (intro acts; rw [hl _ acts rfl rfl rfl]) | rw [hl _ _ rfl rfl rfl]
  exact Steps.refl _
theorem Done.retV (X : Stand p l e R s m args below meth c T locs cells slots) (hx : p.tables.exec = Jvm.exec) (hlk : meth.locks = false) {pc : Nat} {Ls : Array Slot} (hret : meth.sig.returnType = none) (hd : decode c.code pc = .ok (.return_, 1))
    (hq : Q none T.heap locs) (hc : cells ≤ CC) (hs : slots ≤ SS) : Done p e s below CC SS Q T (mkF m pc Ls []) :=
  Done.ret X hlk (fun _ => rfl) (fun fs hl => X.returnOut hx hret hd hl) hq hc hs
theorem Done.retN (X : Stand p l e R s m args below meth c T locs cells slots) (hx : p.tables.exec = Jvm.exec) (hlk : meth.locks = false) {pc : Nat} {Ls : Array Slot} {z z' : Int32} {t : FieldType} {rest : List Value} (hret : meth.sig.returnType = some t) (ht : t = .boolean ∨ t = .byte ∨ t = .char ∨ t = .short) (hz : nar t z = z')
    (hd : decode c.code pc = .ok (.ireturn, 1)) (hq : Q (some (.int z')) T.heap locs) (hc : cells ≤ CC) (hs : slots ≤ SS) : Done p e s below CC SS Q T (mkF m pc Ls (.int z :: rest)) := by
  subst hz
  exact Done.ret X hlk (fun h => by rw [hret] at h; cases h) (fun fs hl => Jvm.RoadKit.retN X hx hret ht hd hl) hq hc hs
theorem own_backG {rc rs : Nat} {rest : List Value} {Q0 : Option Value → Heap → List Loc → Prop} (h : ∃ (v : Option Value) (vm₁ : Vm) (B : Pt), s.WarmedH vm₁ ∧ Stand p l e R s m args below meth c B.U B.locs B.cells B.slots ∧ (∃ L, Q0 v B.U.heap L ∧ B.locs = locs ++ L ∧ B.cells = cells + rc ∧ B.slots = slots + rs) ∧
      ∀ target, Steps p.tables e below (B.U.setTop { g with pc := g.pc + 3, stack := v.toList ++ rest }) target → Steps p.tables e below (T.setTop g) target) :
    ∃ v T' Lc, Stand p l e R s m args below meth c T' (locs ++ Lc) (cells + rc) (slots + rs) ∧ Q0 v T'.heap Lc ∧ ∀ target, Steps p.tables e below (T'.setTop { g with pc := g.pc + 3, stack := v.toList ++ rest }) target → Steps p.tables e below (T.setTop g) target := by
  obtain ⟨v, vm, ⟨U, L, k, n⟩, -, X, ⟨Lc, hQ, rfl, rfl, rfl⟩, st⟩ := h
  exact ⟨v, U, Lc, X, hQ, st⟩
theorem own_backV {rc rs : Nat} {rest : List Value} {Q0 : Option Value → Heap → List Loc → Prop} (h : ∃ (v : Option Value) (vm₁ : Vm) (B : Pt), s.WarmedH vm₁ ∧ Stand p l e R s m args below meth c B.U B.locs B.cells B.slots ∧ (∃ L, Q0 v B.U.heap L ∧ B.locs = locs ++ L ∧ B.cells = cells + rc ∧ B.slots = slots + rs) ∧
      Steps p.tables e below (T.setTop g) (B.U.setTop { g with pc := g.pc + 3, stack := v.toList ++ rest })) :
    ∃ v T' Lc, Stand p l e R s m args below meth c T' (locs ++ Lc) (cells + rc) (slots + rs) ∧ Q0 v T'.heap Lc ∧ ∀ target, Steps p.tables e below (T'.setTop { g with pc := g.pc + 3, stack := v.toList ++ rest }) target → Steps p.tables e below (T.setTop g) target := by
  obtain ⟨v, vm, ⟨U, L, k, n⟩, -, X, ⟨Lc, hQ, rfl, rfl, rfl⟩, st⟩ := h
  exact ⟨v, U, Lc, X, hQ, fun _ k => st.trans k⟩
theorem own_backI {rc rs : Nat} {rest : List Value} {Q0 : Option Value → Heap → List Loc → Prop} (h : ∃ (v : Option Value) (vm₁ : Vm) (B : Pt), s.WarmedH vm₁ ∧ Stand p l e R s m args below meth c B.U B.locs B.cells B.slots ∧ (∃ L, Q0 v B.U.heap L ∧ B.locs = locs ++ L ∧ B.cells = cells + rc ∧ B.slots = slots + rs) ∧
      Steps p.tables e below (T.setTop g) (B.U.setTop { g with pc := g.pc + 5, stack := v.toList ++ rest })) :
    ∃ v T' Lc, Stand p l e R s m args below meth c T' (locs ++ Lc) (cells + rc) (slots + rs) ∧ Q0 v T'.heap Lc ∧ ∀ target, Steps p.tables e below (T'.setTop { g with pc := g.pc + 5, stack := v.toList ++ rest }) target → Steps p.tables e below (T.setTop g) target := by
  obtain ⟨v, vm, ⟨U, L, k, n⟩, -, X, ⟨Lc, hQ, rfl, rfl, rfl⟩, st⟩ := h
  exact ⟨v, U, Lc, X, hQ, fun _ k => st.trans k⟩
theorem own_narB (x : Int32) : nar .byte x.toInt8.toInt32 = x.toInt8.toInt32 := by simp [nar]
end Own
end Jvm.RoadKit
namespace Jvm.RoadKit
open Sem ClassFile Op Lib Jvm.Stand Jvm.Free Jvm.LawKit
section OwnA
variable {p : Program} {l : Launch} {e : Env} {R : Room} {s : State} {m : MethodId} {args : Array Value} {below : List Frame} {meth : Method} {c : Code} {T T' : State} {locs : List Loc} {cells slots : Nat} {CC SS : Nat} {Q : Option Value → Heap → List Loc → Prop} {g g' : JFrame} {Z : State} {h h' : Heap} {a b : Addr} {ty : FieldType} {n : Nat} {f f' : Nat → Int32} {ws : List Addr} {sl : Nat} {v : Value}
/-- an array of n places at a; place i holds f i -/
def Ari (Z : State) (h : Heap) (a : Addr) (ty : FieldType) (n : Nat) (f : Nat → Int32) : Prop := ∃ cl : Cell, Arr Z h a cl ty ∧ cl.slots.size = n ∧ n < 2 ^ 31 ∧ ∀ i, i < n → cl.slots[i]? = some (.int (f i))
theorem Ari.lt (F : Ari Z h a ty n f) : a < h.size := by obtain ⟨_, A, -⟩ := F; exact A.lt
theorem Ari.ext (F : Ari Z h a ty n f) (E : Ext h h') : Ari Z h' a ty n f := by obtain ⟨cl, A, r⟩ := F; exact ⟨cl, A.ext E, r⟩
theorem Ari.other (F : Ari Z h b ty n f) (W : Wr h h' a sl v) (q : b ≠ a) : Ari Z h' b ty n f := by obtain ⟨cl, A, r⟩ := F; exact ⟨cl, A.other W q, r⟩
theorem Ari.keep (F : Ari Z h a ty n f) (K : Keep h h' ws) (q : a ∉ ws) : Ari Z h' a ty n f := by obtain ⟨cl, A, r⟩ := F; exact ⟨cl, ⟨K.2.1 a cl A.1 q, A.2⟩, r⟩
theorem Ari.congr (F : Ari Z h a ty n f) (q : ∀ i, i < n → f i = f' i) : Ari Z h a ty n f' := by obtain ⟨cl, A, r1, r2, r⟩ := F; exact ⟨cl, A, r1, r2, fun i hi => by rw [r i hi, q i hi]⟩
theorem Ari.small (F : Ari Z h a ty n f) : n < 2 ^ 31 := by obtain ⟨_, _, _, r, _⟩ := F; exact r
theorem Ari.set {j : Nat} {w : Int32} (F : Ari Z h a ty n f) (W : Wr h h' a j (.int w)) : Ari Z h' a ty n (fun i => if i = j then w else f i) := by
  obtain ⟨cl, A, r1, r2, r⟩ := F
  refine ⟨_, A.same W, by rw [sz_set]; exact r1, r2, fun i hi => ?_⟩
  by_cases u : i = j
  · subst u; simp [Cell.setSlot, r1, hi]
  · have := r i hi; simp only [Cell.setSlot, if_neg u]; rw [Array.getElem?_setIfInBounds_ne (Ne.symm u)]; exact this
theorem Ari.new {k : ClassId} {z : Int32} (A : Arr Z h a (newA k ty z) ty) (q : ¬ z < 0) (hz : z.toNatClampNeg = n) (hd : defaultValue ty = .int 0) : Ari Z h a ty n (fun _ => 0) :=
  ⟨_, A, by rw [sz_new, hz], by have := (back32 q).2; rw [hz] at this; exact this, fun i hi => by simp [newA, hz, hi, hd]⟩
theorem Ari.inb {cl : Cell} {j : Int32} {i : Nat} (hs : cl.slots.size = n) (hj : ¬ j < 0) (hi : j.toNatClampNeg = i) (hn : i < n) : ¬ (j < 0 ∨ cl.slots.size ≤ j.toNatClampNeg) := by
  rintro (q | q)
  · exact hj q
  · rw [hs, hi] at q; omega
theorem own_stB (X : Stand p l e R s m args below meth c T locs cells slots) (hx : p.tables.exec = Jvm.exec) (hZ : Z.Warmed39 s.vm) (eT : T.heap = h) (F : Ari Z h a .byte n f) {j x : Int32} (i : Nat) (hj : ¬ j < 0) (hi : j.toNatClampNeg = i) (hn : i < n) {g : JFrame} (hg : g.method = m) {rest : List Value} (hs : g.stack = .int x :: .int j :: .ref a :: rest) (hd : decode c.code g.pc = .ok (.bastore, 1)) :
    ∃ T' h', Stand p l e R s m args below meth c T' (locs ++ [⟨a, i⟩]) cells slots ∧ T'.heap = h' ∧ Wr h h' a i (.int (nar .byte x)) ∧ Ari Z h' a .byte n (fun k => if k = i then nar .byte x else f k) ∧ ∀ target, Steps p.tables e below (T'.setTop { g with pc := g.pc + 1, stack := rest }) target → Steps p.tables e below (T.setTop g) target := by
  obtain ⟨cl, A, r1, r2, r⟩ := F
  obtain ⟨T', h', X', e', W, st⟩ := stB X hx hZ eT A (j := j) (x := x) (Ari.inb r1 hj hi hn) hg hs hd
  rw [hi] at X' W
  exact ⟨T', h', X', e', W, Ari.set ⟨cl, A, r1, r2, r⟩ W, st⟩
theorem Done.ldB (X : Stand p l e R s m args below meth c T locs cells slots) (hx : p.tables.exec = Jvm.exec) (hZ : Z.Warmed39 s.vm) (eT : T.heap = h) (F : Ari Z h a .byte n f) {j w : Int32} (i : Nat) (hj : ¬ j < 0) (hi : j.toNatClampNeg = i) (hn : i < n) (hw : f i = w) {pc : Nat} {Ls : Array Slot} {rest : List Value} (hd : decode c.code pc = .ok (.baload, 1))
    (k : Done p e s below CC SS Q T (mkF m (pc + 1) Ls (.int w :: rest))) : Done p e s below CC SS Q T (mkF m pc Ls (.int j :: .ref a :: rest)) := by
  obtain ⟨cl, A, r1, r2, r⟩ := F
  refine Done.go (fun t kk => X.baloadBytes hx (j := j) (v := .int w) (by rw [eT]; exact A.1) (State.isArrayOf_alike hZ.alike A.2.1) A.2.2 (Ari.inb r1 hj hi hn) (by rw [hi, ← hw]; exact r i hn) (g := (mkF m pc Ls (.int j :: .ref a :: rest))) rfl rfl hd t kk) k
theorem Done.len (X : Stand p l e R s m args below meth c T locs cells slots) (hx : p.tables.exec = Jvm.exec) (hZ : Z.Warmed39 s.vm) (eT : T.heap = h) (F : Ari Z h a ty n f) {z : Int32} (hz : n.toInt32 = z) {pc : Nat} {Ls : Array Slot} {rest : List Value} (hd : decode c.code pc = .ok (.arraylength, 1))
    (k : Done p e s below CC SS Q T (mkF m (pc + 1) Ls (.int z :: rest))) : Done p e s below CC SS Q T (mkF m pc Ls (.ref a :: rest)) := by
  obtain ⟨cl, A, r1, r2, r⟩ := F
  subst r1 hz
  exact Done.go (fun t kk => X.arraylength hx (by rw [eT]; exact A.1) (State.isArrayOf_alike hZ.alike A.2.1) (g := (mkF m pc Ls (.ref a :: rest))) rfl rfl hd t kk) k
theorem own_nt {a b : Prop} (h : a ↔ b) (q : ¬ a) : ¬ b := fun r => q (h.mpr r)
theorem own_lt32 {x y : Int32} (hx : ¬ x < 0) (hy : ¬ y < 0) : x < y ↔ x.toNatClampNeg < y.toNatClampNeg := by
  have h0 : (0 : Int32).toInt = 0 := rfl
  rw [Int32.lt_iff_toInt_lt, h0] at hx hy
  rw [Int32.lt_iff_toInt_lt]
  simp only [Int32.toNatClampNeg]; omega
theorem own_mask (x m : Int32) (k : Nat) (hk : k ≤ 31) (hm : m.toBitVec.toNat = 2 ^ k - 1) : ¬ (x &&& m) < 0 ∧ (x &&& m).toNatClampNeg < 2 ^ k := by
  have h := c_mask x m k hk hm
  have hp : (0 : Int) < (2 ^ k : Nat) := by exact_mod_cast Nat.two_pow_pos k
  have h1 := Int.emod_nonneg x.toInt (Int.ne_of_gt hp)
  have h2 := Int.emod_lt_of_pos x.toInt hp
  have h0 : (0 : Int32).toInt = 0 := rfl
  rw [Int32.lt_iff_toInt_lt, h0]
  simp only [Int32.toNatClampNeg]
  constructor
  · omega
  · rw [h]; omega
end OwnA
end Jvm.RoadKit
namespace Jvm.RoadKit
open Sem ClassFile Op Lib Jvm.Stand Jvm.Free Jvm.LawKit
section OwnD
variable {p : Program} {l : Launch} {e : Env} {R : Room} {s : State} {m : MethodId} {args : Array Value} {below : List Frame} {meth : Method} {c : Code} {T : State} {locs : List Loc} {cells slots : Nat} {CC SS : Nat} {Q : Option Value → Heap → List Loc → Prop} {Z : State} {h h' : Heap} {a b : Addr} {ws : List Addr} {sl : Nat} {v w : Value} {n : Nat} {f f' : Nat → Int64}
/-- a double[] of n places at a; place i holds the whole number f i -/
def Ard (Z : State) (h : Heap) (a : Addr) (n : Nat) (f : Nat → Int64) : Prop := ∃ cl : Cell, Arr Z h a cl .double ∧ cl.slots.size = n ∧ n < 2 ^ 31 ∧ ∀ i, i < n → cl.slots[i]? = some (.double (FP.l2d (f i)))
theorem Ard.lt (F : Ard Z h a n f) : a < h.size := by obtain ⟨_, A, -⟩ := F; exact A.lt
theorem Ard.ext (F : Ard Z h a n f) (E : Ext h h') : Ard Z h' a n f := by obtain ⟨cl, A, r⟩ := F; exact ⟨cl, A.ext E, r⟩
theorem Ard.other (F : Ard Z h b n f) (W : Wr h h' a sl v) (q : b ≠ a) : Ard Z h' b n f := by obtain ⟨cl, A, r⟩ := F; exact ⟨cl, A.other W q, r⟩
theorem Ard.keep (F : Ard Z h a n f) (K : Keep h h' ws) (q : a ∉ ws) : Ard Z h' a n f := by obtain ⟨cl, A, r⟩ := F; exact ⟨cl, ⟨K.2.1 a cl A.1 q, A.2⟩, r⟩
theorem Ard.congr (F : Ard Z h a n f) (q : ∀ i, i < n → f i = f' i) : Ard Z h a n f' := by obtain ⟨cl, A, r1, r2, r⟩ := F; exact ⟨cl, A, r1, r2, fun i hi => by rw [r i hi, q i hi]⟩
theorem Ard.set {j : Nat} {y : Int64} (F : Ard Z h a n f) (W : Wr h h' a j (.double (FP.l2d y))) : Ard Z h' a n (fun i => if i = j then y else f i) := by
  obtain ⟨cl, A, r1, r2, r⟩ := F
  refine ⟨_, A.same W, by rw [sz_set]; exact r1, r2, fun i hi => ?_⟩
  by_cases u : i = j
  · subst u; simp [Cell.setSlot, r1, hi]
  · have := r i hi; simp only [Cell.setSlot, if_neg u]; rw [Array.getElem?_setIfInBounds_ne (Ne.symm u)]; exact this
theorem Ard.new {k : ClassId} {z : Int32} (A : Arr Z h a (newA k .double z) .double) (q : ¬ z < 0) (hz : z.toNatClampNeg = n) : Ard Z h a n (fun _ => 0) :=
  ⟨_, A, by rw [sz_new, hz], by have := (back32 q).2; rw [hz] at this; exact this, fun i hi => by simp [newA, hz, hi, defaultValue, l2d_zero]⟩
theorem own_stD (X : Stand p l e R s m args below meth c T locs cells slots) (hx : p.tables.exec = Jvm.exec) (hZ : Z.Warmed39 s.vm) (eT : T.heap = h) (F : Ard Z h a n f) {j : Int32} {y : Int64} (i : Nat) (hj : ¬ j < 0) (hi : j.toNatClampNeg = i) (hn : i < n) {g : JFrame} (hg : g.method = m) {rest : List Value} (hs : g.stack = .double (FP.l2d y) :: .int j :: .ref a :: rest) (hd : decode c.code g.pc = .ok (.dastore, 1)) :
    ∃ T' h', Stand p l e R s m args below meth c T' (locs ++ [⟨a, i⟩]) cells slots ∧ T'.heap = h' ∧ Wr h h' a i (.double (FP.l2d y)) ∧ Ard Z h' a n (fun k => if k = i then y else f k) ∧ ∀ target, Steps p.tables e below (T'.setTop { g with pc := g.pc + 1, stack := rest }) target → Steps p.tables e below (T.setTop g) target := by
  obtain ⟨cl, A, r1, r2, r⟩ := F
  obtain ⟨T', h', X', e', W, st⟩ := stD X hx hZ eT A (j := j) (x := FP.l2d y) (Ari.inb r1 hj hi hn) hg hs hd
  rw [hi] at X' W
  exact ⟨T', h', X', e', W, Ard.set ⟨cl, A, r1, r2, r⟩ W, st⟩
theorem Done.ldD (X : Stand p l e R s m args below meth c T locs cells slots) (hx : p.tables.exec = Jvm.exec) (hZ : Z.Warmed39 s.vm) (eT : T.heap = h) (F : Ard Z h a n f) {j : Int32} {y : Int64} (i : Nat) (hj : ¬ j < 0) (hi : j.toNatClampNeg = i) (hn : i < n) (hw : f i = y) {pc : Nat} {Ls : Array Slot} {rest : List Value} (hd : decode c.code pc = .ok (.daload, 1))
    (k : Done p e s below CC SS Q T (mkF m (pc + 1) Ls (.double (FP.l2d y) :: rest))) : Done p e s below CC SS Q T (mkF m pc Ls (.int j :: .ref a :: rest)) := by
  obtain ⟨cl, A, r1, r2, r⟩ := F
  exact Done.go (fun t kk => X.daload hx (j := j) (v := .double (FP.l2d y)) (by rw [eT]; exact A.1) (State.isArrayOf_alike hZ.alike A.2.1) A.2.2 (Ari.inb r1 hj hi hn) (by rw [hi, ← hw]; exact r i hn) (g := (mkF m pc Ls (.int j :: .ref a :: rest))) rfl rfl hd t kk) k
variable {fi : Nat → Int32}
theorem own_stI (X : Stand p l e R s m args below meth c T locs cells slots) (hx : p.tables.exec = Jvm.exec) (hZ : Z.Warmed39 s.vm) (eT : T.heap = h) (F : Ari Z h a .int n fi) {j x : Int32} (i : Nat) (hj : ¬ j < 0) (hi : j.toNatClampNeg = i) (hn : i < n) {g : JFrame} (hg : g.method = m) {rest : List Value} (hs : g.stack = .int x :: .int j :: .ref a :: rest) (hd : decode c.code g.pc = .ok (.iastore, 1)) :
    ∃ T' h', Stand p l e R s m args below meth c T' (locs ++ [⟨a, i⟩]) cells slots ∧ T'.heap = h' ∧ Wr h h' a i (.int x) ∧ Ari Z h' a .int n (fun k => if k = i then x else fi k) ∧ ∀ target, Steps p.tables e below (T'.setTop { g with pc := g.pc + 1, stack := rest }) target → Steps p.tables e below (T.setTop g) target := by
  obtain ⟨cl, A, r1, r2, r⟩ := F
  obtain ⟨T', h', X', e', W, st⟩ := stI X hx hZ eT A (j := j) (x := x) (Ari.inb r1 hj hi hn) hg hs hd
  rw [hi] at X' W
  exact ⟨T', h', X', e', W, Ari.set ⟨cl, A, r1, r2, r⟩ W, st⟩
theorem Done.ldI (X : Stand p l e R s m args below meth c T locs cells slots) (hx : p.tables.exec = Jvm.exec) (hZ : Z.Warmed39 s.vm) (eT : T.heap = h) (F : Ari Z h a .int n fi) {j w : Int32} (i : Nat) (hj : ¬ j < 0) (hi : j.toNatClampNeg = i) (hn : i < n) (hw : fi i = w) {pc : Nat} {Ls : Array Slot} {rest : List Value} (hd : decode c.code pc = .ok (.iaload, 1))
    (k : Done p e s below CC SS Q T (mkF m (pc + 1) Ls (.int w :: rest))) : Done p e s below CC SS Q T (mkF m pc Ls (.int j :: .ref a :: rest)) := by
  obtain ⟨cl, A, r1, r2, r⟩ := F
  exact Done.go (fun t kk => X.iaload hx (j := j) (v := .int w) (by rw [eT]; exact A.1) (State.isArrayOf_alike hZ.alike A.2.1) A.2.2 (Ari.inb r1 hj hi hn) (by rw [hi, ← hw]; exact r i hn) (g := (mkF m pc Ls (.int j :: .ref a :: rest))) rfl rfl hd t kk) k
theorem Done.retD (X : Stand p l e R s m args below meth c T locs cells slots) (hx : p.tables.exec = Jvm.exec) (hlk : meth.locks = false) {pc : Nat} {Ls : Array Slot} {z : UInt64} {rest : List Value} (hret : meth.sig.returnType = some .double) (hd : decode c.code pc = .ok (.dreturn, 1))
    (hq : Q (some (.double z)) T.heap locs) (hc : cells ≤ CC) (hs : slots ≤ SS) : Done p e s below CC SS Q T (mkF m pc Ls (.double z :: rest)) := by
  refine Done.ret X hlk (fun h => by rw [hret] at h; cases h) (fun fs hl => ?_) hq hc hs
  have hm' : T.vm.method? m = some meth := X.method'
  show Steps p.tables e below (T.setTop { method := m, pc := pc, locals := Ls, stack := _ :: rest, locked := none }) _
  jvm_step X.here [X.here.top, hx, hd, hm', hret]
  first | (intro acts; rw [hl _ acts rfl rfl rfl]) | rw [hl _ _ rfl rfl rfl]
  exact Steps.refl _
theorem own_d0 : FP.dconst0 = FP.l2d 0 := by rw [l2d_zero]; rfl
end OwnD
end Jvm.RoadKit
namespace Jvm.Pilot.@@N@@
open Jvm Jvm.ClassFile Sem Op Lib Jvm.Free Jvm.Stand Jvm.LawKit Jvm.RoadKit Bundle Jvm.Pilot.@@N@@.Jvm.D
def own_u {α : Type} (f : Nat → α) (j : Nat) (v : α) : Nat → α := fun i => if i = j then v else f i
def own_sc (Z : State) (h : Heap) (ab bD bF bS : Addr) (sc : Nat → Int64) (sf sd : Nat → Int32) (q k : Int32) : Prop :=
  Exa Z h ab "com/example/pivotwise/pivotwise/retrieval/Scores" ∧ Fld Z h ab "com/example/pivotwise/pivotwise/retrieval/Scores" "scores" "[D" (.ref bD) ∧ Fld Z h ab "com/example/pivotwise/pivotwise/retrieval/Scores" "scoredFor" "[I" (.ref bF) ∧ Fld Z h ab "com/example/pivotwise/pivotwise/retrieval/Scores" "scored" "[I" (.ref bS) ∧ Fld Z h ab "com/example/pivotwise/pivotwise/retrieval/Scores" "query" "I" (.int q) ∧ Fld Z h ab "com/example/pivotwise/pivotwise/retrieval/Scores" "count" "I" (.int k) ∧ Ard Z h bD 4 sc ∧ Ari Z h bF .int 4 sf ∧ Ari Z h bS .int 4 sd
def own_ds (ab bD bF bS : Addr) : Prop := ab ≠ bD ∧ ab ≠ bF ∧ ab ≠ bS ∧ bD ≠ bF ∧ bD ≠ bS ∧ bF ≠ bS
def own_gs (n0 : Nat) (ab bD bF bS : Addr) : Prop := n0 ≤ ab ∧ n0 ≤ bD ∧ n0 ≤ bF ∧ n0 ≤ bS
def own_s1 (t : Int64) (a x g : Int32) : Int64 := if a = x then t + g.toInt64 else t
def own_sum (x a b c g1 g2 g3 : Int32) : Int64 := own_s1 (own_s1 (own_s1 0 a x g1) b x g2) c x g3
def own_le (n : Nat) (t : Int64) : Prop := -((n : Int) * 2147483648) ≤ t.toInt ∧ t.toInt ≤ (n : Int) * 2147483648
theorem own_le0 : own_le 0 0 := by constructor <;> decide
theorem own_leG (g : Int32) : own_le 1 g.toInt64 := by have := rng32 g; unfold own_le; rw [c_i2l]; omega
theorem own_leA {n : Nat} {t : Int64} (h : own_le n t) (hn : n ≤ 10) (g : Int32) : own_le (n + 1) (t + g.toInt64) := by
  have q := c_ladd t g.toInt64
  have r := rng64 (t + g.toInt64)
  have r2 := rng32 g
  rw [c_i2l] at q
  obtain ⟨h1, h2⟩ := h
  have e : (t + g.toInt64).toInt = t.toInt + g.toInt := by omega
  unfold own_le; rw [e]; constructor <;> omega
theorem own_leM {n m : Nat} {t : Int64} (h : own_le n t) (hm : n ≤ m) : own_le m t := by
  obtain ⟨h1, h2⟩ := h
  have : (n : Int) ≤ m := by omega
  unfold own_le; constructor <;> omega
theorem own_leB {n : Nat} {t : Int64} (h : own_le n t) (hn : n ≤ 10) : B53 t := by
  obtain ⟨h1, h2⟩ := h; constructor <;> omega
theorem own_leS {n : Nat} {t : Int64} (h : own_le n t) (hn : n ≤ 10) (a x g : Int32) : own_le (n + 1) (own_s1 t a x g) := by
  unfold own_s1; split
  · exact own_leA h hn g
  · exact own_leM h (by omega)
theorem own_leT (x a b c g1 g2 g3 : Int32) : own_le 3 (own_sum x a b c g1 g2 g3) := own_leS (own_leS (own_leS own_le0 (by decide) a x g1) (by decide) b x g2) (by decide) c x g3
theorem own_ix {j : Int32} {i : Nat} (h : j.toInt = (i : Int)) : ¬ j < 0 ∧ j.toNatClampNeg = i := by
  rw [Int32.lt_iff_toInt_lt]
  have h0 : (0 : Int32).toInt = 0 := rfl
  simp only [Int32.toNatClampNeg]
  constructor <;> omega
theorem own_eqN {x y : Int32} {a b : Nat} (hx : x.toInt = (a : Int)) (hy : y.toInt = (b : Int)) (h : a = b) : x = y := Int32.toInt_inj.mp (by rw [hx, hy, h])
theorem own_neN {x y : Int32} {a b : Nat} (hx : x.toInt = (a : Int)) (hy : y.toInt = (b : Int)) (h : ¬ a = b) : ¬ x = y := fun q => h (by rw [q, hy] at hx; omega)
theorem own_m3 (x : Int32) : ∃ A : Nat, (x &&& (3 : Int32)).toInt = (A : Int) ∧ A < 4 := by
  have h := c_mask x 3 2 (by decide) (by decide)
  exact ⟨(x &&& 3).toInt.toNat, by omega, by omega⟩
theorem own_pd0 : parseMethodDescriptor "(I)V" = some ⟨[.int], none⟩ := by decide +kernel
theorem own_pd1 : parseMethodDescriptor "()[I" = some ⟨[], some (.array .int)⟩ := by decide +kernel
theorem own_pd2 : parseMethodDescriptor "()[D" = some ⟨[], some (.array .double)⟩ := by decide +kernel
theorem own_pd3 : parseMethodDescriptor "()V" = some ⟨[], none⟩ := by decide +kernel
theorem own_pd4 : parseMethodDescriptor "(ID)V" = some ⟨[.int, .double], none⟩ := by decide +kernel
theorem own_pd5 : parseMethodDescriptor "()I" = some ⟨[], some .int⟩ := by decide +kernel
theorem own_pd6 : parseMethodDescriptor "(IIIIIII)D" = some ⟨[.int, .int, .int, .int, .int, .int, .int], some .double⟩ := by decide +kernel
def QI (r : Int32) (h0 : Heap) (n0 : Nat) (v : Option Value) (h : Heap) (L : List Loc) : Prop := v = some (.int r) ∧ Fr n0 L ∧ h = h0
def QR (r : Addr) (h0 : Heap) (n0 : Nat) (v : Option Value) (h : Heap) (L : List Loc) : Prop := v = some (.ref r) ∧ Fr n0 L ∧ h = h0
def QD (r : Int64) (h0 : Heap) (n0 : Nat) (v : Option Value) (h : Heap) (L : List Loc) : Prop := v = some (.double (FP.l2d r)) ∧ Fr n0 L ∧ h = h0
def Q1 (Z : State) (a1 : Addr) (h0 : Heap) (n0 : Nat) (v : Option Value) (h : Heap) (L : List Loc) : Prop := v = none ∧ Fr n0 L ∧ h0.size ≤ h.size ∧ ∃ bD bF bS : Addr, own_ds a1 bD bF bS ∧ own_gs n0 a1 bD bF bS ∧ own_sc Z h a1 bD bF bS (fun _ => 0) (fun _ => 0) (fun _ => 0) 0 0
theorem d1_0 : decode prog_174_method_1_code 0 = .ok (.aload_n 0, 1) := by decide +kernel
theorem d1_1 : decode prog_174_method_1_code 1 = .ok (.invokespecial 1, 3) := by decide +kernel
theorem d1_4 : decode prog_174_method_1_code 4 = .ok (.aload_n 0, 1) := by decide +kernel
theorem d1_5 : decode prog_174_method_1_code 5 = .ok (.iload_n 1, 1) := by decide +kernel
theorem d1_6 : decode prog_174_method_1_code 6 = .ok (.newarray .double, 2) := by decide +kernel
theorem d1_8 : decode prog_174_method_1_code 8 = .ok (.putfield 7, 3) := by decide +kernel
theorem d1_11 : decode prog_174_method_1_code 11 = .ok (.aload_n 0, 1) := by decide +kernel
theorem d1_12 : decode prog_174_method_1_code 12 = .ok (.iload_n 1, 1) := by decide +kernel
theorem d1_13 : decode prog_174_method_1_code 13 = .ok (.newarray .int, 2) := by decide +kernel
theorem d1_15 : decode prog_174_method_1_code 15 = .ok (.putfield 13, 3) := by decide +kernel
theorem d1_18 : decode prog_174_method_1_code 18 = .ok (.aload_n 0, 1) := by decide +kernel
theorem d1_19 : decode prog_174_method_1_code 19 = .ok (.iload_n 1, 1) := by decide +kernel
theorem d1_20 : decode prog_174_method_1_code 20 = .ok (.newarray .int, 2) := by decide +kernel
theorem d1_22 : decode prog_174_method_1_code 22 = .ok (.putfield 17, 3) := by decide +kernel
theorem d1_25 : decode prog_174_method_1_code 25 = .ok (.return_, 1) := by decide +kernel
theorem own_pn0 : plainName "com/example/pivotwise/pivotwise/retrieval/Scores" = true := by first | (simp [plainName, overriddenIn]; done) | decide +kernel
theorem ef_rm1 (m : MethodId) (a1 : Addr) : entryFrame m #[(.ref a1), (.int (4 : Int32))] 2 = mkF m 0 #[.val (.ref a1), .val (.int (4 : Int32))] [] := by first | (simp [entryFrame, mkF, argsToLocals, Value.category]; done) | rfl
set_option maxRecDepth 65536 in
set_option maxHeartbeats 40000000 in
theorem rm1 (l : Launch) (Z : State) (a0 : Array Value) (hw : ∀ d ∈ tables_1, d.before a0 Z = true) (ws : List Jvm.Cond) (a1 : Addr) (h0 : Heap) (n0 : Nat) (Z0 : n0 ≤ h0.size) (E1 : Exa Z h0 a1 "com/example/pivotwise/pivotwise/retrieval/Scores") (g1 : n0 ≤ a1) (F_scores : Fld Z h0 a1 "com/example/pivotwise/pivotwise/retrieval/Scores" "scores" "[D" .null) (F_scoredFor : Fld Z h0 a1 "com/example/pivotwise/pivotwise/retrieval/Scores" "scoredFor" "[I" .null) (F_scored : Fld Z h0 a1 "com/example/pivotwise/pivotwise/retrieval/Scores" "scored" "[I" .null) (F_query : Fld Z h0 a1 "com/example/pivotwise/pivotwise/retrieval/Scores" "query" "I" (.int (0 : Int32))) (F_count : Fld Z h0 a1 "com/example/pivotwise/pivotwise/retrieval/Scores" "count" "I" (.int (0 : Int32))) :
    MetFree l (⟨"com/example/pivotwise/pivotwise/retrieval/Scores", "<init>", "(I)V"⟩ : MethodName) (head1 (Jvm.Cond.code (⟨"com/example/pivotwise/pivotwise/retrieval/Scores", "<init>", "(I)V"⟩ : MethodName) prog_174_method_1_code 2 none :: ws) ({ frames := 1, cells := 3, slots := 12, locals := 12 } : Room)) (fun a U => a = #[(.ref a1), (.int (4 : Int32))] ∧ Z.Warmed39 U.vm ∧ U.heap = h0) (fun _ _ _ _ _ => True) (fun _ U o U' => ∃ vr Lr, o = .returned vr ∧ Q1 Z a1 h0 n0 vr U'.heap Lr ∧ FrameEnd U o U' Lr 3 12) := by
  refine MetFree.of_bodySF (plainFor_of_name own_pn0) hisR ?_
  intro p e s m args below meth c s₁ Bd hml0 hP hK
  obtain ⟨rfl, hZ, hh⟩ := hP
  have hx := Bd.exec
  have hby := Bd.bytes
  have hml : c.maxLocals = 2 := hml0
  have hown : s.vm.findClass "com/example/pivotwise/pivotwise/retrieval/Scores" = some m.cls := findClass_of_methodNamed Bd.named
  have hnm := (name_of_methodNamed Bd.named Bd.method).1
  have hlk : meth.locks = false := Bd.notSynchronized
  have hrt := Bd.returns
  have X0 : Stand p l e ({ frames := 1, cells := 3, slots := 12, locals := 12 } : Room) s m #[(.ref a1), (.int (4 : Int32))] below meth c s₁ [] 0 0 := Stand.of_body Bd
  have e0 : s₁.heap = h0 := by rw [← hh, Bd.state]; rfl
  have N0 := Fr.nil n0
  show Done p e s below 3 12 (Q1 Z a1 h0 n0) s₁ (entryFrame m #[(.ref a1), (.int (4 : Int32))] 2)
  rw [ef_rm1]
  show Done p e s below _ _ _ s₁ (mkF m 0 #[.val (.ref a1), .val (.int (4 : Int32))] [])
  refine Done.go (fun _ kt_ => XS.aloadN X0.here hx rfl (hb hby d1_0) rfl rfl kt_) ?_
  show Done p e s below _ _ _ s₁ (mkF m 1 #[.val (.ref a1), .val (.int (4 : Int32))] [(.ref a1)])
  obtain ⟨T1, X1, e1, st1⟩ := initO X0 hx hZ hown (hw _ (List.mem_of_getElem? (i := 6) rfl)) (hw _ (List.mem_of_getElem? (i := 7) rfl)) (hw _ (List.mem_of_getElem? (i := 8) rfl)) e0 (g := (mkF m 1 #[.val (.ref a1), .val (.int (4 : Int32))] [(.ref a1)])) rfl (by rw [hml]; rfl) rfl (hb hby d1_1) (by decide) (W := 0) (by show 2 * 0 + _ ≤ _; exact Nat.le_of_eq rfl) (by decide)
  refine Done.go st1 ?_
  clear st1
  show Done p e s below _ _ _ T1 (mkF m 4 #[.val (.ref a1), .val (.int (4 : Int32))] [])
  refine Done.go (fun _ kt_ => XS.aloadN X1.here hx rfl (hb hby d1_4) rfl rfl kt_) ?_
  show Done p e s below _ _ _ T1 (mkF m 5 #[.val (.ref a1), .val (.int (4 : Int32))] [(.ref a1)])
  refine Done.go (fun _ kt_ => XS.iloadN X1.here hx rfl (hb hby d1_5) rfl kt_) ?_
  show Done p e s below _ _ _ T1 (mkF m 6 #[.val (.ref a1), .val (.int (4 : Int32))] [(.int (4 : Int32)), (.ref a1)])
  obtain ⟨T2, h2, k2, X2, e2, E2, A2, st2⟩ := newP X1 hx hZ (hw _ (List.mem_of_getElem? (i := 9) rfl)) e1 (g := (mkF m 6 #[.val (.ref a1), .val (.int (4 : Int32))] [(.int (4 : Int32)), (.ref a1)])) rfl (hb hby d1_6) rfl (by decide) (cap := 4) (by decide) (by decide) (by first | decide | omega) (by first | decide | omega)
  obtain ⟨b2, g2⟩ : ∃ z, z = h0.size := ⟨_, rfl⟩
  rw [← g2] at A2 st2
  have ne_a1_b2 : a1 ≠ b2 := Nat.ne_of_lt (Nat.lt_of_lt_of_le E1.lt (Nat.le_of_eq g2.symm))
  have gz_b2 : n0 ≤ b2 := Nat.le_trans Z0 (Nat.le_of_eq g2.symm)
  have Z2 : n0 ≤ h2.size := Nat.le_trans Z0 E2.1
  have hs_b2 : h0.size ≤ b2 := Nat.le_trans (Keep.refl h0 [a1]).1 (Nat.le_of_eq g2.symm)
  have K2 : Keep h0 h2 [a1] := (Keep.refl h0 [a1]).ext E2
  obtain ⟨Lh2, X2h, N2h⟩ : ∃ L, Stand p l e ({ frames := 1, cells := 3, slots := 12, locals := 12 } : Room) s m #[(.ref a1), (.int (4 : Int32))] below meth c T2 L 1 4 ∧ Fr n0 L := ⟨_, X2, N0⟩
  clear X2 X1 e1
  have V2 := Ard.new A2 (by decide) (n := 4) rfl
  refine Done.go st2 ?_
  clear st2
  show Done p e s below _ _ _ T2 (mkF m 8 #[.val (.ref a1), .val (.int (4 : Int32))] [(.ref b2), (.ref a1)])
  have f3 := (E1.ext E2)
  have f4 := (F_scores.ext E2)
  obtain ⟨T5, h5, X5, e5, W5, st5⟩ := putF X2h hx hZ hown (host := "") (Or.inl (hw _ (List.mem_of_getElem? (i := 10) rfl))) Via.refl e2 f4 f3 (Or.inr ⟨(hw _ (List.mem_of_getElem? (i := 11) rfl)), rfl, hnm⟩) (hw _ (List.mem_of_getElem? (i := 1) rfl)) (ty := (.array .double)) (by decide) rfl rfl (g := (mkF m 8 #[.val (.ref a1), .val (.int (4 : Int32))] [(.ref b2), (.ref a1)])) rfl rfl (hb hby d1_8)
  have Fw5 : Fld Z h5 a1 "com/example/pivotwise/pivotwise/retrieval/Scores" "scores" "[D" (.ref b2) := f4.same W5
  have N5 := Fr.snoc X5 N2h g1
  have Z5 : n0 ≤ h5.size := by rw [W5.size]; exact Z2
  have K5 : Keep h0 h5 [a1] := K2.wr W5 (Or.inl (List.mem_of_getElem? (i := 0) rfl))
  obtain ⟨Lh5, X5h, N5h⟩ : ∃ L, Stand p l e ({ frames := 1, cells := 3, slots := 12, locals := 12 } : Room) s m #[(.ref a1), (.int (4 : Int32))] below meth c T5 L 1 4 ∧ Fr n0 L := ⟨_, X5, N5⟩
  clear X5 N5 X2h e2 N2h Z2 K2
  refine Done.go st5 ?_
  clear st5
  show Done p e s below _ _ _ T5 (mkF m 11 #[.val (.ref a1), .val (.int (4 : Int32))] [])
  refine Done.go (fun _ kt_ => XS.aloadN X5h.here hx rfl (hb hby d1_11) rfl rfl kt_) ?_
  show Done p e s below _ _ _ T5 (mkF m 12 #[.val (.ref a1), .val (.int (4 : Int32))] [(.ref a1)])
  refine Done.go (fun _ kt_ => XS.iloadN X5h.here hx rfl (hb hby d1_12) rfl kt_) ?_
  show Done p e s below _ _ _ T5 (mkF m 13 #[.val (.ref a1), .val (.int (4 : Int32))] [(.int (4 : Int32)), (.ref a1)])
  obtain ⟨T6, h6, k6, X6, e6, E6, A6, st6⟩ := newP X5h hx hZ (hw _ (List.mem_of_getElem? (i := 12) rfl)) e5 (g := (mkF m 13 #[.val (.ref a1), .val (.int (4 : Int32))] [(.int (4 : Int32)), (.ref a1)])) rfl (hb hby d1_13) rfl (by decide) (cap := 4) (by decide) (by decide) (by first | decide | omega) (by first | decide | omega)
  have f7 := (f3.wr W5)
  have f8 := (V2.other W5 (Ne.symm ne_a1_b2))
  obtain ⟨b6, g6⟩ : ∃ z, z = h5.size := ⟨_, rfl⟩
  rw [← g6] at A6 st6
  have ne_a1_b6 : a1 ≠ b6 := Nat.ne_of_lt (Nat.lt_of_lt_of_le f7.lt (Nat.le_of_eq g6.symm))
  have ne_b2_b6 : b2 ≠ b6 := Nat.ne_of_lt (Nat.lt_of_lt_of_le f8.lt (Nat.le_of_eq g6.symm))
  have gz_b6 : n0 ≤ b6 := Nat.le_trans Z5 (Nat.le_of_eq g6.symm)
  have Z6 : n0 ≤ h6.size := Nat.le_trans Z5 E6.1
  have hs_b6 : h0.size ≤ b6 := Nat.le_trans K5.1 (Nat.le_of_eq g6.symm)
  have K6 : Keep h0 h6 [a1] := K5.ext E6
  obtain ⟨Lh6, X6h, N6h⟩ : ∃ L, Stand p l e ({ frames := 1, cells := 3, slots := 12, locals := 12 } : Room) s m #[(.ref a1), (.int (4 : Int32))] below meth c T6 L 2 8 ∧ Fr n0 L := ⟨_, X6, N5h⟩
  clear X6 N5h X5h e5 Z5 K5
  have V6 := Ari.new A6 (by decide) (n := 4) rfl rfl
  refine Done.go st6 ?_
  clear st6
  show Done p e s below _ _ _ T6 (mkF m 15 #[.val (.ref a1), .val (.int (4 : Int32))] [(.ref b6), (.ref a1)])
  have f9 := (f7.ext E6)
  have f10 := (((F_scoredFor.ext E2).other W5 (Or.inr (slot_ne (Or.inr (hw _ (List.mem_of_getElem? (i := 14) rfl))) (Or.inr (hw _ (List.mem_of_getElem? (i := 11) rfl))) (by decide) (t := (.array .int)) (t' := (.array .double)) (by decide) (by decide)))).ext E6)
  obtain ⟨T11, h11, X11, e11, W11, st11⟩ := putF X6h hx hZ hown (host := "") (Or.inl (hw _ (List.mem_of_getElem? (i := 13) rfl))) Via.refl e6 f10 f9 (Or.inr ⟨(hw _ (List.mem_of_getElem? (i := 14) rfl)), rfl, hnm⟩) (hw _ (List.mem_of_getElem? (i := 1) rfl)) (ty := (.array .int)) (by decide) rfl rfl (g := (mkF m 15 #[.val (.ref a1), .val (.int (4 : Int32))] [(.ref b6), (.ref a1)])) rfl rfl (hb hby d1_15)
  have Fw11 : Fld Z h11 a1 "com/example/pivotwise/pivotwise/retrieval/Scores" "scoredFor" "[I" (.ref b6) := f10.same W11
  have N11 := Fr.snoc X11 N6h g1
  have Z11 : n0 ≤ h11.size := by rw [W11.size]; exact Z6
  have K11 : Keep h0 h11 [a1] := K6.wr W11 (Or.inl (List.mem_of_getElem? (i := 0) rfl))
  obtain ⟨Lh11, X11h, N11h⟩ : ∃ L, Stand p l e ({ frames := 1, cells := 3, slots := 12, locals := 12 } : Room) s m #[(.ref a1), (.int (4 : Int32))] below meth c T11 L 2 8 ∧ Fr n0 L := ⟨_, X11, N11⟩
  clear X11 N11 X6h e6 N6h Z6 K6
  refine Done.go st11 ?_
  clear st11
  show Done p e s below _ _ _ T11 (mkF m 18 #[.val (.ref a1), .val (.int (4 : Int32))] [])
  refine Done.go (fun _ kt_ => XS.aloadN X11h.here hx rfl (hb hby d1_18) rfl rfl kt_) ?_
  show Done p e s below _ _ _ T11 (mkF m 19 #[.val (.ref a1), .val (.int (4 : Int32))] [(.ref a1)])
  refine Done.go (fun _ kt_ => XS.iloadN X11h.here hx rfl (hb hby d1_19) rfl kt_) ?_
  show Done p e s below _ _ _ T11 (mkF m 20 #[.val (.ref a1), .val (.int (4 : Int32))] [(.int (4 : Int32)), (.ref a1)])
  obtain ⟨T12, h12, k12, X12, e12, E12, A12, st12⟩ := newP X11h hx hZ (hw _ (List.mem_of_getElem? (i := 12) rfl)) e11 (g := (mkF m 20 #[.val (.ref a1), .val (.int (4 : Int32))] [(.int (4 : Int32)), (.ref a1)])) rfl (hb hby d1_20) rfl (by decide) (cap := 4) (by decide) (by decide) (by first | decide | omega) (by first | decide | omega)
  have f13 := (f9.wr W11)
  have f14 := ((f8.ext E6).other W11 (Ne.symm ne_a1_b2))
  have f15 := (V6.other W11 (Ne.symm ne_a1_b6))
  obtain ⟨b12, g12⟩ : ∃ z, z = h11.size := ⟨_, rfl⟩
  rw [← g12] at A12 st12
  have ne_a1_b12 : a1 ≠ b12 := Nat.ne_of_lt (Nat.lt_of_lt_of_le f13.lt (Nat.le_of_eq g12.symm))
  have ne_b2_b12 : b2 ≠ b12 := Nat.ne_of_lt (Nat.lt_of_lt_of_le f14.lt (Nat.le_of_eq g12.symm))
  have ne_b6_b12 : b6 ≠ b12 := Nat.ne_of_lt (Nat.lt_of_lt_of_le f15.lt (Nat.le_of_eq g12.symm))
  have gz_b12 : n0 ≤ b12 := Nat.le_trans Z11 (Nat.le_of_eq g12.symm)
  have Z12 : n0 ≤ h12.size := Nat.le_trans Z11 E12.1
  have hs_b12 : h0.size ≤ b12 := Nat.le_trans K11.1 (Nat.le_of_eq g12.symm)
  have K12 : Keep h0 h12 [a1] := K11.ext E12
  obtain ⟨Lh12, X12h, N12h⟩ : ∃ L, Stand p l e ({ frames := 1, cells := 3, slots := 12, locals := 12 } : Room) s m #[(.ref a1), (.int (4 : Int32))] below meth c T12 L 3 12 ∧ Fr n0 L := ⟨_, X12, N11h⟩
  clear X12 N11h X11h e11 Z11 K11
  have V12 := Ari.new A12 (by decide) (n := 4) rfl rfl
  refine Done.go st12 ?_
  clear st12
  show Done p e s below _ _ _ T12 (mkF m 22 #[.val (.ref a1), .val (.int (4 : Int32))] [(.ref b12), (.ref a1)])
  have f16 := (f13.ext E12)
  have f17 := (((((F_scored.ext E2).other W5 (Or.inr (slot_ne (Or.inr (hw _ (List.mem_of_getElem? (i := 16) rfl))) (Or.inr (hw _ (List.mem_of_getElem? (i := 11) rfl))) (by decide) (t := (.array .int)) (t' := (.array .double)) (by decide) (by decide)))).ext E6).other W11 (Or.inr (slot_ne (Or.inr (hw _ (List.mem_of_getElem? (i := 16) rfl))) (Or.inr (hw _ (List.mem_of_getElem? (i := 14) rfl))) (by decide) (t := (.array .int)) (t' := (.array .int)) (by decide) (by decide)))).ext E12)
  obtain ⟨T18, h18, X18, e18, W18, st18⟩ := putF X12h hx hZ hown (host := "") (Or.inl (hw _ (List.mem_of_getElem? (i := 15) rfl))) Via.refl e12 f17 f16 (Or.inr ⟨(hw _ (List.mem_of_getElem? (i := 16) rfl)), rfl, hnm⟩) (hw _ (List.mem_of_getElem? (i := 1) rfl)) (ty := (.array .int)) (by decide) rfl rfl (g := (mkF m 22 #[.val (.ref a1), .val (.int (4 : Int32))] [(.ref b12), (.ref a1)])) rfl rfl (hb hby d1_22)
  have Fw18 : Fld Z h18 a1 "com/example/pivotwise/pivotwise/retrieval/Scores" "scored" "[I" (.ref b12) := f17.same W18
  have N18 := Fr.snoc X18 N12h g1
  have Z18 : n0 ≤ h18.size := by rw [W18.size]; exact Z12
  have K18 : Keep h0 h18 [a1] := K12.wr W18 (Or.inl (List.mem_of_getElem? (i := 0) rfl))
  obtain ⟨Lh18, X18h, N18h⟩ : ∃ L, Stand p l e ({ frames := 1, cells := 3, slots := 12, locals := 12 } : Room) s m #[(.ref a1), (.int (4 : Int32))] below meth c T18 L 3 12 ∧ Fr n0 L := ⟨_, X18, N18⟩
  clear X18 N18 X12h e12 N12h Z12 K12
  refine Done.go st18 ?_
  clear st18
  show Done p e s below _ _ _ T18 (mkF m 25 #[.val (.ref a1), .val (.int (4 : Int32))] [])
  refine Done.retV X18h hx hlk hrt (hb hby d1_25) ?_ (by first | decide | omega) (by first | decide | omega)
  rw [e18]
  have f19 := (f16.wr W18)
  have f20 := ((((Fw5.ext E6).other W11 (Or.inr (slot_ne (Or.inr (hw _ (List.mem_of_getElem? (i := 11) rfl))) (Or.inr (hw _ (List.mem_of_getElem? (i := 14) rfl))) (by decide) (t := (.array .double)) (t' := (.array .int)) (by decide) (by decide)))).ext E12).other W18 (Or.inr (slot_ne (Or.inr (hw _ (List.mem_of_getElem? (i := 11) rfl))) (Or.inr (hw _ (List.mem_of_getElem? (i := 16) rfl))) (by decide) (t := (.array .double)) (t' := (.array .int)) (by decide) (by decide))))
  have f21 := ((Fw11.ext E12).other W18 (Or.inr (slot_ne (Or.inr (hw _ (List.mem_of_getElem? (i := 14) rfl))) (Or.inr (hw _ (List.mem_of_getElem? (i := 16) rfl))) (by decide) (t := (.array .int)) (t' := (.array .int)) (by decide) (by decide))))
  have f22 := ((((((F_query.ext E2).other W5 (Or.inr (slot_ne (Or.inl (hw _ (List.mem_of_getElem? (i := 33) rfl))) (Or.inr (hw _ (List.mem_of_getElem? (i := 11) rfl))) (by decide) (t := .int) (t' := (.array .double)) (by decide) (by decide)))).ext E6).other W11 (Or.inr (slot_ne (Or.inl (hw _ (List.mem_of_getElem? (i := 33) rfl))) (Or.inr (hw _ (List.mem_of_getElem? (i := 14) rfl))) (by decide) (t := .int) (t' := (.array .int)) (by decide) (by decide)))).ext E12).other W18 (Or.inr (slot_ne (Or.inl (hw _ (List.mem_of_getElem? (i := 33) rfl))) (Or.inr (hw _ (List.mem_of_getElem? (i := 16) rfl))) (by decide) (t := .int) (t' := (.array .int)) (by decide) (by decide))))
  have f23 := ((((((F_count.ext E2).other W5 (Or.inr (slot_ne (Or.inl (hw _ (List.mem_of_getElem? (i := 35) rfl))) (Or.inr (hw _ (List.mem_of_getElem? (i := 11) rfl))) (by decide) (t := .int) (t' := (.array .double)) (by decide) (by decide)))).ext E6).other W11 (Or.inr (slot_ne (Or.inl (hw _ (List.mem_of_getElem? (i := 35) rfl))) (Or.inr (hw _ (List.mem_of_getElem? (i := 14) rfl))) (by decide) (t := .int) (t' := (.array .int)) (by decide) (by decide)))).ext E12).other W18 (Or.inr (slot_ne (Or.inl (hw _ (List.mem_of_getElem? (i := 35) rfl))) (Or.inr (hw _ (List.mem_of_getElem? (i := 16) rfl))) (by decide) (t := .int) (t' := (.array .int)) (by decide) (by decide))))
  have f24 := ((f14.ext E12).other W18 (Ne.symm ne_a1_b2))
  have f25 := ((f15.ext E12).other W18 (Ne.symm ne_a1_b6))
  have f26 := (V12.other W18 (Ne.symm ne_a1_b12))
  exact ⟨rfl, N18h, K18.1, b2, b6, b12, ⟨ne_a1_b2, ne_a1_b6, ne_a1_b12, ne_b2_b6, ne_b2_b12, ne_b6_b12⟩, ⟨g1, gz_b2, gz_b6, gz_b12⟩, ⟨f19, f20, f21, Fw18, f22, f23, f24, f25, f26⟩⟩
theorem d3_0 : decode prog_174_method_5_code 0 = .ok (.aload_n 0, 1) := by decide +kernel
theorem d3_1 : decode prog_174_method_5_code 1 = .ok (.getfield 17, 3) := by decide +kernel
theorem d3_4 : decode prog_174_method_5_code 4 = .ok (.areturn, 1) := by decide +kernel
theorem ef_rm3 (m : MethodId) (a1 : Addr) : entryFrame m #[(.ref a1)] 1 = mkF m 0 #[.val (.ref a1)] [] := by first | (simp [entryFrame, mkF, argsToLocals, Value.category]; done) | rfl
set_option maxRecDepth 65536 in
set_option maxHeartbeats 40000000 in
theorem rm3 (l : Launch) (Z : State) (a0 : Array Value) (hw : ∀ d ∈ tables_1, d.before a0 Z = true) (ws : List Jvm.Cond) (a1 : Addr) (r : Addr) (h0 : Heap) (n0 : Nat) (Z0 : n0 ≤ h0.size) (F1 : Fld Z h0 a1 "com/example/pivotwise/pivotwise/retrieval/Scores" "scored" "[I" (.ref r)) :
    MetFree l (⟨"com/example/pivotwise/pivotwise/retrieval/Scores", "documents", "()[I"⟩ : MethodName) (head1 (Jvm.Cond.code (⟨"com/example/pivotwise/pivotwise/retrieval/Scores", "documents", "()[I"⟩ : MethodName) prog_174_method_5_code 1 (some (.array .int)) :: ws) ({ frames := 0, cells := 0, slots := 0, locals := 0 } : Room)) (fun a U => a = #[(.ref a1)] ∧ Z.Warmed39 U.vm ∧ U.heap = h0) (fun _ _ _ _ _ => True) (fun _ U o U' => ∃ vr Lr, o = .returned vr ∧ QR r h0 n0 vr U'.heap Lr ∧ FrameEnd U o U' Lr 0 0) := by
  refine MetFree.of_bodySF (plainFor_of_name own_pn0) hisR ?_
  intro p e s m args below meth c s₁ Bd hml0 hP hK
  obtain ⟨rfl, hZ, hh⟩ := hP
  have hx := Bd.exec
  have hby := Bd.bytes
  have hml : c.maxLocals = 1 := hml0
  have hown : s.vm.findClass "com/example/pivotwise/pivotwise/retrieval/Scores" = some m.cls := findClass_of_methodNamed Bd.named
  have hnm := (name_of_methodNamed Bd.named Bd.method).1
  have hlk : meth.locks = false := Bd.notSynchronized
  have hrt := Bd.returns
  have X0 : Stand p l e ({ frames := 0, cells := 0, slots := 0, locals := 0 } : Room) s m #[(.ref a1)] below meth c s₁ [] 0 0 := Stand.of_body Bd
  have e0 : s₁.heap = h0 := by rw [← hh, Bd.state]; rfl
  have N0 := Fr.nil n0
  show Done p e s below 0 0 (QR r h0 n0) s₁ (entryFrame m #[(.ref a1)] 1)
  rw [ef_rm3]
  show Done p e s below _ _ _ s₁ (mkF m 0 #[.val (.ref a1)] [])
  refine Done.go (fun _ kt_ => XS.aloadN X0.here hx rfl (hb hby d3_0) rfl rfl kt_) ?_
  show Done p e s below _ _ _ s₁ (mkF m 1 #[.val (.ref a1)] [(.ref a1)])
  obtain ⟨T27, X27, e27, st27⟩ := getF X0 hx hZ hown (host := "") (Or.inl (hw _ (List.mem_of_getElem? (i := 15) rfl))) Via.refl e0 F1 (g := (mkF m 1 #[.val (.ref a1)] [(.ref a1)])) rfl rfl (hb hby d3_1)
  refine Done.go st27 ?_
  clear st27
  show Done p e s below _ _ _ T27 (mkF m 4 #[.val (.ref a1)] [(.ref r)])
  refine Done.retR X27 hx hlk hrt rfl rfl (hb hby d3_4) ?_ (by first | decide | omega) (by first | decide | omega)
  rw [e27]
  exact ⟨rfl, N0, rfl⟩
theorem d4_0 : decode prog_174_method_6_code 0 = .ok (.aload_n 0, 1) := by decide +kernel
theorem d4_1 : decode prog_174_method_6_code 1 = .ok (.getfield 7, 3) := by decide +kernel
theorem d4_4 : decode prog_174_method_6_code 4 = .ok (.areturn, 1) := by decide +kernel
theorem ef_rm4 (m : MethodId) (a1 : Addr) : entryFrame m #[(.ref a1)] 1 = mkF m 0 #[.val (.ref a1)] [] := by first | (simp [entryFrame, mkF, argsToLocals, Value.category]; done) | rfl
set_option maxRecDepth 65536 in
set_option maxHeartbeats 40000000 in
theorem rm4 (l : Launch) (Z : State) (a0 : Array Value) (hw : ∀ d ∈ tables_1, d.before a0 Z = true) (ws : List Jvm.Cond) (a1 : Addr) (r : Addr) (h0 : Heap) (n0 : Nat) (Z0 : n0 ≤ h0.size) (F1 : Fld Z h0 a1 "com/example/pivotwise/pivotwise/retrieval/Scores" "scores" "[D" (.ref r)) :
    MetFree l (⟨"com/example/pivotwise/pivotwise/retrieval/Scores", "values", "()[D"⟩ : MethodName) (head1 (Jvm.Cond.code (⟨"com/example/pivotwise/pivotwise/retrieval/Scores", "values", "()[D"⟩ : MethodName) prog_174_method_6_code 1 (some (.array .double)) :: ws) ({ frames := 0, cells := 0, slots := 0, locals := 0 } : Room)) (fun a U => a = #[(.ref a1)] ∧ Z.Warmed39 U.vm ∧ U.heap = h0) (fun _ _ _ _ _ => True) (fun _ U o U' => ∃ vr Lr, o = .returned vr ∧ QR r h0 n0 vr U'.heap Lr ∧ FrameEnd U o U' Lr 0 0) := by
  refine MetFree.of_bodySF (plainFor_of_name own_pn0) hisR ?_
  intro p e s m args below meth c s₁ Bd hml0 hP hK
  obtain ⟨rfl, hZ, hh⟩ := hP
  have hx := Bd.exec
  have hby := Bd.bytes
  have hml : c.maxLocals = 1 := hml0
  have hown : s.vm.findClass "com/example/pivotwise/pivotwise/retrieval/Scores" = some m.cls := findClass_of_methodNamed Bd.named
  have hnm := (name_of_methodNamed Bd.named Bd.method).1
  have hlk : meth.locks = false := Bd.notSynchronized
  have hrt := Bd.returns
  have X0 : Stand p l e ({ frames := 0, cells := 0, slots := 0, locals := 0 } : Room) s m #[(.ref a1)] below meth c s₁ [] 0 0 := Stand.of_body Bd
  have e0 : s₁.heap = h0 := by rw [← hh, Bd.state]; rfl
  have N0 := Fr.nil n0
  show Done p e s below 0 0 (QR r h0 n0) s₁ (entryFrame m #[(.ref a1)] 1)
  rw [ef_rm4]
  show Done p e s below _ _ _ s₁ (mkF m 0 #[.val (.ref a1)] [])
  refine Done.go (fun _ kt_ => XS.aloadN X0.here hx rfl (hb hby d4_0) rfl rfl kt_) ?_
  show Done p e s below _ _ _ s₁ (mkF m 1 #[.val (.ref a1)] [(.ref a1)])
  obtain ⟨T28, X28, e28, st28⟩ := getF X0 hx hZ hown (host := "") (Or.inl (hw _ (List.mem_of_getElem? (i := 10) rfl))) Via.refl e0 F1 (g := (mkF m 1 #[.val (.ref a1)] [(.ref a1)])) rfl rfl (hb hby d4_1)
  refine Done.go st28 ?_
  clear st28
  show Done p e s below _ _ _ T28 (mkF m 4 #[.val (.ref a1)] [(.ref r)])
  refine Done.retR X28 hx hlk hrt rfl rfl (hb hby d4_4) ?_ (by first | decide | omega) (by first | decide | omega)
  rw [e28]
  exact ⟨rfl, N0, rfl⟩
theorem d7_0 : decode prog_174_method_4_code 0 = .ok (.aload_n 0, 1) := by decide +kernel
theorem d7_1 : decode prog_174_method_4_code 1 = .ok (.getfield 24, 3) := by decide +kernel
theorem d7_4 : decode prog_174_method_4_code 4 = .ok (.ireturn, 1) := by decide +kernel
theorem ef_rm7 (m : MethodId) (a1 : Addr) : entryFrame m #[(.ref a1)] 1 = mkF m 0 #[.val (.ref a1)] [] := by first | (simp [entryFrame, mkF, argsToLocals, Value.category]; done) | rfl
set_option maxRecDepth 65536 in
set_option maxHeartbeats 40000000 in
theorem rm7 (l : Launch) (Z : State) (a0 : Array Value) (hw : ∀ d ∈ tables_1, d.before a0 Z = true) (ws : List Jvm.Cond) (a1 : Addr) (r : Int32) (h0 : Heap) (n0 : Nat) (Z0 : n0 ≤ h0.size) (F1 : Fld Z h0 a1 "com/example/pivotwise/pivotwise/retrieval/Scores" "count" "I" (.int r)) :
    MetFree l (⟨"com/example/pivotwise/pivotwise/retrieval/Scores", "count", "()I"⟩ : MethodName) (head1 (Jvm.Cond.code (⟨"com/example/pivotwise/pivotwise/retrieval/Scores", "count", "()I"⟩ : MethodName) prog_174_method_4_code 1 (some .int) :: ws) ({ frames := 0, cells := 0, slots := 0, locals := 0 } : Room)) (fun a U => a = #[(.ref a1)] ∧ Z.Warmed39 U.vm ∧ U.heap = h0) (fun _ _ _ _ _ => True) (fun _ U o U' => ∃ vr Lr, o = .returned vr ∧ QI r h0 n0 vr U'.heap Lr ∧ FrameEnd U o U' Lr 0 0) := by
  refine MetFree.of_bodySF (plainFor_of_name own_pn0) hisR ?_
  intro p e s m args below meth c s₁ Bd hml0 hP hK
  obtain ⟨rfl, hZ, hh⟩ := hP
  have hx := Bd.exec
  have hby := Bd.bytes
  have hml : c.maxLocals = 1 := hml0
  have hown : s.vm.findClass "com/example/pivotwise/pivotwise/retrieval/Scores" = some m.cls := findClass_of_methodNamed Bd.named
  have hnm := (name_of_methodNamed Bd.named Bd.method).1
  have hlk : meth.locks = false := Bd.notSynchronized
  have hrt := Bd.returns
  have X0 : Stand p l e ({ frames := 0, cells := 0, slots := 0, locals := 0 } : Room) s m #[(.ref a1)] below meth c s₁ [] 0 0 := Stand.of_body Bd
  have e0 : s₁.heap = h0 := by rw [← hh, Bd.state]; rfl
  have N0 := Fr.nil n0
  show Done p e s below 0 0 (QI r h0 n0) s₁ (entryFrame m #[(.ref a1)] 1)
  rw [ef_rm7]
  show Done p e s below _ _ _ s₁ (mkF m 0 #[.val (.ref a1)] [])
  refine Done.go (fun _ kt_ => XS.aloadN X0.here hx rfl (hb hby d7_0) rfl rfl kt_) ?_
  show Done p e s below _ _ _ s₁ (mkF m 1 #[.val (.ref a1)] [(.ref a1)])
  obtain ⟨T29, X29, e29, st29⟩ := getF X0 hx hZ hown (host := "") (Or.inl (hw _ (List.mem_of_getElem? (i := 34) rfl))) Via.refl e0 F1 (g := (mkF m 1 #[.val (.ref a1)] [(.ref a1)])) rfl rfl (hb hby d7_1)
  refine Done.go st29 ?_
  clear st29
  show Done p e s below _ _ _ T29 (mkF m 4 #[.val (.ref a1)] [(.int r)])
  refine Done.retI X29 hx hlk hrt (hb hby d7_4) ?_ (by first | decide | omega) (by first | decide | omega)
  rw [e29]
  exact ⟨rfl, N0, rfl⟩
def QS (Z : State) (ab bD bF bS : Addr) (sc : Nat → Int64) (sf sd : Nat → Int32) (q k : Int32) (h0 : Heap) (n0 : Nat) (v : Option Value) (h : Heap) (L : List Loc) : Prop := v = none ∧ Fr n0 L ∧ h0.size ≤ h.size ∧ own_sc Z h ab bD bF bS sc sf sd q k
theorem d5_0 : decode prog_174_method_2_code 0 = .ok (.aload_n 0, 1) := by decide +kernel
theorem d5_1 : decode prog_174_method_2_code 1 = .ok (.dup, 1) := by decide +kernel
theorem d5_2 : decode prog_174_method_2_code 2 = .ok (.getfield 20, 3) := by decide +kernel
theorem d5_5 : decode prog_174_method_2_code 5 = .ok (.iconst 1, 1) := by decide +kernel
theorem d5_6 : decode prog_174_method_2_code 6 = .ok (.iadd, 1) := by decide +kernel
theorem d5_7 : decode prog_174_method_2_code 7 = .ok (.putfield 20, 3) := by decide +kernel
theorem d5_10 : decode prog_174_method_2_code 10 = .ok (.aload_n 0, 1) := by decide +kernel
theorem d5_11 : decode prog_174_method_2_code 11 = .ok (.iconst 0, 1) := by decide +kernel
theorem d5_12 : decode prog_174_method_2_code 12 = .ok (.putfield 24, 3) := by decide +kernel
theorem d5_15 : decode prog_174_method_2_code 15 = .ok (.return_, 1) := by decide +kernel
theorem ef_rm5 (m : MethodId) (ab : Addr) : entryFrame m #[(.ref ab)] 1 = mkF m 0 #[.val (.ref ab)] [] := by first | (simp [entryFrame, mkF, argsToLocals, Value.category]; done) | rfl
set_option maxRecDepth 65536 in
set_option maxHeartbeats 40000000 in
theorem rm5 (l : Launch) (Z : State) (a0 : Array Value) (hw : ∀ d ∈ tables_1, d.before a0 Z = true) (ws : List Jvm.Cond) (ab : Addr) (bD : Addr) (bF : Addr) (bS : Addr) (sc : Nat → Int64) (sf : Nat → Int32) (sd : Nat → Int32) (q : Int32) (k : Int32) (q2 : Int32) (h0 : Heap) (n0 : Nat) (Z0 : n0 ≤ h0.size) (P : own_sc Z h0 ab bD bF bS sc sf sd q k) (hds : own_ds ab bD bF bS) (hgs : own_gs n0 ab bD bF bS) (hq : q + 1 = q2) :
    MetFree l (⟨"com/example/pivotwise/pivotwise/retrieval/Scores", "start", "()V"⟩ : MethodName) (head1 (Jvm.Cond.code (⟨"com/example/pivotwise/pivotwise/retrieval/Scores", "start", "()V"⟩ : MethodName) prog_174_method_2_code 1 none :: ws) ({ frames := 0, cells := 0, slots := 0, locals := 0 } : Room)) (fun a U => a = #[(.ref ab)] ∧ Z.Warmed39 U.vm ∧ U.heap = h0) (fun _ _ _ _ _ => True) (fun _ U o U' => ∃ vr Lr, o = .returned vr ∧ QS Z ab bD bF bS sc sf sd q2 0 h0 n0 vr U'.heap Lr ∧ FrameEnd U o U' Lr 0 0) := by
  refine MetFree.of_bodySF (plainFor_of_name own_pn0) hisR ?_
  intro p e s m args below meth c s₁ Bd hml0 hP hK
  obtain ⟨rfl, hZ, hh⟩ := hP
  have hx := Bd.exec
  have hby := Bd.bytes
  have hml : c.maxLocals = 1 := hml0
  have hown : s.vm.findClass "com/example/pivotwise/pivotwise/retrieval/Scores" = some m.cls := findClass_of_methodNamed Bd.named
  have hnm := (name_of_methodNamed Bd.named Bd.method).1
  have hlk : meth.locks = false := Bd.notSynchronized
  have hrt := Bd.returns
  have X0 : Stand p l e ({ frames := 0, cells := 0, slots := 0, locals := 0 } : Room) s m #[(.ref ab)] below meth c s₁ [] 0 0 := Stand.of_body Bd
  have e0 : s₁.heap = h0 := by rw [← hh, Bd.state]; rfl
  have N0 := Fr.nil n0
  show Done p e s below 0 0 (QS Z ab bD bF bS sc sf sd q2 0 h0 n0) s₁ (entryFrame m #[(.ref ab)] 1)
  rw [ef_rm5]
  obtain ⟨d1, d2, d3, d4, d5, d6⟩ := hds
  obtain ⟨ga, gD, gF, gS⟩ := hgs
  obtain ⟨E0, Fscores0, FscoredFor0, Fscored0, Fquery0, Fcount0, VD0, VF0, VS0⟩ := P
  show Done p e s below _ _ _ s₁ (mkF m 0 #[.val (.ref ab)] [])
  refine Done.go (fun _ kt_ => XS.aloadN X0.here hx rfl (hb hby d5_0) rfl rfl kt_) ?_
  show Done p e s below _ _ _ s₁ (mkF m 1 #[.val (.ref ab)] [(.ref ab)])
  refine Done.go (fun _ kt_ => XS.dup X0.here hx rfl (hb hby d5_1) rfl rfl kt_) ?_
  show Done p e s below _ _ _ s₁ (mkF m 2 #[.val (.ref ab)] [(.ref ab), (.ref ab)])
  obtain ⟨T30, X30, e30, st30⟩ := getF X0 hx hZ hown (host := "") (Or.inl (hw _ (List.mem_of_getElem? (i := 32) rfl))) Via.refl e0 Fquery0 (g := (mkF m 2 #[.val (.ref ab)] [(.ref ab), (.ref ab)])) rfl rfl (hb hby d5_2)
  refine Done.go st30 ?_
  clear st30
  show Done p e s below _ _ _ T30 (mkF m 5 #[.val (.ref ab)] [(.int q), (.ref ab)])
  refine Done.go (fun _ kt_ => XS.iconst X30.here hx rfl (hb hby d5_5) kt_) ?_
  show Done p e s below _ _ _ T30 (mkF m 6 #[.val (.ref ab)] [(.int (1 : Int32)), (.int q), (.ref ab)])
  refine Done.go (fun _ kt_ => XS.iadd X30.here hx rfl (hb hby d5_6) rfl kt_) ?_
  show Done p e s below _ _ _ T30 (mkF m 7 #[.val (.ref ab)] [(.int (q + (1 : Int32))), (.ref ab)])
  rw [hq]
  show Done p e s below _ _ _ T30 (mkF m 7 #[.val (.ref ab)] [(.int q2), (.ref ab)])
  obtain ⟨T31, h31, X31, e31, W31, st31⟩ := putF X30 hx hZ hown (host := "") (Or.inl (hw _ (List.mem_of_getElem? (i := 32) rfl))) Via.refl e30 Fquery0 E0 (Or.inl (hw _ (List.mem_of_getElem? (i := 33) rfl))) (hw _ (List.mem_of_getElem? (i := 1) rfl)) (ty := .int) (by decide) rfl rfl (g := (mkF m 7 #[.val (.ref ab)] [(.int q2), (.ref ab)])) rfl rfl (hb hby d5_7)
  have Fw31 : Fld Z h31 ab "com/example/pivotwise/pivotwise/retrieval/Scores" "query" "I" (.int q2) := Fquery0.same W31
  have N31 := Fr.snoc X31 N0 ga
  have Z31 : n0 ≤ h31.size := by rw [W31.size]; exact Z0
  have K31 : Keep h0 h31 [ab] := (Keep.refl h0 [ab]).wr W31 (Or.inl (List.mem_of_getElem? (i := 0) rfl))
  obtain ⟨Lh31, X31h, N31h⟩ : ∃ L, Stand p l e ({ frames := 0, cells := 0, slots := 0, locals := 0 } : Room) s m #[(.ref ab)] below meth c T31 L 0 0 ∧ Fr n0 L := ⟨_, X31, N31⟩
  clear X31 N31 X30 e30
  refine Done.go st31 ?_
  clear st31
  show Done p e s below _ _ _ T31 (mkF m 10 #[.val (.ref ab)] [])
  refine Done.go (fun _ kt_ => XS.aloadN X31h.here hx rfl (hb hby d5_10) rfl rfl kt_) ?_
  show Done p e s below _ _ _ T31 (mkF m 11 #[.val (.ref ab)] [(.ref ab)])
  refine Done.go (fun _ kt_ => XS.iconst X31h.here hx rfl (hb hby d5_11) kt_) ?_
  show Done p e s below _ _ _ T31 (mkF m 12 #[.val (.ref ab)] [(.int (0 : Int32)), (.ref ab)])
  have f32 := (E0.wr W31)
  have f33 := (Fcount0.other W31 (Or.inr (slot_ne (Or.inl (hw _ (List.mem_of_getElem? (i := 35) rfl))) (Or.inl (hw _ (List.mem_of_getElem? (i := 33) rfl))) (by decide) (t := .int) (t' := .int) (by decide) (by decide))))
  obtain ⟨T34, h34, X34, e34, W34, st34⟩ := putF X31h hx hZ hown (host := "") (Or.inl (hw _ (List.mem_of_getElem? (i := 34) rfl))) Via.refl e31 f33 f32 (Or.inl (hw _ (List.mem_of_getElem? (i := 35) rfl))) (hw _ (List.mem_of_getElem? (i := 1) rfl)) (ty := .int) (by decide) rfl rfl (g := (mkF m 12 #[.val (.ref ab)] [(.int (0 : Int32)), (.ref ab)])) rfl rfl (hb hby d5_12)
  have Fw34 : Fld Z h34 ab "com/example/pivotwise/pivotwise/retrieval/Scores" "count" "I" (.int (0 : Int32)) := f33.same W34
  have N34 := Fr.snoc X34 N31h ga
  have Z34 : n0 ≤ h34.size := by rw [W34.size]; exact Z31
  have K34 : Keep h0 h34 [ab] := K31.wr W34 (Or.inl (List.mem_of_getElem? (i := 0) rfl))
  obtain ⟨Lh34, X34h, N34h⟩ : ∃ L, Stand p l e ({ frames := 0, cells := 0, slots := 0, locals := 0 } : Room) s m #[(.ref ab)] below meth c T34 L 0 0 ∧ Fr n0 L := ⟨_, X34, N34⟩
  clear X34 N34 X31h e31 N31h Z31 K31
  refine Done.go st34 ?_
  clear st34
  show Done p e s below _ _ _ T34 (mkF m 15 #[.val (.ref ab)] [])
  refine Done.retV X34h hx hlk hrt (hb hby d5_15) ?_ (by first | decide | omega) (by first | decide | omega)
  rw [e34]
  have f35 := (f32.wr W34)
  have f36 := ((Fscores0.other W31 (Or.inr (slot_ne (Or.inr (hw _ (List.mem_of_getElem? (i := 11) rfl))) (Or.inl (hw _ (List.mem_of_getElem? (i := 33) rfl))) (by decide) (t := (.array .double)) (t' := .int) (by decide) (by decide)))).other W34 (Or.inr (slot_ne (Or.inr (hw _ (List.mem_of_getElem? (i := 11) rfl))) (Or.inl (hw _ (List.mem_of_getElem? (i := 35) rfl))) (by decide) (t := (.array .double)) (t' := .int) (by decide) (by decide))))
  have f37 := ((FscoredFor0.other W31 (Or.inr (slot_ne (Or.inr (hw _ (List.mem_of_getElem? (i := 14) rfl))) (Or.inl (hw _ (List.mem_of_getElem? (i := 33) rfl))) (by decide) (t := (.array .int)) (t' := .int) (by decide) (by decide)))).other W34 (Or.inr (slot_ne (Or.inr (hw _ (List.mem_of_getElem? (i := 14) rfl))) (Or.inl (hw _ (List.mem_of_getElem? (i := 35) rfl))) (by decide) (t := (.array .int)) (t' := .int) (by decide) (by decide))))
  have f38 := ((Fscored0.other W31 (Or.inr (slot_ne (Or.inr (hw _ (List.mem_of_getElem? (i := 16) rfl))) (Or.inl (hw _ (List.mem_of_getElem? (i := 33) rfl))) (by decide) (t := (.array .int)) (t' := .int) (by decide) (by decide)))).other W34 (Or.inr (slot_ne (Or.inr (hw _ (List.mem_of_getElem? (i := 16) rfl))) (Or.inl (hw _ (List.mem_of_getElem? (i := 35) rfl))) (by decide) (t := (.array .int)) (t' := .int) (by decide) (by decide))))
  have f39 := (Fw31.other W34 (Or.inr (slot_ne (Or.inl (hw _ (List.mem_of_getElem? (i := 33) rfl))) (Or.inl (hw _ (List.mem_of_getElem? (i := 35) rfl))) (by decide) (t := .int) (t' := .int) (by decide) (by decide))))
  have f40 := ((VD0.other W31 (Ne.symm d1)).other W34 (Ne.symm d1))
  have f41 := ((VF0.other W31 (Ne.symm d2)).other W34 (Ne.symm d2))
  have f42 := ((VS0.other W31 (Ne.symm d3)).other W34 (Ne.symm d3))
  exact ⟨rfl, N34h, K34.1, ⟨f35, f36, f37, f38, f39, Fw34, f40, f41, f42⟩⟩
theorem d6_0 : decode prog_174_method_3_code 0 = .ok (.aload_n 0, 1) := by decide +kernel
theorem d6_1 : decode prog_174_method_3_code 1 = .ok (.getfield 13, 3) := by decide +kernel
theorem d6_4 : decode prog_174_method_3_code 4 = .ok (.iload_n 1, 1) := by decide +kernel
theorem d6_5 : decode prog_174_method_3_code 5 = .ok (.iaload, 1) := by decide +kernel
theorem d6_6 : decode prog_174_method_3_code 6 = .ok (.aload_n 0, 1) := by decide +kernel
theorem d6_7 : decode prog_174_method_3_code 7 = .ok (.getfield 20, 3) := by decide +kernel
theorem d6_10 : decode prog_174_method_3_code 10 = .ok (.if_icmp .eq 37, 3) := by decide +kernel
theorem d6_13 : decode prog_174_method_3_code 13 = .ok (.aload_n 0, 1) := by decide +kernel
theorem d6_14 : decode prog_174_method_3_code 14 = .ok (.getfield 13, 3) := by decide +kernel
theorem d6_17 : decode prog_174_method_3_code 17 = .ok (.iload_n 1, 1) := by decide +kernel
theorem d6_18 : decode prog_174_method_3_code 18 = .ok (.aload_n 0, 1) := by decide +kernel
theorem d6_19 : decode prog_174_method_3_code 19 = .ok (.getfield 20, 3) := by decide +kernel
theorem d6_22 : decode prog_174_method_3_code 22 = .ok (.iastore, 1) := by decide +kernel
theorem d6_23 : decode prog_174_method_3_code 23 = .ok (.aload_n 0, 1) := by decide +kernel
theorem d6_24 : decode prog_174_method_3_code 24 = .ok (.getfield 7, 3) := by decide +kernel
theorem d6_27 : decode prog_174_method_3_code 27 = .ok (.iload_n 1, 1) := by decide +kernel
theorem d6_28 : decode prog_174_method_3_code 28 = .ok (.dconst 0, 1) := by decide +kernel
theorem d6_29 : decode prog_174_method_3_code 29 = .ok (.dastore, 1) := by decide +kernel
theorem d6_30 : decode prog_174_method_3_code 30 = .ok (.aload_n 0, 1) := by decide +kernel
theorem d6_31 : decode prog_174_method_3_code 31 = .ok (.getfield 17, 3) := by decide +kernel
theorem d6_34 : decode prog_174_method_3_code 34 = .ok (.aload_n 0, 1) := by decide +kernel
theorem d6_35 : decode prog_174_method_3_code 35 = .ok (.dup, 1) := by decide +kernel
theorem d6_36 : decode prog_174_method_3_code 36 = .ok (.getfield 24, 3) := by decide +kernel
theorem d6_39 : decode prog_174_method_3_code 39 = .ok (.dup_x1, 1) := by decide +kernel
theorem d6_40 : decode prog_174_method_3_code 40 = .ok (.iconst 1, 1) := by decide +kernel
theorem d6_41 : decode prog_174_method_3_code 41 = .ok (.iadd, 1) := by decide +kernel
theorem d6_42 : decode prog_174_method_3_code 42 = .ok (.putfield 24, 3) := by decide +kernel
theorem d6_45 : decode prog_174_method_3_code 45 = .ok (.iload_n 1, 1) := by decide +kernel
theorem d6_46 : decode prog_174_method_3_code 46 = .ok (.iastore, 1) := by decide +kernel
theorem d6_47 : decode prog_174_method_3_code 47 = .ok (.aload_n 0, 1) := by decide +kernel
theorem d6_48 : decode prog_174_method_3_code 48 = .ok (.getfield 7, 3) := by decide +kernel
theorem d6_51 : decode prog_174_method_3_code 51 = .ok (.iload_n 1, 1) := by decide +kernel
theorem d6_52 : decode prog_174_method_3_code 52 = .ok (.dup2, 1) := by decide +kernel
theorem d6_53 : decode prog_174_method_3_code 53 = .ok (.daload, 1) := by decide +kernel
theorem d6_54 : decode prog_174_method_3_code 54 = .ok (.dload_n 2, 1) := by decide +kernel
theorem d6_55 : decode prog_174_method_3_code 55 = .ok (.dadd, 1) := by decide +kernel
theorem d6_56 : decode prog_174_method_3_code 56 = .ok (.dastore, 1) := by decide +kernel
theorem d6_57 : decode prog_174_method_3_code 57 = .ok (.return_, 1) := by decide +kernel
theorem ef_rm6n (m : MethodId) (ab : Addr) (pd : Int32) (x : Int64) : entryFrame m #[(.ref ab), (.int pd), (.double (FP.l2d x))] 4 = mkF m 0 #[.val (.ref ab), .val (.int pd), .val (.double (FP.l2d x)), .second] [] := by first | (simp [entryFrame, mkF, argsToLocals, Value.category]; done) | rfl
set_option maxRecDepth 65536 in
set_option maxHeartbeats 40000000 in
theorem rm6n (l : Launch) (Z : State) (a0 : Array Value) (hw : ∀ d ∈ tables_1, d.before a0 Z = true) (ws : List Jvm.Cond) (ab : Addr) (bD : Addr) (bF : Addr) (bS : Addr) (pd : Int32) (x : Int64) (sc : Nat → Int64) (sf : Nat → Int32) (sd : Nat → Int32) (q : Int32) (k : Int32) (D : Nat) (K : Nat) (k2 : Int32) (h0 : Heap) (n0 : Nat) (Z0 : n0 ≤ h0.size) (P : own_sc Z h0 ab bD bF bS sc sf sd q k) (hds : own_ds ab bD bF bS) (hgs : own_gs n0 ab bD bF bS) (hD : pd.toInt = (D : Int)) (hD4 : D < 4) (hx53 : B53 x) (hKc : k.toInt = (K : Int)) (hK4 : K < 4) (hne : ¬ sf D = q) (hk2 : k + 1 = k2) :
    MetFree l (⟨"com/example/pivotwise/pivotwise/retrieval/Scores", "add", "(ID)V"⟩ : MethodName) (head1 (Jvm.Cond.code (⟨"com/example/pivotwise/pivotwise/retrieval/Scores", "add", "(ID)V"⟩ : MethodName) prog_174_method_3_code 4 none :: ws) ({ frames := 0, cells := 0, slots := 0, locals := 0 } : Room)) (fun a U => a = #[(.ref ab), (.int pd), (.double (FP.l2d x))] ∧ Z.Warmed39 U.vm ∧ U.heap = h0) (fun _ _ _ _ _ => True) (fun _ U o U' => ∃ vr Lr, o = .returned vr ∧ QS Z ab bD bF bS (own_u sc D (0 + x)) (own_u sf D q) (own_u sd K pd) q k2 h0 n0 vr U'.heap Lr ∧ FrameEnd U o U' Lr 0 0) := by
  refine MetFree.of_bodySF (plainFor_of_name own_pn0) hisR ?_
  intro p e s m args below meth c s₁ Bd hml0 hP hK
  obtain ⟨rfl, hZ, hh⟩ := hP
  have hx := Bd.exec
  have hby := Bd.bytes
  have hml : c.maxLocals = 4 := hml0
  have hown : s.vm.findClass "com/example/pivotwise/pivotwise/retrieval/Scores" = some m.cls := findClass_of_methodNamed Bd.named
  have hnm := (name_of_methodNamed Bd.named Bd.method).1
  have hlk : meth.locks = false := Bd.notSynchronized
  have hrt := Bd.returns
  have X0 : Stand p l e ({ frames := 0, cells := 0, slots := 0, locals := 0 } : Room) s m #[(.ref ab), (.int pd), (.double (FP.l2d x))] below meth c s₁ [] 0 0 := Stand.of_body Bd
  have e0 : s₁.heap = h0 := by rw [← hh, Bd.state]; rfl
  have N0 := Fr.nil n0
  show Done p e s below 0 0 (QS Z ab bD bF bS (own_u sc D (0 + x)) (own_u sf D q) (own_u sd K pd) q k2 h0 n0) s₁ (entryFrame m #[(.ref ab), (.int pd), (.double (FP.l2d x))] 4)
  rw [ef_rm6n]
  obtain ⟨d1, d2, d3, d4, d5, d6⟩ := hds
  obtain ⟨ga, gD, gF, gS⟩ := hgs
  obtain ⟨E0, Fscores0, FscoredFor0, Fscored0, Fquery0, Fcount0, VD0, VF0, VS0⟩ := P
  show Done p e s below _ _ _ s₁ (mkF m 0 #[.val (.ref ab), .val (.int pd), .val (.double (FP.l2d x)), .second] [])
  refine Done.go (fun _ kt_ => XS.aloadN X0.here hx rfl (hb hby d6_0) rfl rfl kt_) ?_
  show Done p e s below _ _ _ s₁ (mkF m 1 #[.val (.ref ab), .val (.int pd), .val (.double (FP.l2d x)), .second] [(.ref ab)])
  obtain ⟨T43, X43, e43, st43⟩ := getF X0 hx hZ hown (host := "") (Or.inl (hw _ (List.mem_of_getElem? (i := 13) rfl))) Via.refl e0 FscoredFor0 (g := (mkF m 1 #[.val (.ref ab), .val (.int pd), .val (.double (FP.l2d x)), .second] [(.ref ab)])) rfl rfl (hb hby d6_1)
  refine Done.go st43 ?_
  clear st43
  show Done p e s below _ _ _ T43 (mkF m 4 #[.val (.ref ab), .val (.int pd), .val (.double (FP.l2d x)), .second] [(.ref bF)])
  refine Done.go (fun _ kt_ => XS.iloadN X43.here hx rfl (hb hby d6_4) rfl kt_) ?_
  show Done p e s below _ _ _ T43 (mkF m 5 #[.val (.ref ab), .val (.int pd), .val (.double (FP.l2d x)), .second] [(.int pd), (.ref bF)])
  refine Done.ldI X43 hx hZ e43 VF0 (j := pd) (w := (sf D)) D (own_ix hD).1 (own_ix hD).2 hD4 rfl (hb hby d6_5) ?_
  show Done p e s below _ _ _ T43 (mkF m 6 #[.val (.ref ab), .val (.int pd), .val (.double (FP.l2d x)), .second] [(.int (sf D))])
  refine Done.go (fun _ kt_ => XS.aloadN X43.here hx rfl (hb hby d6_6) rfl rfl kt_) ?_
  show Done p e s below _ _ _ T43 (mkF m 7 #[.val (.ref ab), .val (.int pd), .val (.double (FP.l2d x)), .second] [(.ref ab), (.int (sf D))])
  obtain ⟨T44, X44, e44, st44⟩ := getF X43 hx hZ hown (host := "") (Or.inl (hw _ (List.mem_of_getElem? (i := 32) rfl))) Via.refl e43 Fquery0 (g := (mkF m 7 #[.val (.ref ab), .val (.int pd), .val (.double (FP.l2d x)), .second] [(.ref ab), (.int (sf D))])) rfl rfl (hb hby d6_7)
  refine Done.go st44 ?_
  clear st44 X43 e43
  show Done p e s below _ _ _ T44 (mkF m 10 #[.val (.ref ab), .val (.int pd), .val (.double (FP.l2d x)), .second] [(.int q), (.int (sf D))])
  refine Done.go (fun _ kt_ => XS.icmpNo X44.here hx rfl (hb hby d6_10) rfl (feq hne).1 kt_) ?_
  show Done p e s below _ _ _ T44 (mkF m 13 #[.val (.ref ab), .val (.int pd), .val (.double (FP.l2d x)), .second] [])
  refine Done.go (fun _ kt_ => XS.aloadN X44.here hx rfl (hb hby d6_13) rfl rfl kt_) ?_
  show Done p e s below _ _ _ T44 (mkF m 14 #[.val (.ref ab), .val (.int pd), .val (.double (FP.l2d x)), .second] [(.ref ab)])
  obtain ⟨T45, X45, e45, st45⟩ := getF X44 hx hZ hown (host := "") (Or.inl (hw _ (List.mem_of_getElem? (i := 13) rfl))) Via.refl e44 FscoredFor0 (g := (mkF m 14 #[.val (.ref ab), .val (.int pd), .val (.double (FP.l2d x)), .second] [(.ref ab)])) rfl rfl (hb hby d6_14)
  refine Done.go st45 ?_
  clear st45 X44 e44
  show Done p e s below _ _ _ T45 (mkF m 17 #[.val (.ref ab), .val (.int pd), .val (.double (FP.l2d x)), .second] [(.ref bF)])
  refine Done.go (fun _ kt_ => XS.iloadN X45.here hx rfl (hb hby d6_17) rfl kt_) ?_
  show Done p e s below _ _ _ T45 (mkF m 18 #[.val (.ref ab), .val (.int pd), .val (.double (FP.l2d x)), .second] [(.int pd), (.ref bF)])
  refine Done.go (fun _ kt_ => XS.aloadN X45.here hx rfl (hb hby d6_18) rfl rfl kt_) ?_
  show Done p e s below _ _ _ T45 (mkF m 19 #[.val (.ref ab), .val (.int pd), .val (.double (FP.l2d x)), .second] [(.ref ab), (.int pd), (.ref bF)])
  obtain ⟨T46, X46, e46, st46⟩ := getF X45 hx hZ hown (host := "") (Or.inl (hw _ (List.mem_of_getElem? (i := 32) rfl))) Via.refl e45 Fquery0 (g := (mkF m 19 #[.val (.ref ab), .val (.int pd), .val (.double (FP.l2d x)), .second] [(.ref ab), (.int pd), (.ref bF)])) rfl rfl (hb hby d6_19)
  refine Done.go st46 ?_
  clear st46 X45 e45
  show Done p e s below _ _ _ T46 (mkF m 22 #[.val (.ref ab), .val (.int pd), .val (.double (FP.l2d x)), .second] [(.int q), (.int pd), (.ref bF)])
  obtain ⟨T47, h47, X47, e47, W47, V47, st47⟩ := own_stI X46 hx hZ e46 VF0 (j := pd) D (own_ix hD).1 (own_ix hD).2 hD4 (g := (mkF m 22 #[.val (.ref ab), .val (.int pd), .val (.double (FP.l2d x)), .second] [(.int q), (.int pd), (.ref bF)])) rfl rfl (hb hby d6_22)
  have N47 := Fr.snoc X47 N0 gF
  have Z47 : n0 ≤ h47.size := by rw [W47.size]; exact Z0
  have K47 : Keep h0 h47 [ab, bD, bF, bS] := (Keep.refl h0 [ab, bD, bF, bS]).wr W47 (Or.inl (List.mem_of_getElem? (i := 2) rfl))
  obtain ⟨Lh47, X47h, N47h⟩ : ∃ L, Stand p l e ({ frames := 0, cells := 0, slots := 0, locals := 0 } : Room) s m #[(.ref ab), (.int pd), (.double (FP.l2d x))] below meth c T47 L 0 0 ∧ Fr n0 L := ⟨_, X47, N47⟩
  clear X47 N47 X46 e46
  refine Done.go st47 ?_
  clear st47
  show Done p e s below _ _ _ T47 (mkF m 23 #[.val (.ref ab), .val (.int pd), .val (.double (FP.l2d x)), .second] [])
  refine Done.go (fun _ kt_ => XS.aloadN X47h.here hx rfl (hb hby d6_23) rfl rfl kt_) ?_
  show Done p e s below _ _ _ T47 (mkF m 24 #[.val (.ref ab), .val (.int pd), .val (.double (FP.l2d x)), .second] [(.ref ab)])
  have f48 := (Fscores0.other W47 (Or.inl d2))
  obtain ⟨T49, X49, e49, st49⟩ := getF X47h hx hZ hown (host := "") (Or.inl (hw _ (List.mem_of_getElem? (i := 10) rfl))) Via.refl e47 f48 (g := (mkF m 24 #[.val (.ref ab), .val (.int pd), .val (.double (FP.l2d x)), .second] [(.ref ab)])) rfl rfl (hb hby d6_24)
  refine Done.go st49 ?_
  clear st49 X47h e47
  show Done p e s below _ _ _ T49 (mkF m 27 #[.val (.ref ab), .val (.int pd), .val (.double (FP.l2d x)), .second] [(.ref bD)])
  refine Done.go (fun _ kt_ => XS.iloadN X49.here hx rfl (hb hby d6_27) rfl kt_) ?_
  show Done p e s below _ _ _ T49 (mkF m 28 #[.val (.ref ab), .val (.int pd), .val (.double (FP.l2d x)), .second] [(.int pd), (.ref bD)])
  refine Done.go (fun _ kt_ => XS.dconst0 X49.here hx rfl (hb hby d6_28) own_d0 kt_) ?_
  show Done p e s below _ _ _ T49 (mkF m 29 #[.val (.ref ab), .val (.int pd), .val (.double (FP.l2d x)), .second] [(.double (FP.l2d (0 : Int64))), (.int pd), (.ref bD)])
  have f50 := (VD0.other W47 d4)
  obtain ⟨T51, h51, X51, e51, W51, V51, st51⟩ := own_stD X49 hx hZ e49 f50 (j := pd) D (own_ix hD).1 (own_ix hD).2 hD4 (g := (mkF m 29 #[.val (.ref ab), .val (.int pd), .val (.double (FP.l2d x)), .second] [(.double (FP.l2d (0 : Int64))), (.int pd), (.ref bD)])) rfl rfl (hb hby d6_29)
  have N51 := Fr.snoc X51 N47h gD
  have Z51 : n0 ≤ h51.size := by rw [W51.size]; exact Z47
  have K51 : Keep h0 h51 [ab, bD, bF, bS] := K47.wr W51 (Or.inl (List.mem_of_getElem? (i := 1) rfl))
  obtain ⟨Lh51, X51h, N51h⟩ : ∃ L, Stand p l e ({ frames := 0, cells := 0, slots := 0, locals := 0 } : Room) s m #[(.ref ab), (.int pd), (.double (FP.l2d x))] below meth c T51 L 0 0 ∧ Fr n0 L := ⟨_, X51, N51⟩
  clear X51 N51 X49 e49 N47h Z47 K47
  refine Done.go st51 ?_
  clear st51
  show Done p e s below _ _ _ T51 (mkF m 30 #[.val (.ref ab), .val (.int pd), .val (.double (FP.l2d x)), .second] [])
  refine Done.go (fun _ kt_ => XS.aloadN X51h.here hx rfl (hb hby d6_30) rfl rfl kt_) ?_
  show Done p e s below _ _ _ T51 (mkF m 31 #[.val (.ref ab), .val (.int pd), .val (.double (FP.l2d x)), .second] [(.ref ab)])
  have f52 := ((Fscored0.other W47 (Or.inl d2)).other W51 (Or.inl d1))
  obtain ⟨T53, X53, e53, st53⟩ := getF X51h hx hZ hown (host := "") (Or.inl (hw _ (List.mem_of_getElem? (i := 15) rfl))) Via.refl e51 f52 (g := (mkF m 31 #[.val (.ref ab), .val (.int pd), .val (.double (FP.l2d x)), .second] [(.ref ab)])) rfl rfl (hb hby d6_31)
  refine Done.go st53 ?_
  clear st53 X51h e51
  show Done p e s below _ _ _ T53 (mkF m 34 #[.val (.ref ab), .val (.int pd), .val (.double (FP.l2d x)), .second] [(.ref bS)])
  refine Done.go (fun _ kt_ => XS.aloadN X53.here hx rfl (hb hby d6_34) rfl rfl kt_) ?_
  show Done p e s below _ _ _ T53 (mkF m 35 #[.val (.ref ab), .val (.int pd), .val (.double (FP.l2d x)), .second] [(.ref ab), (.ref bS)])
  refine Done.go (fun _ kt_ => XS.dup X53.here hx rfl (hb hby d6_35) rfl rfl kt_) ?_
  show Done p e s below _ _ _ T53 (mkF m 36 #[.val (.ref ab), .val (.int pd), .val (.double (FP.l2d x)), .second] [(.ref ab), (.ref ab), (.ref bS)])
  have f54 := ((Fcount0.other W47 (Or.inl d2)).other W51 (Or.inl d1))
  obtain ⟨T55, X55, e55, st55⟩ := getF X53 hx hZ hown (host := "") (Or.inl (hw _ (List.mem_of_getElem? (i := 34) rfl))) Via.refl e53 f54 (g := (mkF m 36 #[.val (.ref ab), .val (.int pd), .val (.double (FP.l2d x)), .second] [(.ref ab), (.ref ab), (.ref bS)])) rfl rfl (hb hby d6_36)
  refine Done.go st55 ?_
  clear st55 X53 e53
  show Done p e s below _ _ _ T55 (mkF m 39 #[.val (.ref ab), .val (.int pd), .val (.double (FP.l2d x)), .second] [(.int k), (.ref ab), (.ref bS)])
  refine Done.go (fun _ kt_ => XS.dupX1 X55.here hx rfl (hb hby d6_39) rfl rfl rfl kt_) ?_
  show Done p e s below _ _ _ T55 (mkF m 40 #[.val (.ref ab), .val (.int pd), .val (.double (FP.l2d x)), .second] [(.int k), (.ref ab), (.int k), (.ref bS)])
  refine Done.go (fun _ kt_ => XS.iconst X55.here hx rfl (hb hby d6_40) kt_) ?_
  show Done p e s below _ _ _ T55 (mkF m 41 #[.val (.ref ab), .val (.int pd), .val (.double (FP.l2d x)), .second] [(.int (1 : Int32)), (.int k), (.ref ab), (.int k), (.ref bS)])
  refine Done.go (fun _ kt_ => XS.iadd X55.here hx rfl (hb hby d6_41) rfl kt_) ?_
  show Done p e s below _ _ _ T55 (mkF m 42 #[.val (.ref ab), .val (.int pd), .val (.double (FP.l2d x)), .second] [(.int (k + (1 : Int32))), (.ref ab), (.int k), (.ref bS)])
  rw [hk2]
  show Done p e s below _ _ _ T55 (mkF m 42 #[.val (.ref ab), .val (.int pd), .val (.double (FP.l2d x)), .second] [(.int k2), (.ref ab), (.int k), (.ref bS)])
  have f56 := ((E0.wr W47).wr W51)
  obtain ⟨T57, h57, X57, e57, W57, st57⟩ := putF X55 hx hZ hown (host := "") (Or.inl (hw _ (List.mem_of_getElem? (i := 34) rfl))) Via.refl e55 f54 f56 (Or.inl (hw _ (List.mem_of_getElem? (i := 35) rfl))) (hw _ (List.mem_of_getElem? (i := 1) rfl)) (ty := .int) (by decide) rfl rfl (g := (mkF m 42 #[.val (.ref ab), .val (.int pd), .val (.double (FP.l2d x)), .second] [(.int k2), (.ref ab), (.int k), (.ref bS)])) rfl rfl (hb hby d6_42)
  have Fw57 : Fld Z h57 ab "com/example/pivotwise/pivotwise/retrieval/Scores" "count" "I" (.int k2) := f54.same W57
  have N57 := Fr.snoc X57 N51h ga
  have Z57 : n0 ≤ h57.size := by rw [W57.size]; exact Z51
  have K57 : Keep h0 h57 [ab, bD, bF, bS] := K51.wr W57 (Or.inl (List.mem_of_getElem? (i := 0) rfl))
  obtain ⟨Lh57, X57h, N57h⟩ : ∃ L, Stand p l e ({ frames := 0, cells := 0, slots := 0, locals := 0 } : Room) s m #[(.ref ab), (.int pd), (.double (FP.l2d x))] below meth c T57 L 0 0 ∧ Fr n0 L := ⟨_, X57, N57⟩
  clear X57 N57 X55 e55 N51h Z51 K51
  refine Done.go st57 ?_
  clear st57
  show Done p e s below _ _ _ T57 (mkF m 45 #[.val (.ref ab), .val (.int pd), .val (.double (FP.l2d x)), .second] [(.int k), (.ref bS)])
  refine Done.go (fun _ kt_ => XS.iloadN X57h.here hx rfl (hb hby d6_45) rfl kt_) ?_
  show Done p e s below _ _ _ T57 (mkF m 46 #[.val (.ref ab), .val (.int pd), .val (.double (FP.l2d x)), .second] [(.int pd), (.int k), (.ref bS)])
  have f58 := (((VS0.other W47 (Ne.symm d6)).other W51 (Ne.symm d5)).other W57 (Ne.symm d3))
  obtain ⟨T59, h59, X59, e59, W59, V59, st59⟩ := own_stI X57h hx hZ e57 f58 (j := k) K (own_ix hKc).1 (own_ix hKc).2 hK4 (g := (mkF m 46 #[.val (.ref ab), .val (.int pd), .val (.double (FP.l2d x)), .second] [(.int pd), (.int k), (.ref bS)])) rfl rfl (hb hby d6_46)
  have N59 := Fr.snoc X59 N57h gS
  have Z59 : n0 ≤ h59.size := by rw [W59.size]; exact Z57
  have K59 : Keep h0 h59 [ab, bD, bF, bS] := K57.wr W59 (Or.inl (List.mem_of_getElem? (i := 3) rfl))
  obtain ⟨Lh59, X59h, N59h⟩ : ∃ L, Stand p l e ({ frames := 0, cells := 0, slots := 0, locals := 0 } : Room) s m #[(.ref ab), (.int pd), (.double (FP.l2d x))] below meth c T59 L 0 0 ∧ Fr n0 L := ⟨_, X59, N59⟩
  clear X59 N59 X57h e57 N57h Z57 K57
  refine Done.go st59 ?_
  clear st59
  show Done p e s below _ _ _ T59 (mkF m 47 #[.val (.ref ab), .val (.int pd), .val (.double (FP.l2d x)), .second] [])
  refine Done.go (fun _ kt_ => XS.aloadN X59h.here hx rfl (hb hby d6_47) rfl rfl kt_) ?_
  show Done p e s below _ _ _ T59 (mkF m 48 #[.val (.ref ab), .val (.int pd), .val (.double (FP.l2d x)), .second] [(.ref ab)])
  have f60 := (((f48.other W51 (Or.inl d1)).other W57 (Or.inr (slot_ne (Or.inr (hw _ (List.mem_of_getElem? (i := 11) rfl))) (Or.inl (hw _ (List.mem_of_getElem? (i := 35) rfl))) (by decide) (t := (.array .double)) (t' := .int) (by decide) (by decide)))).other W59 (Or.inl d3))
  obtain ⟨T61, X61, e61, st61⟩ := getF X59h hx hZ hown (host := "") (Or.inl (hw _ (List.mem_of_getElem? (i := 10) rfl))) Via.refl e59 f60 (g := (mkF m 48 #[.val (.ref ab), .val (.int pd), .val (.double (FP.l2d x)), .second] [(.ref ab)])) rfl rfl (hb hby d6_48)
  refine Done.go st61 ?_
  clear st61 X59h e59
  show Done p e s below _ _ _ T61 (mkF m 51 #[.val (.ref ab), .val (.int pd), .val (.double (FP.l2d x)), .second] [(.ref bD)])
  refine Done.go (fun _ kt_ => XS.iloadN X61.here hx rfl (hb hby d6_51) rfl kt_) ?_
  show Done p e s below _ _ _ T61 (mkF m 52 #[.val (.ref ab), .val (.int pd), .val (.double (FP.l2d x)), .second] [(.int pd), (.ref bD)])
  refine Done.go (fun t_ kt_ => by jvm_step X61.here [X61.here.top, hx, (hb hby d6_52), Value.category]; exact kt_) ?_
  show Done p e s below _ _ _ T61 (mkF m 53 #[.val (.ref ab), .val (.int pd), .val (.double (FP.l2d x)), .second] [(.int pd), (.ref bD), (.int pd), (.ref bD)])
  have f62 := ((V51.other W57 (Ne.symm d1)).other W59 d5)
  refine Done.ldD X61 hx hZ e61 f62 (j := pd) (y := (0 : Int64)) D (own_ix hD).1 (own_ix hD).2 hD4 (if_pos rfl) (hb hby d6_53) ?_
  show Done p e s below _ _ _ T61 (mkF m 54 #[.val (.ref ab), .val (.int pd), .val (.double (FP.l2d x)), .second] [(.double (FP.l2d (0 : Int64))), (.int pd), (.ref bD)])
  refine Done.go (fun _ kt_ => XS.dloadN X61.here hx rfl (hb hby d6_54) rfl kt_) ?_
  show Done p e s below _ _ _ T61 (mkF m 55 #[.val (.ref ab), .val (.int pd), .val (.double (FP.l2d x)), .second] [(.double (FP.l2d x)), (.double (FP.l2d (0 : Int64))), (.int pd), (.ref bD)])
  refine Done.go (fun _ kt_ => XS.daddS X61.here hx rfl (hb hby d6_55) rfl (nn_w (dadd_w (own_leB own_le0 (by decide)) hx53)) (dadd_w (own_leB own_le0 (by decide)) hx53) kt_) ?_
  show Done p e s below _ _ _ T61 (mkF m 56 #[.val (.ref ab), .val (.int pd), .val (.double (FP.l2d x)), .second] [(.double (FP.l2d ((0 : Int64) + x))), (.int pd), (.ref bD)])
  obtain ⟨T63, h63, X63, e63, W63, V63, st63⟩ := own_stD X61 hx hZ e61 f62 (j := pd) D (own_ix hD).1 (own_ix hD).2 hD4 (g := (mkF m 56 #[.val (.ref ab), .val (.int pd), .val (.double (FP.l2d x)), .second] [(.double (FP.l2d ((0 : Int64) + x))), (.int pd), (.ref bD)])) rfl rfl (hb hby d6_56)
  have N63 := Fr.snoc X63 N59h gD
  have Z63 : n0 ≤ h63.size := by rw [W63.size]; exact Z59
  have K63 : Keep h0 h63 [ab, bD, bF, bS] := K59.wr W63 (Or.inl (List.mem_of_getElem? (i := 1) rfl))
  obtain ⟨Lh63, X63h, N63h⟩ : ∃ L, Stand p l e ({ frames := 0, cells := 0, slots := 0, locals := 0 } : Room) s m #[(.ref ab), (.int pd), (.double (FP.l2d x))] below meth c T63 L 0 0 ∧ Fr n0 L := ⟨_, X63, N63⟩
  clear X63 N63 X61 e61 N59h Z59 K59
  refine Done.go st63 ?_
  clear st63
  show Done p e s below _ _ _ T63 (mkF m 57 #[.val (.ref ab), .val (.int pd), .val (.double (FP.l2d x)), .second] [])
  refine Done.retV X63h hx hlk hrt (hb hby d6_57) ?_ (by first | decide | omega) (by first | decide | omega)
  rw [e63]
  have VD9 : Ard Z h63 bD 4 (own_u sc D (0 + x)) := V63.congr (fun i _ => by unfold own_u; by_cases hh9 : i = D <;> simp [hh9])
  have f64 := (((f56.wr W57).wr W59).wr W63)
  have f65 := (f60.other W63 (Or.inl d1))
  have f66 := (((((FscoredFor0.other W47 (Or.inl d2)).other W51 (Or.inl d1)).other W57 (Or.inr (slot_ne (Or.inr (hw _ (List.mem_of_getElem? (i := 14) rfl))) (Or.inl (hw _ (List.mem_of_getElem? (i := 35) rfl))) (by decide) (t := (.array .int)) (t' := .int) (by decide) (by decide)))).other W59 (Or.inl d3)).other W63 (Or.inl d1))
  have f67 := (((f52.other W57 (Or.inr (slot_ne (Or.inr (hw _ (List.mem_of_getElem? (i := 16) rfl))) (Or.inl (hw _ (List.mem_of_getElem? (i := 35) rfl))) (by decide) (t := (.array .int)) (t' := .int) (by decide) (by decide)))).other W59 (Or.inl d3)).other W63 (Or.inl d1))
  have f68 := (((((Fquery0.other W47 (Or.inl d2)).other W51 (Or.inl d1)).other W57 (Or.inr (slot_ne (Or.inl (hw _ (List.mem_of_getElem? (i := 33) rfl))) (Or.inl (hw _ (List.mem_of_getElem? (i := 35) rfl))) (by decide) (t := .int) (t' := .int) (by decide) (by decide)))).other W59 (Or.inl d3)).other W63 (Or.inl d1))
  have f69 := ((Fw57.other W59 (Or.inl d3)).other W63 (Or.inl d1))
  have f70 := ((((V47.other W51 (Ne.symm d4)).other W57 (Ne.symm d2)).other W59 d6).other W63 (Ne.symm d4))
  have f71 := (V59.other W63 (Ne.symm d5))
  exact ⟨rfl, N63h, K63.1, ⟨f64, f65, f66, f67, f68, f69, VD9, f70, f71⟩⟩
theorem ef_rm6o (m : MethodId) (ab : Addr) (pd : Int32) (x : Int64) : entryFrame m #[(.ref ab), (.int pd), (.double (FP.l2d x))] 4 = mkF m 0 #[.val (.ref ab), .val (.int pd), .val (.double (FP.l2d x)), .second] [] := by first | (simp [entryFrame, mkF, argsToLocals, Value.category]; done) | rfl
set_option maxRecDepth 65536 in
set_option maxHeartbeats 40000000 in
theorem rm6o (l : Launch) (Z : State) (a0 : Array Value) (hw : ∀ d ∈ tables_1, d.before a0 Z = true) (ws : List Jvm.Cond) (ab : Addr) (bD : Addr) (bF : Addr) (bS : Addr) (pd : Int32) (x : Int64) (sc : Nat → Int64) (sf : Nat → Int32) (sd : Nat → Int32) (q : Int32) (k : Int32) (D : Nat) (h0 : Heap) (n0 : Nat) (Z0 : n0 ≤ h0.size) (P : own_sc Z h0 ab bD bF bS sc sf sd q k) (hds : own_ds ab bD bF bS) (hgs : own_gs n0 ab bD bF bS) (hD : pd.toInt = (D : Int)) (hD4 : D < 4) (hx53 : B53 x) (heq : sf D = q) (hs53 : B53 (sc D)) :
    MetFree l (⟨"com/example/pivotwise/pivotwise/retrieval/Scores", "add", "(ID)V"⟩ : MethodName) (head1 (Jvm.Cond.code (⟨"com/example/pivotwise/pivotwise/retrieval/Scores", "add", "(ID)V"⟩ : MethodName) prog_174_method_3_code 4 none :: ws) ({ frames := 0, cells := 0, slots := 0, locals := 0 } : Room)) (fun a U => a = #[(.ref ab), (.int pd), (.double (FP.l2d x))] ∧ Z.Warmed39 U.vm ∧ U.heap = h0) (fun _ _ _ _ _ => True) (fun _ U o U' => ∃ vr Lr, o = .returned vr ∧ QS Z ab bD bF bS (own_u sc D (sc D + x)) sf sd q k h0 n0 vr U'.heap Lr ∧ FrameEnd U o U' Lr 0 0) := by
  refine MetFree.of_bodySF (plainFor_of_name own_pn0) hisR ?_
  intro p e s m args below meth c s₁ Bd hml0 hP hK
  obtain ⟨rfl, hZ, hh⟩ := hP
  have hx := Bd.exec
  have hby := Bd.bytes
  have hml : c.maxLocals = 4 := hml0
  have hown : s.vm.findClass "com/example/pivotwise/pivotwise/retrieval/Scores" = some m.cls := findClass_of_methodNamed Bd.named
  have hnm := (name_of_methodNamed Bd.named Bd.method).1
  have hlk : meth.locks = false := Bd.notSynchronized
  have hrt := Bd.returns
  have X0 : Stand p l e ({ frames := 0, cells := 0, slots := 0, locals := 0 } : Room) s m #[(.ref ab), (.int pd), (.double (FP.l2d x))] below meth c s₁ [] 0 0 := Stand.of_body Bd
  have e0 : s₁.heap = h0 := by rw [← hh, Bd.state]; rfl
  have N0 := Fr.nil n0
  show Done p e s below 0 0 (QS Z ab bD bF bS (own_u sc D (sc D + x)) sf sd q k h0 n0) s₁ (entryFrame m #[(.ref ab), (.int pd), (.double (FP.l2d x))] 4)
  rw [ef_rm6o]
  obtain ⟨d1, d2, d3, d4, d5, d6⟩ := hds
  obtain ⟨ga, gD, gF, gS⟩ := hgs
  obtain ⟨E0, Fscores0, FscoredFor0, Fscored0, Fquery0, Fcount0, VD0, VF0, VS0⟩ := P
  show Done p e s below _ _ _ s₁ (mkF m 0 #[.val (.ref ab), .val (.int pd), .val (.double (FP.l2d x)), .second] [])
  refine Done.go (fun _ kt_ => XS.aloadN X0.here hx rfl (hb hby d6_0) rfl rfl kt_) ?_
  show Done p e s below _ _ _ s₁ (mkF m 1 #[.val (.ref ab), .val (.int pd), .val (.double (FP.l2d x)), .second] [(.ref ab)])
  obtain ⟨T72, X72, e72, st72⟩ := getF X0 hx hZ hown (host := "") (Or.inl (hw _ (List.mem_of_getElem? (i := 13) rfl))) Via.refl e0 FscoredFor0 (g := (mkF m 1 #[.val (.ref ab), .val (.int pd), .val (.double (FP.l2d x)), .second] [(.ref ab)])) rfl rfl (hb hby d6_1)
  refine Done.go st72 ?_
  clear st72
  show Done p e s below _ _ _ T72 (mkF m 4 #[.val (.ref ab), .val (.int pd), .val (.double (FP.l2d x)), .second] [(.ref bF)])
  refine Done.go (fun _ kt_ => XS.iloadN X72.here hx rfl (hb hby d6_4) rfl kt_) ?_
  show Done p e s below _ _ _ T72 (mkF m 5 #[.val (.ref ab), .val (.int pd), .val (.double (FP.l2d x)), .second] [(.int pd), (.ref bF)])
  refine Done.ldI X72 hx hZ e72 VF0 (j := pd) (w := (sf D)) D (own_ix hD).1 (own_ix hD).2 hD4 rfl (hb hby d6_5) ?_
  show Done p e s below _ _ _ T72 (mkF m 6 #[.val (.ref ab), .val (.int pd), .val (.double (FP.l2d x)), .second] [(.int (sf D))])
  refine Done.go (fun _ kt_ => XS.aloadN X72.here hx rfl (hb hby d6_6) rfl rfl kt_) ?_
  show Done p e s below _ _ _ T72 (mkF m 7 #[.val (.ref ab), .val (.int pd), .val (.double (FP.l2d x)), .second] [(.ref ab), (.int (sf D))])
  obtain ⟨T73, X73, e73, st73⟩ := getF X72 hx hZ hown (host := "") (Or.inl (hw _ (List.mem_of_getElem? (i := 32) rfl))) Via.refl e72 Fquery0 (g := (mkF m 7 #[.val (.ref ab), .val (.int pd), .val (.double (FP.l2d x)), .second] [(.ref ab), (.int (sf D))])) rfl rfl (hb hby d6_7)
  refine Done.go st73 ?_
  clear st73 X72 e72
  show Done p e s below _ _ _ T73 (mkF m 10 #[.val (.ref ab), .val (.int pd), .val (.double (FP.l2d x)), .second] [(.int q), (.int (sf D))])
  refine Done.go (fun _ kt_ => XS.icmpYes X73.here hx rfl (pc0 := 10) (pc' := 47) rfl (hb hby d6_10) rfl (teq heq).1 (by decide) (by decide) kt_) ?_
  show Done p e s below _ _ _ T73 (mkF m 47 #[.val (.ref ab), .val (.int pd), .val (.double (FP.l2d x)), .second] [])
  refine Done.go (fun _ kt_ => XS.aloadN X73.here hx rfl (hb hby d6_47) rfl rfl kt_) ?_
  show Done p e s below _ _ _ T73 (mkF m 48 #[.val (.ref ab), .val (.int pd), .val (.double (FP.l2d x)), .second] [(.ref ab)])
  obtain ⟨T74, X74, e74, st74⟩ := getF X73 hx hZ hown (host := "") (Or.inl (hw _ (List.mem_of_getElem? (i := 10) rfl))) Via.refl e73 Fscores0 (g := (mkF m 48 #[.val (.ref ab), .val (.int pd), .val (.double (FP.l2d x)), .second] [(.ref ab)])) rfl rfl (hb hby d6_48)
  refine Done.go st74 ?_
  clear st74 X73 e73
  show Done p e s below _ _ _ T74 (mkF m 51 #[.val (.ref ab), .val (.int pd), .val (.double (FP.l2d x)), .second] [(.ref bD)])
  refine Done.go (fun _ kt_ => XS.iloadN X74.here hx rfl (hb hby d6_51) rfl kt_) ?_
  show Done p e s below _ _ _ T74 (mkF m 52 #[.val (.ref ab), .val (.int pd), .val (.double (FP.l2d x)), .second] [(.int pd), (.ref bD)])
  refine Done.go (fun t_ kt_ => by jvm_step X74.here [X74.here.top, hx, (hb hby d6_52), Value.category]; exact kt_) ?_
  show Done p e s below _ _ _ T74 (mkF m 53 #[.val (.ref ab), .val (.int pd), .val (.double (FP.l2d x)), .second] [(.int pd), (.ref bD), (.int pd), (.ref bD)])
  refine Done.ldD X74 hx hZ e74 VD0 (j := pd) (y := (sc D)) D (own_ix hD).1 (own_ix hD).2 hD4 rfl (hb hby d6_53) ?_
  show Done p e s below _ _ _ T74 (mkF m 54 #[.val (.ref ab), .val (.int pd), .val (.double (FP.l2d x)), .second] [(.double (FP.l2d (sc D))), (.int pd), (.ref bD)])
  refine Done.go (fun _ kt_ => XS.dloadN X74.here hx rfl (hb hby d6_54) rfl kt_) ?_
  show Done p e s below _ _ _ T74 (mkF m 55 #[.val (.ref ab), .val (.int pd), .val (.double (FP.l2d x)), .second] [(.double (FP.l2d x)), (.double (FP.l2d (sc D))), (.int pd), (.ref bD)])
  refine Done.go (fun _ kt_ => XS.daddS X74.here hx rfl (hb hby d6_55) rfl (nn_w (dadd_w hs53 hx53)) (dadd_w hs53 hx53) kt_) ?_
  show Done p e s below _ _ _ T74 (mkF m 56 #[.val (.ref ab), .val (.int pd), .val (.double (FP.l2d x)), .second] [(.double (FP.l2d ((sc D) + x))), (.int pd), (.ref bD)])
  obtain ⟨T75, h75, X75, e75, W75, V75, st75⟩ := own_stD X74 hx hZ e74 VD0 (j := pd) D (own_ix hD).1 (own_ix hD).2 hD4 (g := (mkF m 56 #[.val (.ref ab), .val (.int pd), .val (.double (FP.l2d x)), .second] [(.double (FP.l2d ((sc D) + x))), (.int pd), (.ref bD)])) rfl rfl (hb hby d6_56)
  have N75 := Fr.snoc X75 N0 gD
  have Z75 : n0 ≤ h75.size := by rw [W75.size]; exact Z0
  have K75 : Keep h0 h75 [ab, bD, bF, bS] := (Keep.refl h0 [ab, bD, bF, bS]).wr W75 (Or.inl (List.mem_of_getElem? (i := 1) rfl))
  obtain ⟨Lh75, X75h, N75h⟩ : ∃ L, Stand p l e ({ frames := 0, cells := 0, slots := 0, locals := 0 } : Room) s m #[(.ref ab), (.int pd), (.double (FP.l2d x))] below meth c T75 L 0 0 ∧ Fr n0 L := ⟨_, X75, N75⟩
  clear X75 N75 X74 e74
  refine Done.go st75 ?_
  clear st75
  show Done p e s below _ _ _ T75 (mkF m 57 #[.val (.ref ab), .val (.int pd), .val (.double (FP.l2d x)), .second] [])
  refine Done.retV X75h hx hlk hrt (hb hby d6_57) ?_ (by first | decide | omega) (by first | decide | omega)
  rw [e75]
  have VD9 : Ard Z h75 bD 4 (own_u sc D (sc D + x)) := V75
  have f76 := (E0.wr W75)
  have f77 := (Fscores0.other W75 (Or.inl d1))
  have f78 := (FscoredFor0.other W75 (Or.inl d1))
  have f79 := (Fscored0.other W75 (Or.inl d1))
  have f80 := (Fquery0.other W75 (Or.inl d1))
  have f81 := (Fcount0.other W75 (Or.inl d1))
  have f82 := (VF0.other W75 (Ne.symm d4))
  have f83 := (VS0.other W75 (Ne.symm d5))
  exact ⟨rfl, N75h, K75.1, ⟨f76, f77, f78, f79, f80, f81, VD9, f82, f83⟩⟩
theorem d8_0 : decode method_3_code 0 = .ok (.lconst 0, 1) := by decide +kernel
theorem d8_1 : decode method_3_code 1 = .ok (.lstore 7, 2) := by decide +kernel
theorem d8_3 : decode method_3_code 3 = .ok (.iload_n 1, 1) := by decide +kernel
theorem d8_4 : decode method_3_code 4 = .ok (.iload_n 0, 1) := by decide +kernel
theorem d8_5 : decode method_3_code 5 = .ok (.if_icmp .ne 11, 3) := by decide +kernel
theorem d8_8 : decode method_3_code 8 = .ok (.lload 7, 2) := by decide +kernel
theorem d8_10 : decode method_3_code 10 = .ok (.iload 4, 2) := by decide +kernel
theorem d8_12 : decode method_3_code 12 = .ok (.i2l, 1) := by decide +kernel
theorem d8_13 : decode method_3_code 13 = .ok (.ladd, 1) := by decide +kernel
theorem d8_14 : decode method_3_code 14 = .ok (.lstore 7, 2) := by decide +kernel
theorem d8_16 : decode method_3_code 16 = .ok (.iload_n 2, 1) := by decide +kernel
theorem d8_17 : decode method_3_code 17 = .ok (.iload_n 0, 1) := by decide +kernel
theorem d8_18 : decode method_3_code 18 = .ok (.if_icmp .ne 11, 3) := by decide +kernel
theorem d8_21 : decode method_3_code 21 = .ok (.lload 7, 2) := by decide +kernel
theorem d8_23 : decode method_3_code 23 = .ok (.iload 5, 2) := by decide +kernel
theorem d8_25 : decode method_3_code 25 = .ok (.i2l, 1) := by decide +kernel
theorem d8_26 : decode method_3_code 26 = .ok (.ladd, 1) := by decide +kernel
theorem d8_27 : decode method_3_code 27 = .ok (.lstore 7, 2) := by decide +kernel
theorem d8_29 : decode method_3_code 29 = .ok (.iload_n 3, 1) := by decide +kernel
theorem d8_30 : decode method_3_code 30 = .ok (.iload_n 0, 1) := by decide +kernel
theorem d8_31 : decode method_3_code 31 = .ok (.if_icmp .ne 11, 3) := by decide +kernel
theorem d8_34 : decode method_3_code 34 = .ok (.lload 7, 2) := by decide +kernel
theorem d8_36 : decode method_3_code 36 = .ok (.iload 6, 2) := by decide +kernel
theorem d8_38 : decode method_3_code 38 = .ok (.i2l, 1) := by decide +kernel
theorem d8_39 : decode method_3_code 39 = .ok (.ladd, 1) := by decide +kernel
theorem d8_40 : decode method_3_code 40 = .ok (.lstore 7, 2) := by decide +kernel
theorem d8_42 : decode method_3_code 42 = .ok (.lload 7, 2) := by decide +kernel
theorem d8_44 : decode method_3_code 44 = .ok (.l2d, 1) := by decide +kernel
theorem d8_45 : decode method_3_code 45 = .ok (.dreturn, 1) := by decide +kernel
theorem own_pn1 : plainName "com/example/pivotwise/pivotwise/retrieval/ScoresAddPinLaw" = true := by first | (simp [plainName, overriddenIn]; done) | decide +kernel
theorem ef_rm8 (m : MethodId) (p0 : Int32) (p1 : Int32) (p2 : Int32) (p3 : Int32) (p4 : Int32) (p5 : Int32) (p6 : Int32) : entryFrame m #[(.int p0), (.int p1), (.int p2), (.int p3), (.int p4), (.int p5), (.int p6)] 9 = mkF m 0 #[.val (.int p0), .val (.int p1), .val (.int p2), .val (.int p3), .val (.int p4), .val (.int p5), .val (.int p6), .unset, .unset] [] := by first | (simp [entryFrame, mkF, argsToLocals, Value.category]; done) | rfl
set_option maxRecDepth 65536 in
set_option maxHeartbeats 40000000 in
theorem rm8 (l : Launch) (Z : State) (a0 : Array Value) (hw : ∀ d ∈ tables_1, d.before a0 Z = true) (ws : List Jvm.Cond) (p0 : Int32) (p1 : Int32) (p2 : Int32) (p3 : Int32) (p4 : Int32) (p5 : Int32) (p6 : Int32) (h0 : Heap) (n0 : Nat) (Z0 : n0 ≤ h0.size) :
    MetFree l (⟨"com/example/pivotwise/pivotwise/retrieval/ScoresAddPinLaw", "sum", "(IIIIIII)D"⟩ : MethodName) (head1 (Jvm.Cond.code (⟨"com/example/pivotwise/pivotwise/retrieval/ScoresAddPinLaw", "sum", "(IIIIIII)D"⟩ : MethodName) method_3_code 9 (some .double) :: ws) ({ frames := 0, cells := 0, slots := 0, locals := 0 } : Room)) (fun a U => a = #[(.int p0), (.int p1), (.int p2), (.int p3), (.int p4), (.int p5), (.int p6)] ∧ Z.Warmed39 U.vm ∧ U.heap = h0) (fun _ _ _ _ _ => True) (fun _ U o U' => ∃ vr Lr, o = .returned vr ∧ QD (own_sum p0 p1 p2 p3 p4 p5 p6) h0 n0 vr U'.heap Lr ∧ FrameEnd U o U' Lr 0 0) := by
  refine MetFree.of_bodySF (plainFor_of_name own_pn1) hisR ?_
  intro p e s m args below meth c s₁ Bd hml0 hP hK
  obtain ⟨rfl, hZ, hh⟩ := hP
  have hx := Bd.exec
  have hby := Bd.bytes
  have hml : c.maxLocals = 9 := hml0
  have hown : s.vm.findClass "com/example/pivotwise/pivotwise/retrieval/ScoresAddPinLaw" = some m.cls := findClass_of_methodNamed Bd.named
  have hnm := (name_of_methodNamed Bd.named Bd.method).1
  have hlk : meth.locks = false := Bd.notSynchronized
  have hrt := Bd.returns
  have X0 : Stand p l e ({ frames := 0, cells := 0, slots := 0, locals := 0 } : Room) s m #[(.int p0), (.int p1), (.int p2), (.int p3), (.int p4), (.int p5), (.int p6)] below meth c s₁ [] 0 0 := Stand.of_body Bd
  have e0 : s₁.heap = h0 := by rw [← hh, Bd.state]; rfl
  have N0 := Fr.nil n0
  show Done p e s below 0 0 (QD (own_sum p0 p1 p2 p3 p4 p5 p6) h0 n0) s₁ (entryFrame m #[(.int p0), (.int p1), (.int p2), (.int p3), (.int p4), (.int p5), (.int p6)] 9)
  rw [ef_rm8]
  show Done p e s below _ _ _ s₁ (mkF m 0 #[.val (.int p0), .val (.int p1), .val (.int p2), .val (.int p3), .val (.int p4), .val (.int p5), .val (.int p6), .unset, .unset] [])
  refine Done.go (fun _ kt_ => XS.lconst X0.here hx rfl (hb hby d8_0) kt_) ?_
  show Done p e s below _ _ _ s₁ (mkF m 1 #[.val (.int p0), .val (.int p1), .val (.int p2), .val (.int p3), .val (.int p4), .val (.int p5), .val (.int p6), .unset, .unset] [(.long (0 : Int64))])
  refine Done.go (fun _ kt_ => XS.lstore X0.here hx rfl (hb hby d8_1) rfl (l' := #[.val (.int p0), .val (.int p1), .val (.int p2), .val (.int p3), .val (.int p4), .val (.int p5), .val (.int p6), .val (.long (0 : Int64)), .second]) rfl kt_) ?_
  show Done p e s below _ _ _ s₁ (mkF m 3 #[.val (.int p0), .val (.int p1), .val (.int p2), .val (.int p3), .val (.int p4), .val (.int p5), .val (.int p6), .val (.long (0 : Int64)), .second] [])
  refine Done.go (fun _ kt_ => XS.iloadN X0.here hx rfl (hb hby d8_3) rfl kt_) ?_
  show Done p e s below _ _ _ s₁ (mkF m 4 #[.val (.int p0), .val (.int p1), .val (.int p2), .val (.int p3), .val (.int p4), .val (.int p5), .val (.int p6), .val (.long (0 : Int64)), .second] [(.int p1)])
  refine Done.go (fun _ kt_ => XS.iloadN X0.here hx rfl (hb hby d8_4) rfl kt_) ?_
  show Done p e s below _ _ _ s₁ (mkF m 5 #[.val (.int p0), .val (.int p1), .val (.int p2), .val (.int p3), .val (.int p4), .val (.int p5), .val (.int p6), .val (.long (0 : Int64)), .second] [(.int p0), (.int p1)])
  by_cases hc5 : p1 = p0
  · skip
    refine Done.go (fun _ kt_ => XS.icmpNo X0.here hx rfl (hb hby d8_5) rfl (teq hc5).2 kt_) ?_
    show Done p e s below _ _ _ s₁ (mkF m 8 #[.val (.int p0), .val (.int p1), .val (.int p2), .val (.int p3), .val (.int p4), .val (.int p5), .val (.int p6), .val (.long (0 : Int64)), .second] [])
    refine Done.go (fun _ kt_ => XS.lload X0.here hx rfl (hb hby d8_8) rfl kt_) ?_
    show Done p e s below _ _ _ s₁ (mkF m 10 #[.val (.int p0), .val (.int p1), .val (.int p2), .val (.int p3), .val (.int p4), .val (.int p5), .val (.int p6), .val (.long (0 : Int64)), .second] [(.long (0 : Int64))])
    refine Done.go (fun _ kt_ => XS.iload X0.here hx rfl (hb hby d8_10) rfl kt_) ?_
    show Done p e s below _ _ _ s₁ (mkF m 12 #[.val (.int p0), .val (.int p1), .val (.int p2), .val (.int p3), .val (.int p4), .val (.int p5), .val (.int p6), .val (.long (0 : Int64)), .second] [(.int p4), (.long (0 : Int64))])
    refine Done.go (fun _ kt_ => XS.i2l X0.here hx rfl (hb hby d8_12) rfl kt_) ?_
    show Done p e s below _ _ _ s₁ (mkF m 13 #[.val (.int p0), .val (.int p1), .val (.int p2), .val (.int p3), .val (.int p4), .val (.int p5), .val (.int p6), .val (.long (0 : Int64)), .second] [(.long (p4.toInt64)), (.long (0 : Int64))])
    refine Done.go (fun _ kt_ => XS.ladd X0.here hx rfl (hb hby d8_13) rfl kt_) ?_
    show Done p e s below _ _ _ s₁ (mkF m 14 #[.val (.int p0), .val (.int p1), .val (.int p2), .val (.int p3), .val (.int p4), .val (.int p5), .val (.int p6), .val (.long (0 : Int64)), .second] [(.long ((0 : Int64) + (p4.toInt64)))])
    refine Done.go (fun _ kt_ => XS.lstore X0.here hx rfl (hb hby d8_14) rfl (l' := #[.val (.int p0), .val (.int p1), .val (.int p2), .val (.int p3), .val (.int p4), .val (.int p5), .val (.int p6), .val (.long ((0 : Int64) + (p4.toInt64))), .second]) rfl kt_) ?_
    show Done p e s below _ _ _ s₁ (mkF m 16 #[.val (.int p0), .val (.int p1), .val (.int p2), .val (.int p3), .val (.int p4), .val (.int p5), .val (.int p6), .val (.long ((0 : Int64) + (p4.toInt64))), .second] [])
    refine Done.go (fun _ kt_ => XS.iloadN X0.here hx rfl (hb hby d8_16) rfl kt_) ?_
    show Done p e s below _ _ _ s₁ (mkF m 17 #[.val (.int p0), .val (.int p1), .val (.int p2), .val (.int p3), .val (.int p4), .val (.int p5), .val (.int p6), .val (.long ((0 : Int64) + (p4.toInt64))), .second] [(.int p2)])
    refine Done.go (fun _ kt_ => XS.iloadN X0.here hx rfl (hb hby d8_17) rfl kt_) ?_
    show Done p e s below _ _ _ s₁ (mkF m 18 #[.val (.int p0), .val (.int p1), .val (.int p2), .val (.int p3), .val (.int p4), .val (.int p5), .val (.int p6), .val (.long ((0 : Int64) + (p4.toInt64))), .second] [(.int p0), (.int p2)])
    by_cases hc18 : p2 = p0
    · skip
      refine Done.go (fun _ kt_ => XS.icmpNo X0.here hx rfl (hb hby d8_18) rfl (teq hc18).2 kt_) ?_
      show Done p e s below _ _ _ s₁ (mkF m 21 #[.val (.int p0), .val (.int p1), .val (.int p2), .val (.int p3), .val (.int p4), .val (.int p5), .val (.int p6), .val (.long ((0 : Int64) + (p4.toInt64))), .second] [])
      refine Done.go (fun _ kt_ => XS.lload X0.here hx rfl (hb hby d8_21) rfl kt_) ?_
      show Done p e s below _ _ _ s₁ (mkF m 23 #[.val (.int p0), .val (.int p1), .val (.int p2), .val (.int p3), .val (.int p4), .val (.int p5), .val (.int p6), .val (.long ((0 : Int64) + (p4.toInt64))), .second] [(.long ((0 : Int64) + (p4.toInt64)))])
      refine Done.go (fun _ kt_ => XS.iload X0.here hx rfl (hb hby d8_23) rfl kt_) ?_
      show Done p e s below _ _ _ s₁ (mkF m 25 #[.val (.int p0), .val (.int p1), .val (.int p2), .val (.int p3), .val (.int p4), .val (.int p5), .val (.int p6), .val (.long ((0 : Int64) + (p4.toInt64))), .second] [(.int p5), (.long ((0 : Int64) + (p4.toInt64)))])
      refine Done.go (fun _ kt_ => XS.i2l X0.here hx rfl (hb hby d8_25) rfl kt_) ?_
      show Done p e s below _ _ _ s₁ (mkF m 26 #[.val (.int p0), .val (.int p1), .val (.int p2), .val (.int p3), .val (.int p4), .val (.int p5), .val (.int p6), .val (.long ((0 : Int64) + (p4.toInt64))), .second] [(.long (p5.toInt64)), (.long ((0 : Int64) + (p4.toInt64)))])
      refine Done.go (fun _ kt_ => XS.ladd X0.here hx rfl (hb hby d8_26) rfl kt_) ?_
      show Done p e s below _ _ _ s₁ (mkF m 27 #[.val (.int p0), .val (.int p1), .val (.int p2), .val (.int p3), .val (.int p4), .val (.int p5), .val (.int p6), .val (.long ((0 : Int64) + (p4.toInt64))), .second] [(.long (((0 : Int64) + (p4.toInt64)) + (p5.toInt64)))])
      refine Done.go (fun _ kt_ => XS.lstore X0.here hx rfl (hb hby d8_27) rfl (l' := #[.val (.int p0), .val (.int p1), .val (.int p2), .val (.int p3), .val (.int p4), .val (.int p5), .val (.int p6), .val (.long (((0 : Int64) + (p4.toInt64)) + (p5.toInt64))), .second]) rfl kt_) ?_
      show Done p e s below _ _ _ s₁ (mkF m 29 #[.val (.int p0), .val (.int p1), .val (.int p2), .val (.int p3), .val (.int p4), .val (.int p5), .val (.int p6), .val (.long (((0 : Int64) + (p4.toInt64)) + (p5.toInt64))), .second] [])
      refine Done.go (fun _ kt_ => XS.iloadN X0.here hx rfl (hb hby d8_29) rfl kt_) ?_
      show Done p e s below _ _ _ s₁ (mkF m 30 #[.val (.int p0), .val (.int p1), .val (.int p2), .val (.int p3), .val (.int p4), .val (.int p5), .val (.int p6), .val (.long (((0 : Int64) + (p4.toInt64)) + (p5.toInt64))), .second] [(.int p3)])
      refine Done.go (fun _ kt_ => XS.iloadN X0.here hx rfl (hb hby d8_30) rfl kt_) ?_
      show Done p e s below _ _ _ s₁ (mkF m 31 #[.val (.int p0), .val (.int p1), .val (.int p2), .val (.int p3), .val (.int p4), .val (.int p5), .val (.int p6), .val (.long (((0 : Int64) + (p4.toInt64)) + (p5.toInt64))), .second] [(.int p0), (.int p3)])
      by_cases hc31 : p3 = p0
      · skip
        refine Done.go (fun _ kt_ => XS.icmpNo X0.here hx rfl (hb hby d8_31) rfl (teq hc31).2 kt_) ?_
        show Done p e s below _ _ _ s₁ (mkF m 34 #[.val (.int p0), .val (.int p1), .val (.int p2), .val (.int p3), .val (.int p4), .val (.int p5), .val (.int p6), .val (.long (((0 : Int64) + (p4.toInt64)) + (p5.toInt64))), .second] [])
        refine Done.go (fun _ kt_ => XS.lload X0.here hx rfl (hb hby d8_34) rfl kt_) ?_
        show Done p e s below _ _ _ s₁ (mkF m 36 #[.val (.int p0), .val (.int p1), .val (.int p2), .val (.int p3), .val (.int p4), .val (.int p5), .val (.int p6), .val (.long (((0 : Int64) + (p4.toInt64)) + (p5.toInt64))), .second] [(.long (((0 : Int64) + (p4.toInt64)) + (p5.toInt64)))])
        refine Done.go (fun _ kt_ => XS.iload X0.here hx rfl (hb hby d8_36) rfl kt_) ?_
        show Done p e s below _ _ _ s₁ (mkF m 38 #[.val (.int p0), .val (.int p1), .val (.int p2), .val (.int p3), .val (.int p4), .val (.int p5), .val (.int p6), .val (.long (((0 : Int64) + (p4.toInt64)) + (p5.toInt64))), .second] [(.int p6), (.long (((0 : Int64) + (p4.toInt64)) + (p5.toInt64)))])
        refine Done.go (fun _ kt_ => XS.i2l X0.here hx rfl (hb hby d8_38) rfl kt_) ?_
        show Done p e s below _ _ _ s₁ (mkF m 39 #[.val (.int p0), .val (.int p1), .val (.int p2), .val (.int p3), .val (.int p4), .val (.int p5), .val (.int p6), .val (.long (((0 : Int64) + (p4.toInt64)) + (p5.toInt64))), .second] [(.long (p6.toInt64)), (.long (((0 : Int64) + (p4.toInt64)) + (p5.toInt64)))])
        refine Done.go (fun _ kt_ => XS.ladd X0.here hx rfl (hb hby d8_39) rfl kt_) ?_
        show Done p e s below _ _ _ s₁ (mkF m 40 #[.val (.int p0), .val (.int p1), .val (.int p2), .val (.int p3), .val (.int p4), .val (.int p5), .val (.int p6), .val (.long (((0 : Int64) + (p4.toInt64)) + (p5.toInt64))), .second] [(.long ((((0 : Int64) + (p4.toInt64)) + (p5.toInt64)) + (p6.toInt64)))])
        refine Done.go (fun _ kt_ => XS.lstore X0.here hx rfl (hb hby d8_40) rfl (l' := #[.val (.int p0), .val (.int p1), .val (.int p2), .val (.int p3), .val (.int p4), .val (.int p5), .val (.int p6), .val (.long ((((0 : Int64) + (p4.toInt64)) + (p5.toInt64)) + (p6.toInt64))), .second]) rfl kt_) ?_
        show Done p e s below _ _ _ s₁ (mkF m 42 #[.val (.int p0), .val (.int p1), .val (.int p2), .val (.int p3), .val (.int p4), .val (.int p5), .val (.int p6), .val (.long ((((0 : Int64) + (p4.toInt64)) + (p5.toInt64)) + (p6.toInt64))), .second] [])
        refine Done.go (fun _ kt_ => XS.lload X0.here hx rfl (hb hby d8_42) rfl kt_) ?_
        show Done p e s below _ _ _ s₁ (mkF m 44 #[.val (.int p0), .val (.int p1), .val (.int p2), .val (.int p3), .val (.int p4), .val (.int p5), .val (.int p6), .val (.long ((((0 : Int64) + (p4.toInt64)) + (p5.toInt64)) + (p6.toInt64))), .second] [(.long ((((0 : Int64) + (p4.toInt64)) + (p5.toInt64)) + (p6.toInt64)))])
        refine Done.go (fun _ kt_ => XS.l2dS X0.here hx rfl (hb hby d8_44) rfl rfl kt_) ?_
        show Done p e s below _ _ _ s₁ (mkF m 45 #[.val (.int p0), .val (.int p1), .val (.int p2), .val (.int p3), .val (.int p4), .val (.int p5), .val (.int p6), .val (.long ((((0 : Int64) + (p4.toInt64)) + (p5.toInt64)) + (p6.toInt64))), .second] [(.double (FP.l2d ((((0 : Int64) + (p4.toInt64)) + (p5.toInt64)) + (p6.toInt64))))])
        refine Done.retD X0 hx hlk hrt (hb hby d8_45) ?_ (by first | decide | omega) (by first | decide | omega)
        rw [e0]
        exact ⟨by simp only [own_sum, own_s1, hc5, hc18, hc31, if_true, if_false], N0, rfl⟩
      · skip
        refine Done.go (fun _ kt_ => XS.icmpYes X0.here hx rfl (pc0 := 31) (pc' := 42) rfl (hb hby d8_31) rfl (feq hc31).2 (by decide) (by decide) kt_) ?_
        show Done p e s below _ _ _ s₁ (mkF m 42 #[.val (.int p0), .val (.int p1), .val (.int p2), .val (.int p3), .val (.int p4), .val (.int p5), .val (.int p6), .val (.long (((0 : Int64) + (p4.toInt64)) + (p5.toInt64))), .second] [])
        refine Done.go (fun _ kt_ => XS.lload X0.here hx rfl (hb hby d8_42) rfl kt_) ?_
        show Done p e s below _ _ _ s₁ (mkF m 44 #[.val (.int p0), .val (.int p1), .val (.int p2), .val (.int p3), .val (.int p4), .val (.int p5), .val (.int p6), .val (.long (((0 : Int64) + (p4.toInt64)) + (p5.toInt64))), .second] [(.long (((0 : Int64) + (p4.toInt64)) + (p5.toInt64)))])
        refine Done.go (fun _ kt_ => XS.l2dS X0.here hx rfl (hb hby d8_44) rfl rfl kt_) ?_
        show Done p e s below _ _ _ s₁ (mkF m 45 #[.val (.int p0), .val (.int p1), .val (.int p2), .val (.int p3), .val (.int p4), .val (.int p5), .val (.int p6), .val (.long (((0 : Int64) + (p4.toInt64)) + (p5.toInt64))), .second] [(.double (FP.l2d (((0 : Int64) + (p4.toInt64)) + (p5.toInt64))))])
        refine Done.retD X0 hx hlk hrt (hb hby d8_45) ?_ (by first | decide | omega) (by first | decide | omega)
        rw [e0]
        exact ⟨by simp only [own_sum, own_s1, hc5, hc18, hc31, if_true, if_false], N0, rfl⟩
    · skip
      refine Done.go (fun _ kt_ => XS.icmpYes X0.here hx rfl (pc0 := 18) (pc' := 29) rfl (hb hby d8_18) rfl (feq hc18).2 (by decide) (by decide) kt_) ?_
      show Done p e s below _ _ _ s₁ (mkF m 29 #[.val (.int p0), .val (.int p1), .val (.int p2), .val (.int p3), .val (.int p4), .val (.int p5), .val (.int p6), .val (.long ((0 : Int64) + (p4.toInt64))), .second] [])
      refine Done.go (fun _ kt_ => XS.iloadN X0.here hx rfl (hb hby d8_29) rfl kt_) ?_
      show Done p e s below _ _ _ s₁ (mkF m 30 #[.val (.int p0), .val (.int p1), .val (.int p2), .val (.int p3), .val (.int p4), .val (.int p5), .val (.int p6), .val (.long ((0 : Int64) + (p4.toInt64))), .second] [(.int p3)])
      refine Done.go (fun _ kt_ => XS.iloadN X0.here hx rfl (hb hby d8_30) rfl kt_) ?_
      show Done p e s below _ _ _ s₁ (mkF m 31 #[.val (.int p0), .val (.int p1), .val (.int p2), .val (.int p3), .val (.int p4), .val (.int p5), .val (.int p6), .val (.long ((0 : Int64) + (p4.toInt64))), .second] [(.int p0), (.int p3)])
      by_cases hc31 : p3 = p0
      · skip
        refine Done.go (fun _ kt_ => XS.icmpNo X0.here hx rfl (hb hby d8_31) rfl (teq hc31).2 kt_) ?_
        show Done p e s below _ _ _ s₁ (mkF m 34 #[.val (.int p0), .val (.int p1), .val (.int p2), .val (.int p3), .val (.int p4), .val (.int p5), .val (.int p6), .val (.long ((0 : Int64) + (p4.toInt64))), .second] [])
        refine Done.go (fun _ kt_ => XS.lload X0.here hx rfl (hb hby d8_34) rfl kt_) ?_
        show Done p e s below _ _ _ s₁ (mkF m 36 #[.val (.int p0), .val (.int p1), .val (.int p2), .val (.int p3), .val (.int p4), .val (.int p5), .val (.int p6), .val (.long ((0 : Int64) + (p4.toInt64))), .second] [(.long ((0 : Int64) + (p4.toInt64)))])
        refine Done.go (fun _ kt_ => XS.iload X0.here hx rfl (hb hby d8_36) rfl kt_) ?_
        show Done p e s below _ _ _ s₁ (mkF m 38 #[.val (.int p0), .val (.int p1), .val (.int p2), .val (.int p3), .val (.int p4), .val (.int p5), .val (.int p6), .val (.long ((0 : Int64) + (p4.toInt64))), .second] [(.int p6), (.long ((0 : Int64) + (p4.toInt64)))])
        refine Done.go (fun _ kt_ => XS.i2l X0.here hx rfl (hb hby d8_38) rfl kt_) ?_
        show Done p e s below _ _ _ s₁ (mkF m 39 #[.val (.int p0), .val (.int p1), .val (.int p2), .val (.int p3), .val (.int p4), .val (.int p5), .val (.int p6), .val (.long ((0 : Int64) + (p4.toInt64))), .second] [(.long (p6.toInt64)), (.long ((0 : Int64) + (p4.toInt64)))])
        refine Done.go (fun _ kt_ => XS.ladd X0.here hx rfl (hb hby d8_39) rfl kt_) ?_
        show Done p e s below _ _ _ s₁ (mkF m 40 #[.val (.int p0), .val (.int p1), .val (.int p2), .val (.int p3), .val (.int p4), .val (.int p5), .val (.int p6), .val (.long ((0 : Int64) + (p4.toInt64))), .second] [(.long (((0 : Int64) + (p4.toInt64)) + (p6.toInt64)))])
        refine Done.go (fun _ kt_ => XS.lstore X0.here hx rfl (hb hby d8_40) rfl (l' := #[.val (.int p0), .val (.int p1), .val (.int p2), .val (.int p3), .val (.int p4), .val (.int p5), .val (.int p6), .val (.long (((0 : Int64) + (p4.toInt64)) + (p6.toInt64))), .second]) rfl kt_) ?_
        show Done p e s below _ _ _ s₁ (mkF m 42 #[.val (.int p0), .val (.int p1), .val (.int p2), .val (.int p3), .val (.int p4), .val (.int p5), .val (.int p6), .val (.long (((0 : Int64) + (p4.toInt64)) + (p6.toInt64))), .second] [])
        refine Done.go (fun _ kt_ => XS.lload X0.here hx rfl (hb hby d8_42) rfl kt_) ?_
        show Done p e s below _ _ _ s₁ (mkF m 44 #[.val (.int p0), .val (.int p1), .val (.int p2), .val (.int p3), .val (.int p4), .val (.int p5), .val (.int p6), .val (.long (((0 : Int64) + (p4.toInt64)) + (p6.toInt64))), .second] [(.long (((0 : Int64) + (p4.toInt64)) + (p6.toInt64)))])
        refine Done.go (fun _ kt_ => XS.l2dS X0.here hx rfl (hb hby d8_44) rfl rfl kt_) ?_
        show Done p e s below _ _ _ s₁ (mkF m 45 #[.val (.int p0), .val (.int p1), .val (.int p2), .val (.int p3), .val (.int p4), .val (.int p5), .val (.int p6), .val (.long (((0 : Int64) + (p4.toInt64)) + (p6.toInt64))), .second] [(.double (FP.l2d (((0 : Int64) + (p4.toInt64)) + (p6.toInt64))))])
        refine Done.retD X0 hx hlk hrt (hb hby d8_45) ?_ (by first | decide | omega) (by first | decide | omega)
        rw [e0]
        exact ⟨by simp only [own_sum, own_s1, hc5, hc18, hc31, if_true, if_false], N0, rfl⟩
      · skip
        refine Done.go (fun _ kt_ => XS.icmpYes X0.here hx rfl (pc0 := 31) (pc' := 42) rfl (hb hby d8_31) rfl (feq hc31).2 (by decide) (by decide) kt_) ?_
        show Done p e s below _ _ _ s₁ (mkF m 42 #[.val (.int p0), .val (.int p1), .val (.int p2), .val (.int p3), .val (.int p4), .val (.int p5), .val (.int p6), .val (.long ((0 : Int64) + (p4.toInt64))), .second] [])
        refine Done.go (fun _ kt_ => XS.lload X0.here hx rfl (hb hby d8_42) rfl kt_) ?_
        show Done p e s below _ _ _ s₁ (mkF m 44 #[.val (.int p0), .val (.int p1), .val (.int p2), .val (.int p3), .val (.int p4), .val (.int p5), .val (.int p6), .val (.long ((0 : Int64) + (p4.toInt64))), .second] [(.long ((0 : Int64) + (p4.toInt64)))])
        refine Done.go (fun _ kt_ => XS.l2dS X0.here hx rfl (hb hby d8_44) rfl rfl kt_) ?_
        show Done p e s below _ _ _ s₁ (mkF m 45 #[.val (.int p0), .val (.int p1), .val (.int p2), .val (.int p3), .val (.int p4), .val (.int p5), .val (.int p6), .val (.long ((0 : Int64) + (p4.toInt64))), .second] [(.double (FP.l2d ((0 : Int64) + (p4.toInt64))))])
        refine Done.retD X0 hx hlk hrt (hb hby d8_45) ?_ (by first | decide | omega) (by first | decide | omega)
        rw [e0]
        exact ⟨by simp only [own_sum, own_s1, hc5, hc18, hc31, if_true, if_false], N0, rfl⟩
  · skip
    refine Done.go (fun _ kt_ => XS.icmpYes X0.here hx rfl (pc0 := 5) (pc' := 16) rfl (hb hby d8_5) rfl (feq hc5).2 (by decide) (by decide) kt_) ?_
    show Done p e s below _ _ _ s₁ (mkF m 16 #[.val (.int p0), .val (.int p1), .val (.int p2), .val (.int p3), .val (.int p4), .val (.int p5), .val (.int p6), .val (.long (0 : Int64)), .second] [])
    refine Done.go (fun _ kt_ => XS.iloadN X0.here hx rfl (hb hby d8_16) rfl kt_) ?_
    show Done p e s below _ _ _ s₁ (mkF m 17 #[.val (.int p0), .val (.int p1), .val (.int p2), .val (.int p3), .val (.int p4), .val (.int p5), .val (.int p6), .val (.long (0 : Int64)), .second] [(.int p2)])
    refine Done.go (fun _ kt_ => XS.iloadN X0.here hx rfl (hb hby d8_17) rfl kt_) ?_
    show Done p e s below _ _ _ s₁ (mkF m 18 #[.val (.int p0), .val (.int p1), .val (.int p2), .val (.int p3), .val (.int p4), .val (.int p5), .val (.int p6), .val (.long (0 : Int64)), .second] [(.int p0), (.int p2)])
    by_cases hc18 : p2 = p0
    · skip
      refine Done.go (fun _ kt_ => XS.icmpNo X0.here hx rfl (hb hby d8_18) rfl (teq hc18).2 kt_) ?_
      show Done p e s below _ _ _ s₁ (mkF m 21 #[.val (.int p0), .val (.int p1), .val (.int p2), .val (.int p3), .val (.int p4), .val (.int p5), .val (.int p6), .val (.long (0 : Int64)), .second] [])
      refine Done.go (fun _ kt_ => XS.lload X0.here hx rfl (hb hby d8_21) rfl kt_) ?_
      show Done p e s below _ _ _ s₁ (mkF m 23 #[.val (.int p0), .val (.int p1), .val (.int p2), .val (.int p3), .val (.int p4), .val (.int p5), .val (.int p6), .val (.long (0 : Int64)), .second] [(.long (0 : Int64))])
      refine Done.go (fun _ kt_ => XS.iload X0.here hx rfl (hb hby d8_23) rfl kt_) ?_
      show Done p e s below _ _ _ s₁ (mkF m 25 #[.val (.int p0), .val (.int p1), .val (.int p2), .val (.int p3), .val (.int p4), .val (.int p5), .val (.int p6), .val (.long (0 : Int64)), .second] [(.int p5), (.long (0 : Int64))])
      refine Done.go (fun _ kt_ => XS.i2l X0.here hx rfl (hb hby d8_25) rfl kt_) ?_
      show Done p e s below _ _ _ s₁ (mkF m 26 #[.val (.int p0), .val (.int p1), .val (.int p2), .val (.int p3), .val (.int p4), .val (.int p5), .val (.int p6), .val (.long (0 : Int64)), .second] [(.long (p5.toInt64)), (.long (0 : Int64))])
      refine Done.go (fun _ kt_ => XS.ladd X0.here hx rfl (hb hby d8_26) rfl kt_) ?_
      show Done p e s below _ _ _ s₁ (mkF m 27 #[.val (.int p0), .val (.int p1), .val (.int p2), .val (.int p3), .val (.int p4), .val (.int p5), .val (.int p6), .val (.long (0 : Int64)), .second] [(.long ((0 : Int64) + (p5.toInt64)))])
      refine Done.go (fun _ kt_ => XS.lstore X0.here hx rfl (hb hby d8_27) rfl (l' := #[.val (.int p0), .val (.int p1), .val (.int p2), .val (.int p3), .val (.int p4), .val (.int p5), .val (.int p6), .val (.long ((0 : Int64) + (p5.toInt64))), .second]) rfl kt_) ?_
      show Done p e s below _ _ _ s₁ (mkF m 29 #[.val (.int p0), .val (.int p1), .val (.int p2), .val (.int p3), .val (.int p4), .val (.int p5), .val (.int p6), .val (.long ((0 : Int64) + (p5.toInt64))), .second] [])
      refine Done.go (fun _ kt_ => XS.iloadN X0.here hx rfl (hb hby d8_29) rfl kt_) ?_
      show Done p e s below _ _ _ s₁ (mkF m 30 #[.val (.int p0), .val (.int p1), .val (.int p2), .val (.int p3), .val (.int p4), .val (.int p5), .val (.int p6), .val (.long ((0 : Int64) + (p5.toInt64))), .second] [(.int p3)])
      refine Done.go (fun _ kt_ => XS.iloadN X0.here hx rfl (hb hby d8_30) rfl kt_) ?_
      show Done p e s below _ _ _ s₁ (mkF m 31 #[.val (.int p0), .val (.int p1), .val (.int p2), .val (.int p3), .val (.int p4), .val (.int p5), .val (.int p6), .val (.long ((0 : Int64) + (p5.toInt64))), .second] [(.int p0), (.int p3)])
      by_cases hc31 : p3 = p0
      · skip
        refine Done.go (fun _ kt_ => XS.icmpNo X0.here hx rfl (hb hby d8_31) rfl (teq hc31).2 kt_) ?_
        show Done p e s below _ _ _ s₁ (mkF m 34 #[.val (.int p0), .val (.int p1), .val (.int p2), .val (.int p3), .val (.int p4), .val (.int p5), .val (.int p6), .val (.long ((0 : Int64) + (p5.toInt64))), .second] [])
        refine Done.go (fun _ kt_ => XS.lload X0.here hx rfl (hb hby d8_34) rfl kt_) ?_
        show Done p e s below _ _ _ s₁ (mkF m 36 #[.val (.int p0), .val (.int p1), .val (.int p2), .val (.int p3), .val (.int p4), .val (.int p5), .val (.int p6), .val (.long ((0 : Int64) + (p5.toInt64))), .second] [(.long ((0 : Int64) + (p5.toInt64)))])
        refine Done.go (fun _ kt_ => XS.iload X0.here hx rfl (hb hby d8_36) rfl kt_) ?_
        show Done p e s below _ _ _ s₁ (mkF m 38 #[.val (.int p0), .val (.int p1), .val (.int p2), .val (.int p3), .val (.int p4), .val (.int p5), .val (.int p6), .val (.long ((0 : Int64) + (p5.toInt64))), .second] [(.int p6), (.long ((0 : Int64) + (p5.toInt64)))])
        refine Done.go (fun _ kt_ => XS.i2l X0.here hx rfl (hb hby d8_38) rfl kt_) ?_
        show Done p e s below _ _ _ s₁ (mkF m 39 #[.val (.int p0), .val (.int p1), .val (.int p2), .val (.int p3), .val (.int p4), .val (.int p5), .val (.int p6), .val (.long ((0 : Int64) + (p5.toInt64))), .second] [(.long (p6.toInt64)), (.long ((0 : Int64) + (p5.toInt64)))])
        refine Done.go (fun _ kt_ => XS.ladd X0.here hx rfl (hb hby d8_39) rfl kt_) ?_
        show Done p e s below _ _ _ s₁ (mkF m 40 #[.val (.int p0), .val (.int p1), .val (.int p2), .val (.int p3), .val (.int p4), .val (.int p5), .val (.int p6), .val (.long ((0 : Int64) + (p5.toInt64))), .second] [(.long (((0 : Int64) + (p5.toInt64)) + (p6.toInt64)))])
        refine Done.go (fun _ kt_ => XS.lstore X0.here hx rfl (hb hby d8_40) rfl (l' := #[.val (.int p0), .val (.int p1), .val (.int p2), .val (.int p3), .val (.int p4), .val (.int p5), .val (.int p6), .val (.long (((0 : Int64) + (p5.toInt64)) + (p6.toInt64))), .second]) rfl kt_) ?_
        show Done p e s below _ _ _ s₁ (mkF m 42 #[.val (.int p0), .val (.int p1), .val (.int p2), .val (.int p3), .val (.int p4), .val (.int p5), .val (.int p6), .val (.long (((0 : Int64) + (p5.toInt64)) + (p6.toInt64))), .second] [])
        refine Done.go (fun _ kt_ => XS.lload X0.here hx rfl (hb hby d8_42) rfl kt_) ?_
        show Done p e s below _ _ _ s₁ (mkF m 44 #[.val (.int p0), .val (.int p1), .val (.int p2), .val (.int p3), .val (.int p4), .val (.int p5), .val (.int p6), .val (.long (((0 : Int64) + (p5.toInt64)) + (p6.toInt64))), .second] [(.long (((0 : Int64) + (p5.toInt64)) + (p6.toInt64)))])
        refine Done.go (fun _ kt_ => XS.l2dS X0.here hx rfl (hb hby d8_44) rfl rfl kt_) ?_
        show Done p e s below _ _ _ s₁ (mkF m 45 #[.val (.int p0), .val (.int p1), .val (.int p2), .val (.int p3), .val (.int p4), .val (.int p5), .val (.int p6), .val (.long (((0 : Int64) + (p5.toInt64)) + (p6.toInt64))), .second] [(.double (FP.l2d (((0 : Int64) + (p5.toInt64)) + (p6.toInt64))))])
        refine Done.retD X0 hx hlk hrt (hb hby d8_45) ?_ (by first | decide | omega) (by first | decide | omega)
        rw [e0]
        exact ⟨by simp only [own_sum, own_s1, hc5, hc18, hc31, if_true, if_false], N0, rfl⟩
      · skip
        refine Done.go (fun _ kt_ => XS.icmpYes X0.here hx rfl (pc0 := 31) (pc' := 42) rfl (hb hby d8_31) rfl (feq hc31).2 (by decide) (by decide) kt_) ?_
        show Done p e s below _ _ _ s₁ (mkF m 42 #[.val (.int p0), .val (.int p1), .val (.int p2), .val (.int p3), .val (.int p4), .val (.int p5), .val (.int p6), .val (.long ((0 : Int64) + (p5.toInt64))), .second] [])
        refine Done.go (fun _ kt_ => XS.lload X0.here hx rfl (hb hby d8_42) rfl kt_) ?_
        show Done p e s below _ _ _ s₁ (mkF m 44 #[.val (.int p0), .val (.int p1), .val (.int p2), .val (.int p3), .val (.int p4), .val (.int p5), .val (.int p6), .val (.long ((0 : Int64) + (p5.toInt64))), .second] [(.long ((0 : Int64) + (p5.toInt64)))])
        refine Done.go (fun _ kt_ => XS.l2dS X0.here hx rfl (hb hby d8_44) rfl rfl kt_) ?_
        show Done p e s below _ _ _ s₁ (mkF m 45 #[.val (.int p0), .val (.int p1), .val (.int p2), .val (.int p3), .val (.int p4), .val (.int p5), .val (.int p6), .val (.long ((0 : Int64) + (p5.toInt64))), .second] [(.double (FP.l2d ((0 : Int64) + (p5.toInt64))))])
        refine Done.retD X0 hx hlk hrt (hb hby d8_45) ?_ (by first | decide | omega) (by first | decide | omega)
        rw [e0]
        exact ⟨by simp only [own_sum, own_s1, hc5, hc18, hc31, if_true, if_false], N0, rfl⟩
    · skip
      refine Done.go (fun _ kt_ => XS.icmpYes X0.here hx rfl (pc0 := 18) (pc' := 29) rfl (hb hby d8_18) rfl (feq hc18).2 (by decide) (by decide) kt_) ?_
      show Done p e s below _ _ _ s₁ (mkF m 29 #[.val (.int p0), .val (.int p1), .val (.int p2), .val (.int p3), .val (.int p4), .val (.int p5), .val (.int p6), .val (.long (0 : Int64)), .second] [])
      refine Done.go (fun _ kt_ => XS.iloadN X0.here hx rfl (hb hby d8_29) rfl kt_) ?_
      show Done p e s below _ _ _ s₁ (mkF m 30 #[.val (.int p0), .val (.int p1), .val (.int p2), .val (.int p3), .val (.int p4), .val (.int p5), .val (.int p6), .val (.long (0 : Int64)), .second] [(.int p3)])
      refine Done.go (fun _ kt_ => XS.iloadN X0.here hx rfl (hb hby d8_30) rfl kt_) ?_
      show Done p e s below _ _ _ s₁ (mkF m 31 #[.val (.int p0), .val (.int p1), .val (.int p2), .val (.int p3), .val (.int p4), .val (.int p5), .val (.int p6), .val (.long (0 : Int64)), .second] [(.int p0), (.int p3)])
      by_cases hc31 : p3 = p0
      · skip
        refine Done.go (fun _ kt_ => XS.icmpNo X0.here hx rfl (hb hby d8_31) rfl (teq hc31).2 kt_) ?_
        show Done p e s below _ _ _ s₁ (mkF m 34 #[.val (.int p0), .val (.int p1), .val (.int p2), .val (.int p3), .val (.int p4), .val (.int p5), .val (.int p6), .val (.long (0 : Int64)), .second] [])
        refine Done.go (fun _ kt_ => XS.lload X0.here hx rfl (hb hby d8_34) rfl kt_) ?_
        show Done p e s below _ _ _ s₁ (mkF m 36 #[.val (.int p0), .val (.int p1), .val (.int p2), .val (.int p3), .val (.int p4), .val (.int p5), .val (.int p6), .val (.long (0 : Int64)), .second] [(.long (0 : Int64))])
        refine Done.go (fun _ kt_ => XS.iload X0.here hx rfl (hb hby d8_36) rfl kt_) ?_
        show Done p e s below _ _ _ s₁ (mkF m 38 #[.val (.int p0), .val (.int p1), .val (.int p2), .val (.int p3), .val (.int p4), .val (.int p5), .val (.int p6), .val (.long (0 : Int64)), .second] [(.int p6), (.long (0 : Int64))])
        refine Done.go (fun _ kt_ => XS.i2l X0.here hx rfl (hb hby d8_38) rfl kt_) ?_
        show Done p e s below _ _ _ s₁ (mkF m 39 #[.val (.int p0), .val (.int p1), .val (.int p2), .val (.int p3), .val (.int p4), .val (.int p5), .val (.int p6), .val (.long (0 : Int64)), .second] [(.long (p6.toInt64)), (.long (0 : Int64))])
        refine Done.go (fun _ kt_ => XS.ladd X0.here hx rfl (hb hby d8_39) rfl kt_) ?_
        show Done p e s below _ _ _ s₁ (mkF m 40 #[.val (.int p0), .val (.int p1), .val (.int p2), .val (.int p3), .val (.int p4), .val (.int p5), .val (.int p6), .val (.long (0 : Int64)), .second] [(.long ((0 : Int64) + (p6.toInt64)))])
        refine Done.go (fun _ kt_ => XS.lstore X0.here hx rfl (hb hby d8_40) rfl (l' := #[.val (.int p0), .val (.int p1), .val (.int p2), .val (.int p3), .val (.int p4), .val (.int p5), .val (.int p6), .val (.long ((0 : Int64) + (p6.toInt64))), .second]) rfl kt_) ?_
        show Done p e s below _ _ _ s₁ (mkF m 42 #[.val (.int p0), .val (.int p1), .val (.int p2), .val (.int p3), .val (.int p4), .val (.int p5), .val (.int p6), .val (.long ((0 : Int64) + (p6.toInt64))), .second] [])
        refine Done.go (fun _ kt_ => XS.lload X0.here hx rfl (hb hby d8_42) rfl kt_) ?_
        show Done p e s below _ _ _ s₁ (mkF m 44 #[.val (.int p0), .val (.int p1), .val (.int p2), .val (.int p3), .val (.int p4), .val (.int p5), .val (.int p6), .val (.long ((0 : Int64) + (p6.toInt64))), .second] [(.long ((0 : Int64) + (p6.toInt64)))])
        refine Done.go (fun _ kt_ => XS.l2dS X0.here hx rfl (hb hby d8_44) rfl rfl kt_) ?_
        show Done p e s below _ _ _ s₁ (mkF m 45 #[.val (.int p0), .val (.int p1), .val (.int p2), .val (.int p3), .val (.int p4), .val (.int p5), .val (.int p6), .val (.long ((0 : Int64) + (p6.toInt64))), .second] [(.double (FP.l2d ((0 : Int64) + (p6.toInt64))))])
        refine Done.retD X0 hx hlk hrt (hb hby d8_45) ?_ (by first | decide | omega) (by first | decide | omega)
        rw [e0]
        exact ⟨by simp only [own_sum, own_s1, hc5, hc18, hc31, if_true, if_false], N0, rfl⟩
      · skip
        refine Done.go (fun _ kt_ => XS.icmpYes X0.here hx rfl (pc0 := 31) (pc' := 42) rfl (hb hby d8_31) rfl (feq hc31).2 (by decide) (by decide) kt_) ?_
        show Done p e s below _ _ _ s₁ (mkF m 42 #[.val (.int p0), .val (.int p1), .val (.int p2), .val (.int p3), .val (.int p4), .val (.int p5), .val (.int p6), .val (.long (0 : Int64)), .second] [])
        refine Done.go (fun _ kt_ => XS.lload X0.here hx rfl (hb hby d8_42) rfl kt_) ?_
        show Done p e s below _ _ _ s₁ (mkF m 44 #[.val (.int p0), .val (.int p1), .val (.int p2), .val (.int p3), .val (.int p4), .val (.int p5), .val (.int p6), .val (.long (0 : Int64)), .second] [(.long (0 : Int64))])
        refine Done.go (fun _ kt_ => XS.l2dS X0.here hx rfl (hb hby d8_44) rfl rfl kt_) ?_
        show Done p e s below _ _ _ s₁ (mkF m 45 #[.val (.int p0), .val (.int p1), .val (.int p2), .val (.int p3), .val (.int p4), .val (.int p5), .val (.int p6), .val (.long (0 : Int64)), .second] [(.double (FP.l2d (0 : Int64)))])
        refine Done.retD X0 hx hlk hrt (hb hby d8_45) ?_ (by first | decide | omega) (by first | decide | omega)
        rw [e0]
        exact ⟨by simp only [own_sum, own_s1, hc5, hc18, hc31, if_true, if_false], N0, rfl⟩
def Q0 (n0 : Nat) (v : Option Value) (h : Heap) (L : List Loc) : Prop := v = some (.int 1) ∧ Fr n0 L
theorem ef_rm0 (m : MethodId) (p0 : Int32) (p1 : Int32) (p2 : Int32) (p3 : Int32) (p4 : Int32) : entryFrame m #[(.int p0), (.int p1), (.int p2), (.int p3), (.int p4)] maxLocals = mkF m 0 #[.val (.int p0), .val (.int p1), .val (.int p2), .val (.int p3), .val (.int p4), .unset, .unset, .unset, .unset, .unset, .unset, .unset, .unset, .unset, .unset, .unset] [] := by first | (simp [entryFrame, mkF, argsToLocals, Value.category, maxLocals]; done) | rfl
set_option maxRecDepth 65536 in
set_option maxHeartbeats 40000000 in
theorem rm0 (l : Launch) (Z : State) (a0 : Array Value) (hw : ∀ d ∈ tables_1, d.before a0 Z = true) (ws : List Jvm.Cond) (p0 : Int32) (p1 : Int32) (p2 : Int32) (p3 : Int32) (p4 : Int32) (h0 : Heap) (n0 : Nat) (Z0 : n0 ≤ h0.size) :
    MetFree l x (head1 (Jvm.Cond.code x code maxLocals ret :: ws) room_1) (fun a U => a = #[(.int p0), (.int p1), (.int p2), (.int p3), (.int p4)] ∧ Z.Warmed39 U.vm ∧ U.heap = h0) (fun _ _ _ _ _ => True) (fun _ U o U' => ∃ vr Lr, o = .returned vr ∧ Q0 n0 vr U'.heap Lr ∧ FrameEnd U o U' Lr 16 128) := by
  refine MetFree.of_bodySF (plainFor_of_name own_pn1) hisR ?_
  intro p e s m args below meth c s₁ Bd hml0 hP hK
  obtain ⟨rfl, hZ, hh⟩ := hP
  have hx := Bd.exec
  have hby := Bd.bytes
  have hml : c.maxLocals = 16 := hml0
  have hown : s.vm.findClass "com/example/pivotwise/pivotwise/retrieval/ScoresAddPinLaw" = some m.cls := findClass_of_methodNamed Bd.named
  have hnm := (name_of_methodNamed Bd.named Bd.method).1
  have hlk : meth.locks = false := Bd.notSynchronized
  have hrt := Bd.returns
  have X0 : Stand p l e room_1 s m #[(.int p0), (.int p1), (.int p2), (.int p3), (.int p4)] below meth c s₁ [] 0 0 := Stand.of_body Bd
  have e0 : s₁.heap = h0 := by rw [← hh, Bd.state]; rfl
  have N0 := Fr.nil n0
  show Done p e s below 16 128 (Q0 n0) s₁ (entryFrame m #[(.int p0), (.int p1), (.int p2), (.int p3), (.int p4)] maxLocals)
  rw [ef_rm0]
  show Done p e s below _ _ _ s₁ (mkF m 0 #[.val (.int p0), .val (.int p1), .val (.int p2), .val (.int p3), .val (.int p4), .unset, .unset, .unset, .unset, .unset, .unset, .unset, .unset, .unset, .unset, .unset] [])
  refine Done.go (fun _ kt_ => XS.iloadN X0.here hx rfl (hb hby at_0) rfl kt_) ?_
  show Done p e s below _ _ _ s₁ (mkF m 1 #[.val (.int p0), .val (.int p1), .val (.int p2), .val (.int p3), .val (.int p4), .unset, .unset, .unset, .unset, .unset, .unset, .unset, .unset, .unset, .unset, .unset] [(.int p0)])
  refine Done.go (fun _ kt_ => XS.iconst X0.here hx rfl (hb hby at_1) kt_) ?_
  show Done p e s below _ _ _ s₁ (mkF m 2 #[.val (.int p0), .val (.int p1), .val (.int p2), .val (.int p3), .val (.int p4), .unset, .unset, .unset, .unset, .unset, .unset, .unset, .unset, .unset, .unset, .unset] [(.int (3 : Int32)), (.int p0)])
  refine Done.go (fun _ kt_ => XS.iand X0.here hx rfl (hb hby at_2) rfl kt_) ?_
  show Done p e s below _ _ _ s₁ (mkF m 3 #[.val (.int p0), .val (.int p1), .val (.int p2), .val (.int p3), .val (.int p4), .unset, .unset, .unset, .unset, .unset, .unset, .unset, .unset, .unset, .unset, .unset] [(.int (p0 &&& (3 : Int32)))])
  refine Done.go (fun _ kt_ => XS.istore X0.here hx rfl (hb hby at_3) rfl (l' := #[.val (.int p0), .val (.int p1), .val (.int p2), .val (.int p3), .val (.int p4), .val (.int (p0 &&& (3 : Int32))), .unset, .unset, .unset, .unset, .unset, .unset, .unset, .unset, .unset, .unset]) rfl kt_) ?_
  obtain ⟨A, hA, hA4⟩ := own_m3 p0
  show Done p e s below _ _ _ s₁ (mkF m 5 #[.val (.int p0), .val (.int p1), .val (.int p2), .val (.int p3), .val (.int p4), .val (.int (p0 &&& (3 : Int32))), .unset, .unset, .unset, .unset, .unset, .unset, .unset, .unset, .unset, .unset] [])
  generalize h_pa : (p0 &&& (3 : Int32)) = pa
  rw [h_pa] at hA
  show Done p e s below _ _ _ s₁ (mkF m 5 #[.val (.int p0), .val (.int p1), .val (.int p2), .val (.int p3), .val (.int p4), .val (.int pa), .unset, .unset, .unset, .unset, .unset, .unset, .unset, .unset, .unset, .unset] [])
  refine Done.go (fun _ kt_ => XS.iloadN X0.here hx rfl (hb hby at_5) rfl kt_) ?_
  show Done p e s below _ _ _ s₁ (mkF m 6 #[.val (.int p0), .val (.int p1), .val (.int p2), .val (.int p3), .val (.int p4), .val (.int pa), .unset, .unset, .unset, .unset, .unset, .unset, .unset, .unset, .unset, .unset] [(.int p0)])
  refine Done.go (fun _ kt_ => XS.iconst X0.here hx rfl (hb hby at_6) kt_) ?_
  show Done p e s below _ _ _ s₁ (mkF m 7 #[.val (.int p0), .val (.int p1), .val (.int p2), .val (.int p3), .val (.int p4), .val (.int pa), .unset, .unset, .unset, .unset, .unset, .unset, .unset, .unset, .unset, .unset] [(.int (2 : Int32)), (.int p0)])
  refine Done.go (fun _ kt_ => XS.iushr X0.here hx rfl (hb hby at_7) rfl kt_) ?_
  show Done p e s below _ _ _ s₁ (mkF m 8 #[.val (.int p0), .val (.int p1), .val (.int p2), .val (.int p3), .val (.int p4), .val (.int pa), .unset, .unset, .unset, .unset, .unset, .unset, .unset, .unset, .unset, .unset] [(.int ((p0.toUInt32 >>> ((2 : Int32) &&& 31).toUInt32).toInt32))])
  refine Done.go (fun _ kt_ => XS.iconst X0.here hx rfl (hb hby at_8) kt_) ?_
  show Done p e s below _ _ _ s₁ (mkF m 9 #[.val (.int p0), .val (.int p1), .val (.int p2), .val (.int p3), .val (.int p4), .val (.int pa), .unset, .unset, .unset, .unset, .unset, .unset, .unset, .unset, .unset, .unset] [(.int (3 : Int32)), (.int ((p0.toUInt32 >>> ((2 : Int32) &&& 31).toUInt32).toInt32))])
  refine Done.go (fun _ kt_ => XS.iand X0.here hx rfl (hb hby at_9) rfl kt_) ?_
  show Done p e s below _ _ _ s₁ (mkF m 10 #[.val (.int p0), .val (.int p1), .val (.int p2), .val (.int p3), .val (.int p4), .val (.int pa), .unset, .unset, .unset, .unset, .unset, .unset, .unset, .unset, .unset, .unset] [(.int (((p0.toUInt32 >>> ((2 : Int32) &&& 31).toUInt32).toInt32) &&& (3 : Int32)))])
  refine Done.go (fun _ kt_ => XS.istore X0.here hx rfl (hb hby at_10) rfl (l' := #[.val (.int p0), .val (.int p1), .val (.int p2), .val (.int p3), .val (.int p4), .val (.int pa), .val (.int (((p0.toUInt32 >>> ((2 : Int32) &&& 31).toUInt32).toInt32) &&& (3 : Int32))), .unset, .unset, .unset, .unset, .unset, .unset, .unset, .unset, .unset]) rfl kt_) ?_
  obtain ⟨B, hB, hB4⟩ := own_m3 ((p0.toUInt32 >>> ((2 : Int32) &&& 31).toUInt32).toInt32)
  show Done p e s below _ _ _ s₁ (mkF m 12 #[.val (.int p0), .val (.int p1), .val (.int p2), .val (.int p3), .val (.int p4), .val (.int pa), .val (.int (((p0.toUInt32 >>> ((2 : Int32) &&& 31).toUInt32).toInt32) &&& (3 : Int32))), .unset, .unset, .unset, .unset, .unset, .unset, .unset, .unset, .unset] [])
  generalize h_pb : (((p0.toUInt32 >>> ((2 : Int32) &&& 31).toUInt32).toInt32) &&& (3 : Int32)) = pb
  rw [h_pb] at hB
  show Done p e s below _ _ _ s₁ (mkF m 12 #[.val (.int p0), .val (.int p1), .val (.int p2), .val (.int p3), .val (.int p4), .val (.int pa), .val (.int pb), .unset, .unset, .unset, .unset, .unset, .unset, .unset, .unset, .unset] [])
  refine Done.go (fun _ kt_ => XS.iloadN X0.here hx rfl (hb hby at_12) rfl kt_) ?_
  show Done p e s below _ _ _ s₁ (mkF m 13 #[.val (.int p0), .val (.int p1), .val (.int p2), .val (.int p3), .val (.int p4), .val (.int pa), .val (.int pb), .unset, .unset, .unset, .unset, .unset, .unset, .unset, .unset, .unset] [(.int p0)])
  refine Done.go (fun _ kt_ => XS.iconst X0.here hx rfl (hb hby at_13) kt_) ?_
  show Done p e s below _ _ _ s₁ (mkF m 14 #[.val (.int p0), .val (.int p1), .val (.int p2), .val (.int p3), .val (.int p4), .val (.int pa), .val (.int pb), .unset, .unset, .unset, .unset, .unset, .unset, .unset, .unset, .unset] [(.int (4 : Int32)), (.int p0)])
  refine Done.go (fun _ kt_ => XS.iushr X0.here hx rfl (hb hby at_14) rfl kt_) ?_
  show Done p e s below _ _ _ s₁ (mkF m 15 #[.val (.int p0), .val (.int p1), .val (.int p2), .val (.int p3), .val (.int p4), .val (.int pa), .val (.int pb), .unset, .unset, .unset, .unset, .unset, .unset, .unset, .unset, .unset] [(.int ((p0.toUInt32 >>> ((4 : Int32) &&& 31).toUInt32).toInt32))])
  refine Done.go (fun _ kt_ => XS.iconst X0.here hx rfl (hb hby at_15) kt_) ?_
  show Done p e s below _ _ _ s₁ (mkF m 16 #[.val (.int p0), .val (.int p1), .val (.int p2), .val (.int p3), .val (.int p4), .val (.int pa), .val (.int pb), .unset, .unset, .unset, .unset, .unset, .unset, .unset, .unset, .unset] [(.int (3 : Int32)), (.int ((p0.toUInt32 >>> ((4 : Int32) &&& 31).toUInt32).toInt32))])
  refine Done.go (fun _ kt_ => XS.iand X0.here hx rfl (hb hby at_16) rfl kt_) ?_
  show Done p e s below _ _ _ s₁ (mkF m 17 #[.val (.int p0), .val (.int p1), .val (.int p2), .val (.int p3), .val (.int p4), .val (.int pa), .val (.int pb), .unset, .unset, .unset, .unset, .unset, .unset, .unset, .unset, .unset] [(.int (((p0.toUInt32 >>> ((4 : Int32) &&& 31).toUInt32).toInt32) &&& (3 : Int32)))])
  refine Done.go (fun _ kt_ => XS.istore X0.here hx rfl (hb hby at_17) rfl (l' := #[.val (.int p0), .val (.int p1), .val (.int p2), .val (.int p3), .val (.int p4), .val (.int pa), .val (.int pb), .val (.int (((p0.toUInt32 >>> ((4 : Int32) &&& 31).toUInt32).toInt32) &&& (3 : Int32))), .unset, .unset, .unset, .unset, .unset, .unset, .unset, .unset]) rfl kt_) ?_
  obtain ⟨Cc, hCc, hCc4⟩ := own_m3 ((p0.toUInt32 >>> ((4 : Int32) &&& 31).toUInt32).toInt32)
  show Done p e s below _ _ _ s₁ (mkF m 19 #[.val (.int p0), .val (.int p1), .val (.int p2), .val (.int p3), .val (.int p4), .val (.int pa), .val (.int pb), .val (.int (((p0.toUInt32 >>> ((4 : Int32) &&& 31).toUInt32).toInt32) &&& (3 : Int32))), .unset, .unset, .unset, .unset, .unset, .unset, .unset, .unset] [])
  generalize h_pc : (((p0.toUInt32 >>> ((4 : Int32) &&& 31).toUInt32).toInt32) &&& (3 : Int32)) = pc
  rw [h_pc] at hCc
  show Done p e s below _ _ _ s₁ (mkF m 19 #[.val (.int p0), .val (.int p1), .val (.int p2), .val (.int p3), .val (.int p4), .val (.int pa), .val (.int pb), .val (.int pc), .unset, .unset, .unset, .unset, .unset, .unset, .unset, .unset] [])
  refine Done.go (fun _ kt_ => XS.iloadN X0.here hx rfl (hb hby at_19) rfl kt_) ?_
  show Done p e s below _ _ _ s₁ (mkF m 20 #[.val (.int p0), .val (.int p1), .val (.int p2), .val (.int p3), .val (.int p4), .val (.int pa), .val (.int pb), .val (.int pc), .unset, .unset, .unset, .unset, .unset, .unset, .unset, .unset] [(.int p0)])
  refine Done.go (fun _ kt_ => XS.bipush X0.here hx rfl (hb hby at_20) kt_) ?_
  show Done p e s below _ _ _ s₁ (mkF m 22 #[.val (.int p0), .val (.int p1), .val (.int p2), .val (.int p3), .val (.int p4), .val (.int pa), .val (.int pb), .val (.int pc), .unset, .unset, .unset, .unset, .unset, .unset, .unset, .unset] [(.int (6 : Int32)), (.int p0)])
  refine Done.go (fun _ kt_ => XS.iushr X0.here hx rfl (hb hby at_22) rfl kt_) ?_
  show Done p e s below _ _ _ s₁ (mkF m 23 #[.val (.int p0), .val (.int p1), .val (.int p2), .val (.int p3), .val (.int p4), .val (.int pa), .val (.int pb), .val (.int pc), .unset, .unset, .unset, .unset, .unset, .unset, .unset, .unset] [(.int ((p0.toUInt32 >>> ((6 : Int32) &&& 31).toUInt32).toInt32))])
  refine Done.go (fun _ kt_ => XS.iconst X0.here hx rfl (hb hby at_23) kt_) ?_
  show Done p e s below _ _ _ s₁ (mkF m 24 #[.val (.int p0), .val (.int p1), .val (.int p2), .val (.int p3), .val (.int p4), .val (.int pa), .val (.int pb), .val (.int pc), .unset, .unset, .unset, .unset, .unset, .unset, .unset, .unset] [(.int (3 : Int32)), (.int ((p0.toUInt32 >>> ((6 : Int32) &&& 31).toUInt32).toInt32))])
  refine Done.go (fun _ kt_ => XS.iand X0.here hx rfl (hb hby at_24) rfl kt_) ?_
  show Done p e s below _ _ _ s₁ (mkF m 25 #[.val (.int p0), .val (.int p1), .val (.int p2), .val (.int p3), .val (.int p4), .val (.int pa), .val (.int pb), .val (.int pc), .unset, .unset, .unset, .unset, .unset, .unset, .unset, .unset] [(.int (((p0.toUInt32 >>> ((6 : Int32) &&& 31).toUInt32).toInt32) &&& (3 : Int32)))])
  refine Done.go (fun _ kt_ => XS.istore X0.here hx rfl (hb hby at_25) rfl (l' := #[.val (.int p0), .val (.int p1), .val (.int p2), .val (.int p3), .val (.int p4), .val (.int pa), .val (.int pb), .val (.int pc), .val (.int (((p0.toUInt32 >>> ((6 : Int32) &&& 31).toUInt32).toInt32) &&& (3 : Int32))), .unset, .unset, .unset, .unset, .unset, .unset, .unset]) rfl kt_) ?_
  obtain ⟨Ee, hEe, hEe4⟩ := own_m3 ((p0.toUInt32 >>> ((6 : Int32) &&& 31).toUInt32).toInt32)
  show Done p e s below _ _ _ s₁ (mkF m 27 #[.val (.int p0), .val (.int p1), .val (.int p2), .val (.int p3), .val (.int p4), .val (.int pa), .val (.int pb), .val (.int pc), .val (.int (((p0.toUInt32 >>> ((6 : Int32) &&& 31).toUInt32).toInt32) &&& (3 : Int32))), .unset, .unset, .unset, .unset, .unset, .unset, .unset] [])
  generalize h_pe : (((p0.toUInt32 >>> ((6 : Int32) &&& 31).toUInt32).toInt32) &&& (3 : Int32)) = pe
  rw [h_pe] at hEe
  show Done p e s below _ _ _ s₁ (mkF m 27 #[.val (.int p0), .val (.int p1), .val (.int p2), .val (.int p3), .val (.int p4), .val (.int pa), .val (.int pb), .val (.int pc), .val (.int pe), .unset, .unset, .unset, .unset, .unset, .unset, .unset] [])
  obtain ⟨T84, h84, X84, e84, E84, A84, D84, -, st84⟩ := newO X0 hx hZ hown (hw _ (List.mem_of_getElem? (i := 0) rfl)) (hw _ (List.mem_of_getElem? (i := 1) rfl)) (hw _ (List.mem_of_getElem? (i := 2) rfl)) e0 (g := (mkF m 27 #[.val (.int p0), .val (.int p1), .val (.int p2), .val (.int p3), .val (.int p4), .val (.int pa), .val (.int pb), .val (.int pc), .val (.int pe), .unset, .unset, .unset, .unset, .unset, .unset, .unset] [])) rfl (hb hby at_27) (by first | decide | omega) (by first | decide | omega)
  obtain ⟨b84, g84⟩ : ∃ z, z = h0.size := ⟨_, rfl⟩
  rw [← g84] at A84 D84 st84
  have gz_b84 : n0 ≤ b84 := Nat.le_trans Z0 (Nat.le_of_eq g84.symm)
  have Z84 : n0 ≤ h84.size := Nat.le_trans Z0 E84.1
  obtain ⟨Lh84, X84h, N84h⟩ : ∃ L, Stand p l e room_1 s m #[(.int p0), (.int p1), (.int p2), (.int p3), (.int p4)] below meth c T84 L 1 5 ∧ Fr n0 L := ⟨_, X84, N0⟩
  clear X84
  have F84_scores : Fld Z h84 b84 "com/example/pivotwise/pivotwise/retrieval/Scores" "scores" "[D" .null := D84 (Or.inr (hw _ (List.mem_of_getElem? (i := 11) rfl))) (ty := (.array .double)) (by decide)
  have F84_scoredFor : Fld Z h84 b84 "com/example/pivotwise/pivotwise/retrieval/Scores" "scoredFor" "[I" .null := D84 (Or.inr (hw _ (List.mem_of_getElem? (i := 14) rfl))) (ty := (.array .int)) (by decide)
  have F84_scored : Fld Z h84 b84 "com/example/pivotwise/pivotwise/retrieval/Scores" "scored" "[I" .null := D84 (Or.inr (hw _ (List.mem_of_getElem? (i := 16) rfl))) (ty := (.array .int)) (by decide)
  have F84_query : Fld Z h84 b84 "com/example/pivotwise/pivotwise/retrieval/Scores" "query" "I" (.int (0 : Int32)) := D84 (Or.inl (hw _ (List.mem_of_getElem? (i := 33) rfl))) (ty := .int) (by decide)
  have F84_count : Fld Z h84 b84 "com/example/pivotwise/pivotwise/retrieval/Scores" "count" "I" (.int (0 : Int32)) := D84 (Or.inl (hw _ (List.mem_of_getElem? (i := 35) rfl))) (ty := .int) (by decide)
  refine Done.go st84 ?_
  clear st84
  show Done p e s below _ _ _ T84 (mkF m 30 #[.val (.int p0), .val (.int p1), .val (.int p2), .val (.int p3), .val (.int p4), .val (.int pa), .val (.int pb), .val (.int pc), .val (.int pe), .unset, .unset, .unset, .unset, .unset, .unset, .unset] [(.ref b84)])
  refine Done.go (fun _ kt_ => XS.dup X84h.here hx rfl (hb hby at_30) rfl rfl kt_) ?_
  show Done p e s below _ _ _ T84 (mkF m 31 #[.val (.int p0), .val (.int p1), .val (.int p2), .val (.int p3), .val (.int p4), .val (.int pa), .val (.int pb), .val (.int pc), .val (.int pe), .unset, .unset, .unset, .unset, .unset, .unset, .unset] [(.ref b84), (.ref b84)])
  refine Done.go (fun _ kt_ => XS.iconst X84h.here hx rfl (hb hby at_31) kt_) ?_
  show Done p e s below _ _ _ T84 (mkF m 32 #[.val (.int p0), .val (.int p1), .val (.int p2), .val (.int p3), .val (.int p4), .val (.int pa), .val (.int pb), .val (.int pc), .val (.int pe), .unset, .unset, .unset, .unset, .unset, .unset, .unset] [(.int (4 : Int32)), (.ref b84), (.ref b84)])
  obtain ⟨v85, T85, Lc85, X85, hQ85, st85⟩ := own_backV (X84h.specialBack hx (y := (⟨"com/example/pivotwise/pivotwise/retrieval/Scores", "<init>", "(I)V"⟩ : MethodName)) rfl hown (mvT hZ (hw _ (List.mem_of_getElem? (i := 3) rfl))) (mvT hZ (hw _ (List.mem_of_getElem? (i := 4) rfl))) (mvT hZ (hw _ (List.mem_of_getElem? (i := 5) rfl))) (by decide) (backOf (W := 1) (rm1 l Z a0 hw [] b84 h84 n0 Z84 A84 gz_b84 F84_scores F84_scoredFor F84_scored F84_query F84_count) hZ (hw _ (List.mem_of_getElem? (i := 5) rfl)) (hw _ (List.mem_of_getElem? (i := 2) rfl)) (by decide) (by decide)) (g := (mkF m 32 #[.val (.int p0), .val (.int p1), .val (.int p2), .val (.int p3), .val (.int p4), .val (.int pa), .val (.int pb), .val (.int pc), .val (.int pe), .unset, .unset, .unset, .unset, .unset, .unset, .unset] [(.int (4 : Int32)), (.ref b84), (.ref b84)])) rfl (by rw [hml]; rfl) (Steps.refl _) (a := b84) (argsL := [(.int (4 : Int32))]) (rest := [(.ref b84)]) (lenOf own_pd0 rfl) rfl (by show 2 * 0 + _ ≤ _; exact Nat.le_of_eq rfl) (hb hby at_32) (fun _ _ => ⟨rfl, e84, (by first | decide | omega : 1 + 3 ≤ _), (by first | decide | omega : 5 + 12 ≤ _)⟩))
  obtain ⟨rfl, N85q, hs85, bD, bF, bS, hds, hgs, P85⟩ := hQ85
  refine Done.go st85 ?_
  clear st85
  have N85 := Fr.app N84h N85q
  clear N85q
  have Z85 : n0 ≤ T85.heap.size := Nat.le_trans Z84 hs85
  obtain ⟨Lh85, X85h, N85h⟩ : ∃ L, Stand p l e room_1 s m #[(.int p0), (.int p1), (.int p2), (.int p3), (.int p4)] below meth c T85 L 4 17 ∧ Fr n0 L := ⟨_, X85, N85⟩
  clear X85 N85 X84h e84 N84h Z84
  obtain ⟨E85, Fscores85, FscoredFor85, Fscored85, Fquery85, Fcount85, VD85, VF85, VS85⟩ := id P85
  show Done p e s below _ _ _ T85 (mkF m 35 #[.val (.int p0), .val (.int p1), .val (.int p2), .val (.int p3), .val (.int p4), .val (.int pa), .val (.int pb), .val (.int pc), .val (.int pe), .unset, .unset, .unset, .unset, .unset, .unset, .unset] [(.ref b84)])
  refine Done.go (fun _ kt_ => XS.astore X85h.here hx rfl (hb hby at_35) rfl rfl (l' := #[.val (.int p0), .val (.int p1), .val (.int p2), .val (.int p3), .val (.int p4), .val (.int pa), .val (.int pb), .val (.int pc), .val (.int pe), .val (.ref b84), .unset, .unset, .unset, .unset, .unset, .unset]) rfl kt_) ?_
  show Done p e s below _ _ _ T85 (mkF m 37 #[.val (.int p0), .val (.int p1), .val (.int p2), .val (.int p3), .val (.int p4), .val (.int pa), .val (.int pb), .val (.int pc), .val (.int pe), .val (.ref b84), .unset, .unset, .unset, .unset, .unset, .unset] [])
  refine Done.go (fun _ kt_ => XS.aload X85h.here hx rfl (hb hby at_37) rfl rfl kt_) ?_
  show Done p e s below _ _ _ T85 (mkF m 39 #[.val (.int p0), .val (.int p1), .val (.int p2), .val (.int p3), .val (.int p4), .val (.int pa), .val (.int pb), .val (.int pc), .val (.int pe), .val (.ref b84), .unset, .unset, .unset, .unset, .unset, .unset] [(.ref b84)])
  obtain ⟨cq86, kq86, q86a, q86b, q86c⟩ := isOf hZ rfl E85
  obtain ⟨v86, T86, Lc86, X86, hQ86, st86⟩ := own_backV (X85h.virtualBack hx (y := (⟨"com/example/pivotwise/pivotwise/retrieval/Scores", "documents", "()[I"⟩ : MethodName)) (z := (⟨"com/example/pivotwise/pivotwise/retrieval/Scores", "documents", "()[I"⟩ : MethodName)) hown (mvT hZ (hw _ (List.mem_of_getElem? (i := 17) rfl))) (mvT hZ (hw _ (List.mem_of_getElem? (i := 18) rfl))) (notFace_of_selects (args := #[]) (mvT hZ (hw _ (List.mem_of_getElem? (i := 20) rfl)))) (mvT hZ (hw _ (List.mem_of_getElem? (i := 20) rfl))) (mvT hZ (hw _ (List.mem_of_getElem? (i := 19) rfl))) (by decide) (backOf (W := 0) (rm3 l Z a0 hw [] b84 bS T85.heap n0 Z85 Fscored85) hZ (hw _ (List.mem_of_getElem? (i := 21) rfl)) (hw _ (List.mem_of_getElem? (i := 2) rfl)) (by decide) (by decide)) q86a q86c (g := (mkF m 39 #[.val (.int p0), .val (.int p1), .val (.int p2), .val (.int p3), .val (.int p4), .val (.int pa), .val (.int pb), .val (.int pc), .val (.int pe), .val (.ref b84), .unset, .unset, .unset, .unset, .unset, .unset] [(.ref b84)])) rfl (by rw [hml]; rfl) (Steps.refl _) (argsL := []) (rest := []) (lenOf own_pd1 rfl) rfl (by show 2 * 0 + _ ≤ _; exact Nat.le_of_eq rfl) (hb hby at_39) (fun _ _ => ⟨rfl, rfl, (by first | decide | omega : 4 + 0 ≤ _), (by first | decide | omega : 17 + 0 ≤ _)⟩))
  obtain ⟨rfl, N86q, e86⟩ := hQ86
  refine Done.go st86 ?_
  clear st86
  have N86 := Fr.app N85h N86q
  clear N86q
  obtain ⟨Lh86, X86h, N86h⟩ : ∃ L, Stand p l e room_1 s m #[(.int p0), (.int p1), (.int p2), (.int p3), (.int p4)] below meth c T86 L 4 17 ∧ Fr n0 L := ⟨_, X86, N86⟩
  clear X86 N86 X85h N85h
  show Done p e s below _ _ _ T86 (mkF m 42 #[.val (.int p0), .val (.int p1), .val (.int p2), .val (.int p3), .val (.int p4), .val (.int pa), .val (.int pb), .val (.int pc), .val (.int pe), .val (.ref b84), .unset, .unset, .unset, .unset, .unset, .unset] [(.ref bS)])
  refine Done.go (fun _ kt_ => XS.astore X86h.here hx rfl (hb hby at_42) rfl rfl (l' := #[.val (.int p0), .val (.int p1), .val (.int p2), .val (.int p3), .val (.int p4), .val (.int pa), .val (.int pb), .val (.int pc), .val (.int pe), .val (.ref b84), .val (.ref bS), .unset, .unset, .unset, .unset, .unset]) rfl kt_) ?_
  show Done p e s below _ _ _ T86 (mkF m 44 #[.val (.int p0), .val (.int p1), .val (.int p2), .val (.int p3), .val (.int p4), .val (.int pa), .val (.int pb), .val (.int pc), .val (.int pe), .val (.ref b84), .val (.ref bS), .unset, .unset, .unset, .unset, .unset] [])
  refine Done.go (fun _ kt_ => XS.aload X86h.here hx rfl (hb hby at_44) rfl rfl kt_) ?_
  show Done p e s below _ _ _ T86 (mkF m 46 #[.val (.int p0), .val (.int p1), .val (.int p2), .val (.int p3), .val (.int p4), .val (.int pa), .val (.int pb), .val (.int pc), .val (.int pe), .val (.ref b84), .val (.ref bS), .unset, .unset, .unset, .unset, .unset] [(.ref b84)])
  obtain ⟨cq87, kq87, q87a, q87b, q87c⟩ := isOf hZ e86 E85
  obtain ⟨v87, T87, Lc87, X87, hQ87, st87⟩ := own_backV (X86h.virtualBack hx (y := (⟨"com/example/pivotwise/pivotwise/retrieval/Scores", "values", "()[D"⟩ : MethodName)) (z := (⟨"com/example/pivotwise/pivotwise/retrieval/Scores", "values", "()[D"⟩ : MethodName)) hown (mvT hZ (hw _ (List.mem_of_getElem? (i := 22) rfl))) (mvT hZ (hw _ (List.mem_of_getElem? (i := 23) rfl))) (notFace_of_selects (args := #[]) (mvT hZ (hw _ (List.mem_of_getElem? (i := 25) rfl)))) (mvT hZ (hw _ (List.mem_of_getElem? (i := 25) rfl))) (mvT hZ (hw _ (List.mem_of_getElem? (i := 24) rfl))) (by decide) (backOf (W := 0) (rm4 l Z a0 hw [] b84 bD T85.heap n0 Z85 Fscores85) hZ (hw _ (List.mem_of_getElem? (i := 26) rfl)) (hw _ (List.mem_of_getElem? (i := 2) rfl)) (by decide) (by decide)) q87a q87c (g := (mkF m 46 #[.val (.int p0), .val (.int p1), .val (.int p2), .val (.int p3), .val (.int p4), .val (.int pa), .val (.int pb), .val (.int pc), .val (.int pe), .val (.ref b84), .val (.ref bS), .unset, .unset, .unset, .unset, .unset] [(.ref b84)])) rfl (by rw [hml]; rfl) (Steps.refl _) (argsL := []) (rest := []) (lenOf own_pd2 rfl) rfl (by show 2 * 0 + _ ≤ _; exact Nat.le_of_eq rfl) (hb hby at_46) (fun _ _ => ⟨rfl, e86, (by first | decide | omega : 4 + 0 ≤ _), (by first | decide | omega : 17 + 0 ≤ _)⟩))
  obtain ⟨rfl, N87q, e87⟩ := hQ87
  refine Done.go st87 ?_
  clear st87
  have N87 := Fr.app N86h N87q
  clear N87q
  obtain ⟨Lh87, X87h, N87h⟩ : ∃ L, Stand p l e room_1 s m #[(.int p0), (.int p1), (.int p2), (.int p3), (.int p4)] below meth c T87 L 4 17 ∧ Fr n0 L := ⟨_, X87, N87⟩
  clear X87 N87 X86h e86 N86h
  show Done p e s below _ _ _ T87 (mkF m 49 #[.val (.int p0), .val (.int p1), .val (.int p2), .val (.int p3), .val (.int p4), .val (.int pa), .val (.int pb), .val (.int pc), .val (.int pe), .val (.ref b84), .val (.ref bS), .unset, .unset, .unset, .unset, .unset] [(.ref bD)])
  refine Done.go (fun _ kt_ => XS.astore X87h.here hx rfl (hb hby at_49) rfl rfl (l' := #[.val (.int p0), .val (.int p1), .val (.int p2), .val (.int p3), .val (.int p4), .val (.int pa), .val (.int pb), .val (.int pc), .val (.int pe), .val (.ref b84), .val (.ref bS), .val (.ref bD), .unset, .unset, .unset, .unset]) rfl kt_) ?_
  show Done p e s below _ _ _ T87 (mkF m 51 #[.val (.int p0), .val (.int p1), .val (.int p2), .val (.int p3), .val (.int p4), .val (.int pa), .val (.int pb), .val (.int pc), .val (.int pe), .val (.ref b84), .val (.ref bS), .val (.ref bD), .unset, .unset, .unset, .unset] [])
  refine Done.go (fun _ kt_ => XS.aload X87h.here hx rfl (hb hby at_51) rfl rfl kt_) ?_
  show Done p e s below _ _ _ T87 (mkF m 53 #[.val (.int p0), .val (.int p1), .val (.int p2), .val (.int p3), .val (.int p4), .val (.int pa), .val (.int pb), .val (.int pc), .val (.int pe), .val (.ref b84), .val (.ref bS), .val (.ref bD), .unset, .unset, .unset, .unset] [(.ref b84)])
  obtain ⟨cq88, kq88, q88a, q88b, q88c⟩ := isOf hZ e87 E85
  obtain ⟨v88, T88, Lc88, X88, hQ88, st88⟩ := own_backV (X87h.virtualBack hx (y := (⟨"com/example/pivotwise/pivotwise/retrieval/Scores", "start", "()V"⟩ : MethodName)) (z := (⟨"com/example/pivotwise/pivotwise/retrieval/Scores", "start", "()V"⟩ : MethodName)) hown (mvT hZ (hw _ (List.mem_of_getElem? (i := 27) rfl))) (mvT hZ (hw _ (List.mem_of_getElem? (i := 28) rfl))) (notFace_of_selects (args := #[]) (mvT hZ (hw _ (List.mem_of_getElem? (i := 30) rfl)))) (mvT hZ (hw _ (List.mem_of_getElem? (i := 30) rfl))) (mvT hZ (hw _ (List.mem_of_getElem? (i := 29) rfl))) (by decide) (backOf (W := 0) (rm5 l Z a0 hw [] b84 bD bF bS (fun _ => (0 : Int64)) (fun _ => (0 : Int32)) (fun _ => (0 : Int32)) (0 : Int32) (0 : Int32) (1 : Int32) T85.heap n0 Z85 ⟨E85, Fscores85, FscoredFor85, Fscored85, Fquery85, Fcount85, VD85, VF85, VS85⟩ hds hgs (by decide)) hZ (hw _ (List.mem_of_getElem? (i := 31) rfl)) (hw _ (List.mem_of_getElem? (i := 2) rfl)) (by decide) (by decide)) q88a q88c (g := (mkF m 53 #[.val (.int p0), .val (.int p1), .val (.int p2), .val (.int p3), .val (.int p4), .val (.int pa), .val (.int pb), .val (.int pc), .val (.int pe), .val (.ref b84), .val (.ref bS), .val (.ref bD), .unset, .unset, .unset, .unset] [(.ref b84)])) rfl (by rw [hml]; rfl) (Steps.refl _) (argsL := []) (rest := []) (lenOf own_pd3 rfl) rfl (by show 2 * 0 + _ ≤ _; exact Nat.le_of_eq rfl) (hb hby at_53) (fun _ _ => ⟨rfl, e87, (by first | decide | omega : 4 + 0 ≤ _), (by first | decide | omega : 17 + 0 ≤ _)⟩))
  obtain ⟨rfl, N88q, hs88, P88⟩ := hQ88
  refine Done.go st88 ?_
  clear st88
  have N88 := Fr.app N87h N88q
  clear N88q
  have Z88 : n0 ≤ T88.heap.size := Nat.le_trans Z85 hs88
  obtain ⟨Lh88, X88h, N88h⟩ : ∃ L, Stand p l e room_1 s m #[(.int p0), (.int p1), (.int p2), (.int p3), (.int p4)] below meth c T88 L 4 17 ∧ Fr n0 L := ⟨_, X88, N88⟩
  clear X88 N88 X87h e87 N87h Z85
  obtain ⟨E88, Fscores88, FscoredFor88, Fscored88, Fquery88, Fcount88, VD88, VF88, VS88⟩ := id P88
  show Done p e s below _ _ _ T88 (mkF m 56 #[.val (.int p0), .val (.int p1), .val (.int p2), .val (.int p3), .val (.int p4), .val (.int pa), .val (.int pb), .val (.int pc), .val (.int pe), .val (.ref b84), .val (.ref bS), .val (.ref bD), .unset, .unset, .unset, .unset] [])
  refine Done.go (fun _ kt_ => XS.aload X88h.here hx rfl (hb hby at_56) rfl rfl kt_) ?_
  show Done p e s below _ _ _ T88 (mkF m 58 #[.val (.int p0), .val (.int p1), .val (.int p2), .val (.int p3), .val (.int p4), .val (.int pa), .val (.int pb), .val (.int pc), .val (.int pe), .val (.ref b84), .val (.ref bS), .val (.ref bD), .unset, .unset, .unset, .unset] [(.ref b84)])
  refine Done.go (fun _ kt_ => XS.iload X88h.here hx rfl (hb hby at_58) rfl kt_) ?_
  show Done p e s below _ _ _ T88 (mkF m 60 #[.val (.int p0), .val (.int p1), .val (.int p2), .val (.int p3), .val (.int p4), .val (.int pa), .val (.int pb), .val (.int pc), .val (.int pe), .val (.ref b84), .val (.ref bS), .val (.ref bD), .unset, .unset, .unset, .unset] [(.int pa), (.ref b84)])
  refine Done.go (fun _ kt_ => XS.iloadN X88h.here hx rfl (hb hby at_60) rfl kt_) ?_
  show Done p e s below _ _ _ T88 (mkF m 61 #[.val (.int p0), .val (.int p1), .val (.int p2), .val (.int p3), .val (.int p4), .val (.int pa), .val (.int pb), .val (.int pc), .val (.int pe), .val (.ref b84), .val (.ref bS), .val (.ref bD), .unset, .unset, .unset, .unset] [(.int p1), (.int pa), (.ref b84)])
  refine Done.go (fun _ kt_ => XS.i2dS X88h.here hx rfl (hb hby at_61) rfl (i2d_w p1) kt_) ?_
  show Done p e s below _ _ _ T88 (mkF m 62 #[.val (.int p0), .val (.int p1), .val (.int p2), .val (.int p3), .val (.int p4), .val (.int pa), .val (.int pb), .val (.int pc), .val (.int pe), .val (.ref b84), .val (.ref bS), .val (.ref bD), .unset, .unset, .unset, .unset] [(.double (FP.l2d (p1.toInt64))), (.int pa), (.ref b84)])
  obtain ⟨cq89, kq89, q89a, q89b, q89c⟩ := isOf hZ rfl E88
  obtain ⟨v89, T89, Lc89, X89, hQ89, st89⟩ := own_backV (X88h.virtualBack hx (y := (⟨"com/example/pivotwise/pivotwise/retrieval/Scores", "add", "(ID)V"⟩ : MethodName)) (z := (⟨"com/example/pivotwise/pivotwise/retrieval/Scores", "add", "(ID)V"⟩ : MethodName)) hown (mvT hZ (hw _ (List.mem_of_getElem? (i := 36) rfl))) (mvT hZ (hw _ (List.mem_of_getElem? (i := 37) rfl))) (notFace_of_selects (args := #[]) (mvT hZ (hw _ (List.mem_of_getElem? (i := 39) rfl)))) (mvT hZ (hw _ (List.mem_of_getElem? (i := 39) rfl))) (mvT hZ (hw _ (List.mem_of_getElem? (i := 38) rfl))) (by decide) (backOf (W := 0) (rm6n l Z a0 hw [] b84 bD bF bS pa (p1.toInt64) (fun _ => (0 : Int64)) (fun _ => (0 : Int32)) (fun _ => (0 : Int32)) (1 : Int32) (0 : Int32) A 0 (1 : Int32) T88.heap n0 Z88 ⟨E88, Fscores88, FscoredFor88, Fscored88, Fquery88, Fcount88, VD88, VF88, VS88⟩ hds hgs hA hA4 (own_leB (own_leG _) (by decide)) (by decide) (by decide) (by decide) (by decide)) hZ (hw _ (List.mem_of_getElem? (i := 40) rfl)) (hw _ (List.mem_of_getElem? (i := 2) rfl)) (by decide) (by decide)) q89a q89c (g := (mkF m 62 #[.val (.int p0), .val (.int p1), .val (.int p2), .val (.int p3), .val (.int p4), .val (.int pa), .val (.int pb), .val (.int pc), .val (.int pe), .val (.ref b84), .val (.ref bS), .val (.ref bD), .unset, .unset, .unset, .unset] [(.double (FP.l2d (p1.toInt64))), (.int pa), (.ref b84)])) rfl (by rw [hml]; rfl) (Steps.refl _) (argsL := [(.int pa), (.double (FP.l2d (p1.toInt64)))]) (rest := []) (lenOf own_pd4 rfl) rfl (by show 2 * 0 + _ ≤ _; exact Nat.le_of_eq rfl) (hb hby at_62) (fun _ _ => ⟨rfl, rfl, (by first | decide | omega : 4 + 0 ≤ _), (by first | decide | omega : 17 + 0 ≤ _)⟩))
  obtain ⟨rfl, N89q, hs89, P89⟩ := hQ89
  refine Done.go st89 ?_
  clear st89
  have N89 := Fr.app N88h N89q
  clear N89q
  have Z89 : n0 ≤ T89.heap.size := Nat.le_trans Z88 hs89
  obtain ⟨Lh89, X89h, N89h⟩ : ∃ L, Stand p l e room_1 s m #[(.int p0), (.int p1), (.int p2), (.int p3), (.int p4)] below meth c T89 L 4 17 ∧ Fr n0 L := ⟨_, X89, N89⟩
  clear X89 N89 X88h N88h Z88
  obtain ⟨E89, Fscores89, FscoredFor89, Fscored89, Fquery89, Fcount89, VD89, VF89, VS89⟩ := id P89
  by_cases hcs : A = B
  · skip
    have hq1 : pa = pb := own_eqN hA hB hcs
    subst hq1
    subst hcs
    show Done p e s below _ _ _ T89 (mkF m 65 #[.val (.int p0), .val (.int p1), .val (.int p2), .val (.int p3), .val (.int p4), .val (.int pa), .val (.int pa), .val (.int pc), .val (.int pe), .val (.ref b84), .val (.ref bS), .val (.ref bD), .unset, .unset, .unset, .unset] [])
    refine Done.go (fun _ kt_ => XS.aload X89h.here hx rfl (hb hby at_65) rfl rfl kt_) ?_
    show Done p e s below _ _ _ T89 (mkF m 67 #[.val (.int p0), .val (.int p1), .val (.int p2), .val (.int p3), .val (.int p4), .val (.int pa), .val (.int pa), .val (.int pc), .val (.int pe), .val (.ref b84), .val (.ref bS), .val (.ref bD), .unset, .unset, .unset, .unset] [(.ref b84)])
    refine Done.go (fun _ kt_ => XS.iload X89h.here hx rfl (hb hby at_67) rfl kt_) ?_
    show Done p e s below _ _ _ T89 (mkF m 69 #[.val (.int p0), .val (.int p1), .val (.int p2), .val (.int p3), .val (.int p4), .val (.int pa), .val (.int pa), .val (.int pc), .val (.int pe), .val (.ref b84), .val (.ref bS), .val (.ref bD), .unset, .unset, .unset, .unset] [(.int pa), (.ref b84)])
    refine Done.go (fun _ kt_ => XS.iloadN X89h.here hx rfl (hb hby at_69) rfl kt_) ?_
    show Done p e s below _ _ _ T89 (mkF m 70 #[.val (.int p0), .val (.int p1), .val (.int p2), .val (.int p3), .val (.int p4), .val (.int pa), .val (.int pa), .val (.int pc), .val (.int pe), .val (.ref b84), .val (.ref bS), .val (.ref bD), .unset, .unset, .unset, .unset] [(.int p2), (.int pa), (.ref b84)])
    refine Done.go (fun _ kt_ => XS.i2dS X89h.here hx rfl (hb hby at_70) rfl (i2d_w p2) kt_) ?_
    show Done p e s below _ _ _ T89 (mkF m 71 #[.val (.int p0), .val (.int p1), .val (.int p2), .val (.int p3), .val (.int p4), .val (.int pa), .val (.int pa), .val (.int pc), .val (.int pe), .val (.ref b84), .val (.ref bS), .val (.ref bD), .unset, .unset, .unset, .unset] [(.double (FP.l2d (p2.toInt64))), (.int pa), (.ref b84)])
    have hrd : (own_u (fun _ => (0 : Int64)) A (0 + (p1.toInt64))) A = ((0 : Int64) + (p1.toInt64)) := by simp [own_u]
    obtain ⟨cq90, kq90, q90a, q90b, q90c⟩ := isOf hZ rfl E89
    obtain ⟨v90, T90, Lc90, X90, hQ90, st90⟩ := own_backV (X89h.virtualBack hx (y := (⟨"com/example/pivotwise/pivotwise/retrieval/Scores", "add", "(ID)V"⟩ : MethodName)) (z := (⟨"com/example/pivotwise/pivotwise/retrieval/Scores", "add", "(ID)V"⟩ : MethodName)) hown (mvT hZ (hw _ (List.mem_of_getElem? (i := 36) rfl))) (mvT hZ (hw _ (List.mem_of_getElem? (i := 37) rfl))) (notFace_of_selects (args := #[]) (mvT hZ (hw _ (List.mem_of_getElem? (i := 39) rfl)))) (mvT hZ (hw _ (List.mem_of_getElem? (i := 39) rfl))) (mvT hZ (hw _ (List.mem_of_getElem? (i := 38) rfl))) (by decide) (backOf (W := 0) (rm6o l Z a0 hw [] b84 bD bF bS pa (p2.toInt64) (own_u (fun _ => (0 : Int64)) A (0 + (p1.toInt64))) (own_u (fun _ => (0 : Int32)) A (1 : Int32)) (own_u (fun _ => (0 : Int32)) 0 pa) (1 : Int32) (1 : Int32) A T89.heap n0 Z89 ⟨E89, Fscores89, FscoredFor89, Fscored89, Fquery89, Fcount89, VD89, VF89, VS89⟩ hds hgs hA hA4 (own_leB (own_leG _) (by decide)) (by simp [own_u]) (by rw [hrd]; exact (own_leB (own_leA own_le0 (by decide) p1) (by decide)))) hZ (hw _ (List.mem_of_getElem? (i := 40) rfl)) (hw _ (List.mem_of_getElem? (i := 2) rfl)) (by decide) (by decide)) q90a q90c (g := (mkF m 71 #[.val (.int p0), .val (.int p1), .val (.int p2), .val (.int p3), .val (.int p4), .val (.int pa), .val (.int pa), .val (.int pc), .val (.int pe), .val (.ref b84), .val (.ref bS), .val (.ref bD), .unset, .unset, .unset, .unset] [(.double (FP.l2d (p2.toInt64))), (.int pa), (.ref b84)])) rfl (by rw [hml]; rfl) (Steps.refl _) (argsL := [(.int pa), (.double (FP.l2d (p2.toInt64)))]) (rest := []) (lenOf own_pd4 rfl) rfl (by show 2 * 0 + _ ≤ _; exact Nat.le_of_eq rfl) (hb hby at_71) (fun _ _ => ⟨rfl, rfl, (by first | decide | omega : 4 + 0 ≤ _), (by first | decide | omega : 17 + 0 ≤ _)⟩))
    obtain ⟨rfl, N90q, hs90, P90⟩ := hQ90
    refine Done.go st90 ?_
    clear st90
    have N90 := Fr.app N89h N90q
    clear N90q
    rw [hrd] at P90; clear hrd
    have Z90 : n0 ≤ T90.heap.size := Nat.le_trans Z89 hs90
    obtain ⟨Lh90, X90h, N90h⟩ : ∃ L, Stand p l e room_1 s m #[(.int p0), (.int p1), (.int p2), (.int p3), (.int p4)] below meth c T90 L 4 17 ∧ Fr n0 L := ⟨_, X90, N90⟩
    clear X90 N90 X89h N89h Z89
    obtain ⟨E90, Fscores90, FscoredFor90, Fscored90, Fquery90, Fcount90, VD90, VF90, VS90⟩ := id P90
    by_cases hcs : A = Cc
    · skip
      have hq1 : pa = pc := own_eqN hA hCc hcs
      subst hq1
      subst hcs
      show Done p e s below _ _ _ T90 (mkF m 74 #[.val (.int p0), .val (.int p1), .val (.int p2), .val (.int p3), .val (.int p4), .val (.int pa), .val (.int pa), .val (.int pa), .val (.int pe), .val (.ref b84), .val (.ref bS), .val (.ref bD), .unset, .unset, .unset, .unset] [])
      refine Done.go (fun _ kt_ => XS.aload X90h.here hx rfl (hb hby at_74) rfl rfl kt_) ?_
      show Done p e s below _ _ _ T90 (mkF m 76 #[.val (.int p0), .val (.int p1), .val (.int p2), .val (.int p3), .val (.int p4), .val (.int pa), .val (.int pa), .val (.int pa), .val (.int pe), .val (.ref b84), .val (.ref bS), .val (.ref bD), .unset, .unset, .unset, .unset] [(.ref b84)])
      refine Done.go (fun _ kt_ => XS.iload X90h.here hx rfl (hb hby at_76) rfl kt_) ?_
      show Done p e s below _ _ _ T90 (mkF m 78 #[.val (.int p0), .val (.int p1), .val (.int p2), .val (.int p3), .val (.int p4), .val (.int pa), .val (.int pa), .val (.int pa), .val (.int pe), .val (.ref b84), .val (.ref bS), .val (.ref bD), .unset, .unset, .unset, .unset] [(.int pa), (.ref b84)])
      refine Done.go (fun _ kt_ => XS.iloadN X90h.here hx rfl (hb hby at_78) rfl kt_) ?_
      show Done p e s below _ _ _ T90 (mkF m 79 #[.val (.int p0), .val (.int p1), .val (.int p2), .val (.int p3), .val (.int p4), .val (.int pa), .val (.int pa), .val (.int pa), .val (.int pe), .val (.ref b84), .val (.ref bS), .val (.ref bD), .unset, .unset, .unset, .unset] [(.int p3), (.int pa), (.ref b84)])
      refine Done.go (fun _ kt_ => XS.i2dS X90h.here hx rfl (hb hby at_79) rfl (i2d_w p3) kt_) ?_
      show Done p e s below _ _ _ T90 (mkF m 80 #[.val (.int p0), .val (.int p1), .val (.int p2), .val (.int p3), .val (.int p4), .val (.int pa), .val (.int pa), .val (.int pa), .val (.int pe), .val (.ref b84), .val (.ref bS), .val (.ref bD), .unset, .unset, .unset, .unset] [(.double (FP.l2d (p3.toInt64))), (.int pa), (.ref b84)])
      have hrd : (own_u (own_u (fun _ => (0 : Int64)) A (0 + (p1.toInt64))) A (((0 : Int64) + (p1.toInt64)) + (p2.toInt64))) A = (((0 : Int64) + (p1.toInt64)) + (p2.toInt64)) := by simp [own_u]
      obtain ⟨cq91, kq91, q91a, q91b, q91c⟩ := isOf hZ rfl E90
      obtain ⟨v91, T91, Lc91, X91, hQ91, st91⟩ := own_backV (X90h.virtualBack hx (y := (⟨"com/example/pivotwise/pivotwise/retrieval/Scores", "add", "(ID)V"⟩ : MethodName)) (z := (⟨"com/example/pivotwise/pivotwise/retrieval/Scores", "add", "(ID)V"⟩ : MethodName)) hown (mvT hZ (hw _ (List.mem_of_getElem? (i := 36) rfl))) (mvT hZ (hw _ (List.mem_of_getElem? (i := 37) rfl))) (notFace_of_selects (args := #[]) (mvT hZ (hw _ (List.mem_of_getElem? (i := 39) rfl)))) (mvT hZ (hw _ (List.mem_of_getElem? (i := 39) rfl))) (mvT hZ (hw _ (List.mem_of_getElem? (i := 38) rfl))) (by decide) (backOf (W := 0) (rm6o l Z a0 hw [] b84 bD bF bS pa (p3.toInt64) (own_u (own_u (fun _ => (0 : Int64)) A (0 + (p1.toInt64))) A (((0 : Int64) + (p1.toInt64)) + (p2.toInt64))) (own_u (fun _ => (0 : Int32)) A (1 : Int32)) (own_u (fun _ => (0 : Int32)) 0 pa) (1 : Int32) (1 : Int32) A T90.heap n0 Z90 ⟨E90, Fscores90, FscoredFor90, Fscored90, Fquery90, Fcount90, VD90, VF90, VS90⟩ hds hgs hA hA4 (own_leB (own_leG _) (by decide)) (by simp [own_u]) (by rw [hrd]; exact (own_leB (own_leA (own_leA own_le0 (by decide) p1) (by decide) p2) (by decide)))) hZ (hw _ (List.mem_of_getElem? (i := 40) rfl)) (hw _ (List.mem_of_getElem? (i := 2) rfl)) (by decide) (by decide)) q91a q91c (g := (mkF m 80 #[.val (.int p0), .val (.int p1), .val (.int p2), .val (.int p3), .val (.int p4), .val (.int pa), .val (.int pa), .val (.int pa), .val (.int pe), .val (.ref b84), .val (.ref bS), .val (.ref bD), .unset, .unset, .unset, .unset] [(.double (FP.l2d (p3.toInt64))), (.int pa), (.ref b84)])) rfl (by rw [hml]; rfl) (Steps.refl _) (argsL := [(.int pa), (.double (FP.l2d (p3.toInt64)))]) (rest := []) (lenOf own_pd4 rfl) rfl (by show 2 * 0 + _ ≤ _; exact Nat.le_of_eq rfl) (hb hby at_80) (fun _ _ => ⟨rfl, rfl, (by first | decide | omega : 4 + 0 ≤ _), (by first | decide | omega : 17 + 0 ≤ _)⟩))
      obtain ⟨rfl, N91q, hs91, P91⟩ := hQ91
      refine Done.go st91 ?_
      clear st91
      have N91 := Fr.app N90h N91q
      clear N91q
      rw [hrd] at P91; clear hrd
      have Z91 : n0 ≤ T91.heap.size := Nat.le_trans Z90 hs91
      obtain ⟨Lh91, X91h, N91h⟩ : ∃ L, Stand p l e room_1 s m #[(.int p0), (.int p1), (.int p2), (.int p3), (.int p4)] below meth c T91 L 4 17 ∧ Fr n0 L := ⟨_, X91, N91⟩
      clear X91 N91 X90h N90h Z90
      obtain ⟨E91, Fscores91, FscoredFor91, Fscored91, Fquery91, Fcount91, VD91, VF91, VS91⟩ := id P91
      show Done p e s below _ _ _ T91 (mkF m 83 #[.val (.int p0), .val (.int p1), .val (.int p2), .val (.int p3), .val (.int p4), .val (.int pa), .val (.int pa), .val (.int pa), .val (.int pe), .val (.ref b84), .val (.ref bS), .val (.ref bD), .unset, .unset, .unset, .unset] [])
      refine Done.go (fun _ kt_ => XS.iload X91h.here hx rfl (hb hby at_83) rfl kt_) ?_
      show Done p e s below _ _ _ T91 (mkF m 85 #[.val (.int p0), .val (.int p1), .val (.int p2), .val (.int p3), .val (.int p4), .val (.int pa), .val (.int pa), .val (.int pa), .val (.int pe), .val (.ref b84), .val (.ref bS), .val (.ref bD), .unset, .unset, .unset, .unset] [(.int pa)])
      refine Done.go (fun _ kt_ => XS.iload X91h.here hx rfl (hb hby at_85) rfl kt_) ?_
      show Done p e s below _ _ _ T91 (mkF m 87 #[.val (.int p0), .val (.int p1), .val (.int p2), .val (.int p3), .val (.int p4), .val (.int pa), .val (.int pa), .val (.int pa), .val (.int pe), .val (.ref b84), .val (.ref bS), .val (.ref bD), .unset, .unset, .unset, .unset] [(.int pa), (.int pa)])
      refine Done.go (fun _ kt_ => XS.icmpYes X91h.here hx rfl (pc0 := 87) (pc' := 94) rfl (hb hby at_87) rfl (teq rfl).1 (by decide) (by decide) kt_) ?_
      show Done p e s below _ _ _ T91 (mkF m 94 #[.val (.int p0), .val (.int p1), .val (.int p2), .val (.int p3), .val (.int p4), .val (.int pa), .val (.int pa), .val (.int pa), .val (.int pe), .val (.ref b84), .val (.ref bS), .val (.ref bD), .unset, .unset, .unset, .unset] [])
      refine Done.go (fun _ kt_ => XS.iconst X91h.here hx rfl (hb hby at_94) kt_) ?_
      show Done p e s below _ _ _ T91 (mkF m 95 #[.val (.int p0), .val (.int p1), .val (.int p2), .val (.int p3), .val (.int p4), .val (.int pa), .val (.int pa), .val (.int pa), .val (.int pe), .val (.ref b84), .val (.ref bS), .val (.ref bD), .unset, .unset, .unset, .unset] [(.int (0 : Int32))])
      refine Done.go (fun _ kt_ => XS.istore X91h.here hx rfl (hb hby at_95) rfl (l' := #[.val (.int p0), .val (.int p1), .val (.int p2), .val (.int p3), .val (.int p4), .val (.int pa), .val (.int pa), .val (.int pa), .val (.int pe), .val (.ref b84), .val (.ref bS), .val (.ref bD), .val (.int (0 : Int32)), .unset, .unset, .unset]) rfl kt_) ?_
      show Done p e s below _ _ _ T91 (mkF m 97 #[.val (.int p0), .val (.int p1), .val (.int p2), .val (.int p3), .val (.int p4), .val (.int pa), .val (.int pa), .val (.int pa), .val (.int pe), .val (.ref b84), .val (.ref bS), .val (.ref bD), .val (.int (0 : Int32)), .unset, .unset, .unset] [])
      refine Done.go (fun _ kt_ => XS.iload X91h.here hx rfl (hb hby at_97) rfl kt_) ?_
      show Done p e s below _ _ _ T91 (mkF m 99 #[.val (.int p0), .val (.int p1), .val (.int p2), .val (.int p3), .val (.int p4), .val (.int pa), .val (.int pa), .val (.int pa), .val (.int pe), .val (.ref b84), .val (.ref bS), .val (.ref bD), .val (.int (0 : Int32)), .unset, .unset, .unset] [(.int pa)])
      refine Done.go (fun _ kt_ => XS.iload X91h.here hx rfl (hb hby at_99) rfl kt_) ?_
      show Done p e s below _ _ _ T91 (mkF m 101 #[.val (.int p0), .val (.int p1), .val (.int p2), .val (.int p3), .val (.int p4), .val (.int pa), .val (.int pa), .val (.int pa), .val (.int pe), .val (.ref b84), .val (.ref bS), .val (.ref bD), .val (.int (0 : Int32)), .unset, .unset, .unset] [(.int pa), (.int pa)])
      refine Done.go (fun _ kt_ => XS.icmpYes X91h.here hx rfl (pc0 := 101) (pc' := 115) rfl (hb hby at_101) rfl (teq rfl).1 (by decide) (by decide) kt_) ?_
      show Done p e s below _ _ _ T91 (mkF m 115 #[.val (.int p0), .val (.int p1), .val (.int p2), .val (.int p3), .val (.int p4), .val (.int pa), .val (.int pa), .val (.int pa), .val (.int pe), .val (.ref b84), .val (.ref bS), .val (.ref bD), .val (.int (0 : Int32)), .unset, .unset, .unset] [])
      refine Done.go (fun _ kt_ => XS.iconst X91h.here hx rfl (hb hby at_115) kt_) ?_
      show Done p e s below _ _ _ T91 (mkF m 116 #[.val (.int p0), .val (.int p1), .val (.int p2), .val (.int p3), .val (.int p4), .val (.int pa), .val (.int pa), .val (.int pa), .val (.int pe), .val (.ref b84), .val (.ref bS), .val (.ref bD), .val (.int (0 : Int32)), .unset, .unset, .unset] [(.int (0 : Int32))])
      refine Done.go (fun _ kt_ => XS.istore X91h.here hx rfl (hb hby at_116) rfl (l' := #[.val (.int p0), .val (.int p1), .val (.int p2), .val (.int p3), .val (.int p4), .val (.int pa), .val (.int pa), .val (.int pa), .val (.int pe), .val (.ref b84), .val (.ref bS), .val (.ref bD), .val (.int (0 : Int32)), .val (.int (0 : Int32)), .unset, .unset]) rfl kt_) ?_
      show Done p e s below _ _ _ T91 (mkF m 118 #[.val (.int p0), .val (.int p1), .val (.int p2), .val (.int p3), .val (.int p4), .val (.int pa), .val (.int pa), .val (.int pa), .val (.int pe), .val (.ref b84), .val (.ref bS), .val (.ref bD), .val (.int (0 : Int32)), .val (.int (0 : Int32)), .unset, .unset] [])
      refine Done.go (fun _ kt_ => XS.iconst X91h.here hx rfl (hb hby at_118) kt_) ?_
      show Done p e s below _ _ _ T91 (mkF m 119 #[.val (.int p0), .val (.int p1), .val (.int p2), .val (.int p3), .val (.int p4), .val (.int pa), .val (.int pa), .val (.int pa), .val (.int pe), .val (.ref b84), .val (.ref bS), .val (.ref bD), .val (.int (0 : Int32)), .val (.int (0 : Int32)), .unset, .unset] [(.int (1 : Int32))])
      refine Done.go (fun _ kt_ => XS.iload X91h.here hx rfl (hb hby at_119) rfl kt_) ?_
      show Done p e s below _ _ _ T91 (mkF m 121 #[.val (.int p0), .val (.int p1), .val (.int p2), .val (.int p3), .val (.int p4), .val (.int pa), .val (.int pa), .val (.int pa), .val (.int pe), .val (.ref b84), .val (.ref bS), .val (.ref bD), .val (.int (0 : Int32)), .val (.int (0 : Int32)), .unset, .unset] [(.int (0 : Int32)), (.int (1 : Int32))])
      refine Done.go (fun _ kt_ => XS.ifYes X91h.here hx rfl (pc0 := 121) (pc' := 128) rfl (hb hby at_121) rfl ((if0 _ _).trans (teq (by decide)).1) (by decide) (by decide) kt_) ?_
      show Done p e s below _ _ _ T91 (mkF m 128 #[.val (.int p0), .val (.int p1), .val (.int p2), .val (.int p3), .val (.int p4), .val (.int pa), .val (.int pa), .val (.int pa), .val (.int pe), .val (.ref b84), .val (.ref bS), .val (.ref bD), .val (.int (0 : Int32)), .val (.int (0 : Int32)), .unset, .unset] [(.int (1 : Int32))])
      refine Done.go (fun _ kt_ => XS.iconst X91h.here hx rfl (hb hby at_128) kt_) ?_
      show Done p e s below _ _ _ T91 (mkF m 129 #[.val (.int p0), .val (.int p1), .val (.int p2), .val (.int p3), .val (.int p4), .val (.int pa), .val (.int pa), .val (.int pa), .val (.int pe), .val (.ref b84), .val (.ref bS), .val (.ref bD), .val (.int (0 : Int32)), .val (.int (0 : Int32)), .unset, .unset] [(.int (0 : Int32)), (.int (1 : Int32))])
      refine Done.go (fun _ kt_ => XS.iadd X91h.here hx rfl (hb hby at_129) rfl kt_) ?_
      show Done p e s below _ _ _ T91 (mkF m 130 #[.val (.int p0), .val (.int p1), .val (.int p2), .val (.int p3), .val (.int p4), .val (.int pa), .val (.int pa), .val (.int pa), .val (.int pe), .val (.ref b84), .val (.ref bS), .val (.ref bD), .val (.int (0 : Int32)), .val (.int (0 : Int32)), .unset, .unset] [(.int ((1 : Int32) + (0 : Int32)))])
      rw [show ((1 : Int32) + (0 : Int32)) = (1 : Int32) from by decide]
      show Done p e s below _ _ _ T91 (mkF m 130 #[.val (.int p0), .val (.int p1), .val (.int p2), .val (.int p3), .val (.int p4), .val (.int pa), .val (.int pa), .val (.int pa), .val (.int pe), .val (.ref b84), .val (.ref bS), .val (.ref bD), .val (.int (0 : Int32)), .val (.int (0 : Int32)), .unset, .unset] [(.int (1 : Int32))])
      refine Done.go (fun _ kt_ => XS.iload X91h.here hx rfl (hb hby at_130) rfl kt_) ?_
      show Done p e s below _ _ _ T91 (mkF m 132 #[.val (.int p0), .val (.int p1), .val (.int p2), .val (.int p3), .val (.int p4), .val (.int pa), .val (.int pa), .val (.int pa), .val (.int pe), .val (.ref b84), .val (.ref bS), .val (.ref bD), .val (.int (0 : Int32)), .val (.int (0 : Int32)), .unset, .unset] [(.int (0 : Int32)), (.int (1 : Int32))])
      refine Done.go (fun _ kt_ => XS.ifYes X91h.here hx rfl (pc0 := 132) (pc' := 139) rfl (hb hby at_132) rfl ((if0 _ _).trans (teq (by decide)).1) (by decide) (by decide) kt_) ?_
      show Done p e s below _ _ _ T91 (mkF m 139 #[.val (.int p0), .val (.int p1), .val (.int p2), .val (.int p3), .val (.int p4), .val (.int pa), .val (.int pa), .val (.int pa), .val (.int pe), .val (.ref b84), .val (.ref bS), .val (.ref bD), .val (.int (0 : Int32)), .val (.int (0 : Int32)), .unset, .unset] [(.int (1 : Int32))])
      refine Done.go (fun _ kt_ => XS.iconst X91h.here hx rfl (hb hby at_139) kt_) ?_
      show Done p e s below _ _ _ T91 (mkF m 140 #[.val (.int p0), .val (.int p1), .val (.int p2), .val (.int p3), .val (.int p4), .val (.int pa), .val (.int pa), .val (.int pa), .val (.int pe), .val (.ref b84), .val (.ref bS), .val (.ref bD), .val (.int (0 : Int32)), .val (.int (0 : Int32)), .unset, .unset] [(.int (0 : Int32)), (.int (1 : Int32))])
      refine Done.go (fun _ kt_ => XS.iadd X91h.here hx rfl (hb hby at_140) rfl kt_) ?_
      show Done p e s below _ _ _ T91 (mkF m 141 #[.val (.int p0), .val (.int p1), .val (.int p2), .val (.int p3), .val (.int p4), .val (.int pa), .val (.int pa), .val (.int pa), .val (.int pe), .val (.ref b84), .val (.ref bS), .val (.ref bD), .val (.int (0 : Int32)), .val (.int (0 : Int32)), .unset, .unset] [(.int ((1 : Int32) + (0 : Int32)))])
      rw [show ((1 : Int32) + (0 : Int32)) = (1 : Int32) from by decide]
      show Done p e s below _ _ _ T91 (mkF m 141 #[.val (.int p0), .val (.int p1), .val (.int p2), .val (.int p3), .val (.int p4), .val (.int pa), .val (.int pa), .val (.int pa), .val (.int pe), .val (.ref b84), .val (.ref bS), .val (.ref bD), .val (.int (0 : Int32)), .val (.int (0 : Int32)), .unset, .unset] [(.int (1 : Int32))])
      refine Done.go (fun _ kt_ => XS.istore X91h.here hx rfl (hb hby at_141) rfl (l' := #[.val (.int p0), .val (.int p1), .val (.int p2), .val (.int p3), .val (.int p4), .val (.int pa), .val (.int pa), .val (.int pa), .val (.int pe), .val (.ref b84), .val (.ref bS), .val (.ref bD), .val (.int (0 : Int32)), .val (.int (0 : Int32)), .val (.int (1 : Int32)), .unset]) rfl kt_) ?_
      show Done p e s below _ _ _ T91 (mkF m 143 #[.val (.int p0), .val (.int p1), .val (.int p2), .val (.int p3), .val (.int p4), .val (.int pa), .val (.int pa), .val (.int pa), .val (.int pe), .val (.ref b84), .val (.ref bS), .val (.ref bD), .val (.int (0 : Int32)), .val (.int (0 : Int32)), .val (.int (1 : Int32)), .unset] [])
      refine Done.go (fun _ kt_ => XS.aload X91h.here hx rfl (hb hby at_143) rfl rfl kt_) ?_
      show Done p e s below _ _ _ T91 (mkF m 145 #[.val (.int p0), .val (.int p1), .val (.int p2), .val (.int p3), .val (.int p4), .val (.int pa), .val (.int pa), .val (.int pa), .val (.int pe), .val (.ref b84), .val (.ref bS), .val (.ref bD), .val (.int (0 : Int32)), .val (.int (0 : Int32)), .val (.int (1 : Int32)), .unset] [(.ref b84)])
      obtain ⟨cq92, kq92, q92a, q92b, q92c⟩ := isOf hZ rfl E91
      obtain ⟨v92, T92, Lc92, X92, hQ92, st92⟩ := own_backV (X91h.virtualBack hx (y := (⟨"com/example/pivotwise/pivotwise/retrieval/Scores", "count", "()I"⟩ : MethodName)) (z := (⟨"com/example/pivotwise/pivotwise/retrieval/Scores", "count", "()I"⟩ : MethodName)) hown (mvT hZ (hw _ (List.mem_of_getElem? (i := 41) rfl))) (mvT hZ (hw _ (List.mem_of_getElem? (i := 42) rfl))) (notFace_of_selects (args := #[]) (mvT hZ (hw _ (List.mem_of_getElem? (i := 44) rfl)))) (mvT hZ (hw _ (List.mem_of_getElem? (i := 44) rfl))) (mvT hZ (hw _ (List.mem_of_getElem? (i := 43) rfl))) (by decide) (backOf (W := 0) (rm7 l Z a0 hw [] b84 (1 : Int32) T91.heap n0 Z91 Fcount91) hZ (hw _ (List.mem_of_getElem? (i := 45) rfl)) (hw _ (List.mem_of_getElem? (i := 2) rfl)) (by decide) (by decide)) q92a q92c (g := (mkF m 145 #[.val (.int p0), .val (.int p1), .val (.int p2), .val (.int p3), .val (.int p4), .val (.int pa), .val (.int pa), .val (.int pa), .val (.int pe), .val (.ref b84), .val (.ref bS), .val (.ref bD), .val (.int (0 : Int32)), .val (.int (0 : Int32)), .val (.int (1 : Int32)), .unset] [(.ref b84)])) rfl (by rw [hml]; rfl) (Steps.refl _) (argsL := []) (rest := []) (lenOf own_pd5 rfl) rfl (by show 2 * 0 + _ ≤ _; exact Nat.le_of_eq rfl) (hb hby at_145) (fun _ _ => ⟨rfl, rfl, (by first | decide | omega : 4 + 0 ≤ _), (by first | decide | omega : 17 + 0 ≤ _)⟩))
      obtain ⟨rfl, N92q, e92⟩ := hQ92
      refine Done.go st92 ?_
      clear st92
      have N92 := Fr.app N91h N92q
      clear N92q
      obtain ⟨Lh92, X92h, N92h⟩ : ∃ L, Stand p l e room_1 s m #[(.int p0), (.int p1), (.int p2), (.int p3), (.int p4)] below meth c T92 L 4 17 ∧ Fr n0 L := ⟨_, X92, N92⟩
      clear X92 N92 X91h N91h
      show Done p e s below _ _ _ T92 (mkF m 148 #[.val (.int p0), .val (.int p1), .val (.int p2), .val (.int p3), .val (.int p4), .val (.int pa), .val (.int pa), .val (.int pa), .val (.int pe), .val (.ref b84), .val (.ref bS), .val (.ref bD), .val (.int (0 : Int32)), .val (.int (0 : Int32)), .val (.int (1 : Int32)), .unset] [(.int (1 : Int32))])
      refine Done.go (fun _ kt_ => XS.iload X92h.here hx rfl (hb hby at_148) rfl kt_) ?_
      show Done p e s below _ _ _ T92 (mkF m 150 #[.val (.int p0), .val (.int p1), .val (.int p2), .val (.int p3), .val (.int p4), .val (.int pa), .val (.int pa), .val (.int pa), .val (.int pe), .val (.ref b84), .val (.ref bS), .val (.ref bD), .val (.int (0 : Int32)), .val (.int (0 : Int32)), .val (.int (1 : Int32)), .unset] [(.int (1 : Int32)), (.int (1 : Int32))])
      refine Done.go (fun _ kt_ => XS.icmpNo X92h.here hx rfl (hb hby at_150) rfl (teq (by decide)).2 kt_) ?_
      show Done p e s below _ _ _ T92 (mkF m 153 #[.val (.int p0), .val (.int p1), .val (.int p2), .val (.int p3), .val (.int p4), .val (.int pa), .val (.int pa), .val (.int pa), .val (.int pe), .val (.ref b84), .val (.ref bS), .val (.ref bD), .val (.int (0 : Int32)), .val (.int (0 : Int32)), .val (.int (1 : Int32)), .unset] [])
      refine Done.go (fun _ kt_ => XS.aload X92h.here hx rfl (hb hby at_153) rfl rfl kt_) ?_
      show Done p e s below _ _ _ T92 (mkF m 155 #[.val (.int p0), .val (.int p1), .val (.int p2), .val (.int p3), .val (.int p4), .val (.int pa), .val (.int pa), .val (.int pa), .val (.int pe), .val (.ref b84), .val (.ref bS), .val (.ref bD), .val (.int (0 : Int32)), .val (.int (0 : Int32)), .val (.int (1 : Int32)), .unset] [(.ref bS)])
      refine Done.go (fun _ kt_ => XS.iconst X92h.here hx rfl (hb hby at_155) kt_) ?_
      show Done p e s below _ _ _ T92 (mkF m 156 #[.val (.int p0), .val (.int p1), .val (.int p2), .val (.int p3), .val (.int p4), .val (.int pa), .val (.int pa), .val (.int pa), .val (.int pe), .val (.ref b84), .val (.ref bS), .val (.ref bD), .val (.int (0 : Int32)), .val (.int (0 : Int32)), .val (.int (1 : Int32)), .unset] [(.int (0 : Int32)), (.ref bS)])
      refine Done.ldI X92h hx hZ e92 VS91 (j := (0 : Int32)) (w := pa) 0 (by decide) rfl (by decide) rfl (hb hby at_156) ?_
      show Done p e s below _ _ _ T92 (mkF m 157 #[.val (.int p0), .val (.int p1), .val (.int p2), .val (.int p3), .val (.int p4), .val (.int pa), .val (.int pa), .val (.int pa), .val (.int pe), .val (.ref b84), .val (.ref bS), .val (.ref bD), .val (.int (0 : Int32)), .val (.int (0 : Int32)), .val (.int (1 : Int32)), .unset] [(.int pa)])
      refine Done.go (fun _ kt_ => XS.iload X92h.here hx rfl (hb hby at_157) rfl kt_) ?_
      show Done p e s below _ _ _ T92 (mkF m 159 #[.val (.int p0), .val (.int p1), .val (.int p2), .val (.int p3), .val (.int p4), .val (.int pa), .val (.int pa), .val (.int pa), .val (.int pe), .val (.ref b84), .val (.ref bS), .val (.ref bD), .val (.int (0 : Int32)), .val (.int (0 : Int32)), .val (.int (1 : Int32)), .unset] [(.int pa), (.int pa)])
      refine Done.go (fun _ kt_ => XS.icmpNo X92h.here hx rfl (hb hby at_159) rfl (teq rfl).2 kt_) ?_
      show Done p e s below _ _ _ T92 (mkF m 162 #[.val (.int p0), .val (.int p1), .val (.int p2), .val (.int p3), .val (.int p4), .val (.int pa), .val (.int pa), .val (.int pa), .val (.int pe), .val (.ref b84), .val (.ref bS), .val (.ref bD), .val (.int (0 : Int32)), .val (.int (0 : Int32)), .val (.int (1 : Int32)), .unset] [])
      refine Done.go (fun _ kt_ => XS.iconst X92h.here hx rfl (hb hby at_162) kt_) ?_
      show Done p e s below _ _ _ T92 (mkF m 163 #[.val (.int p0), .val (.int p1), .val (.int p2), .val (.int p3), .val (.int p4), .val (.int pa), .val (.int pa), .val (.int pa), .val (.int pe), .val (.ref b84), .val (.ref bS), .val (.ref bD), .val (.int (0 : Int32)), .val (.int (0 : Int32)), .val (.int (1 : Int32)), .unset] [(.int (1 : Int32))])
      refine Done.go (fun _ kt_ => XS.goto X92h.here hx rfl (pc0 := 163) (pc' := 167) rfl (hb hby at_163) (by decide) (by decide) kt_) ?_
      show Done p e s below _ _ _ T92 (mkF m 167 #[.val (.int p0), .val (.int p1), .val (.int p2), .val (.int p3), .val (.int p4), .val (.int pa), .val (.int pa), .val (.int pa), .val (.int pe), .val (.ref b84), .val (.ref bS), .val (.ref bD), .val (.int (0 : Int32)), .val (.int (0 : Int32)), .val (.int (1 : Int32)), .unset] [(.int (1 : Int32))])
      refine Done.go (fun _ kt_ => XS.istore X92h.here hx rfl (hb hby at_167) rfl (l' := #[.val (.int p0), .val (.int p1), .val (.int p2), .val (.int p3), .val (.int p4), .val (.int pa), .val (.int pa), .val (.int pa), .val (.int pe), .val (.ref b84), .val (.ref bS), .val (.ref bD), .val (.int (0 : Int32)), .val (.int (0 : Int32)), .val (.int (1 : Int32)), .val (.int (1 : Int32))]) rfl kt_) ?_
      show Done p e s below _ _ _ T92 (mkF m 169 #[.val (.int p0), .val (.int p1), .val (.int p2), .val (.int p3), .val (.int p4), .val (.int pa), .val (.int pa), .val (.int pa), .val (.int pe), .val (.ref b84), .val (.ref bS), .val (.ref bD), .val (.int (0 : Int32)), .val (.int (0 : Int32)), .val (.int (1 : Int32)), .val (.int (1 : Int32))] [])
      refine Done.go (fun _ kt_ => XS.iload X92h.here hx rfl (hb hby at_169) rfl kt_) ?_
      show Done p e s below _ _ _ T92 (mkF m 171 #[.val (.int p0), .val (.int p1), .val (.int p2), .val (.int p3), .val (.int p4), .val (.int pa), .val (.int pa), .val (.int pa), .val (.int pe), .val (.ref b84), .val (.ref bS), .val (.ref bD), .val (.int (0 : Int32)), .val (.int (0 : Int32)), .val (.int (1 : Int32)), .val (.int (1 : Int32))] [(.int (1 : Int32))])
      refine Done.go (fun _ kt_ => XS.iconst X92h.here hx rfl (hb hby at_171) kt_) ?_
      show Done p e s below _ _ _ T92 (mkF m 172 #[.val (.int p0), .val (.int p1), .val (.int p2), .val (.int p3), .val (.int p4), .val (.int pa), .val (.int pa), .val (.int pa), .val (.int pe), .val (.ref b84), .val (.ref bS), .val (.ref bD), .val (.int (0 : Int32)), .val (.int (0 : Int32)), .val (.int (1 : Int32)), .val (.int (1 : Int32))] [(.int (2 : Int32)), (.int (1 : Int32))])
      refine Done.go (fun _ kt_ => XS.icmpYes X92h.here hx rfl (pc0 := 172) (pc' := 206) rfl (hb hby at_172) rfl (tlt (by decide)).1 (by decide) (by decide) kt_) ?_
      show Done p e s below _ _ _ T92 (mkF m 206 #[.val (.int p0), .val (.int p1), .val (.int p2), .val (.int p3), .val (.int p4), .val (.int pa), .val (.int pa), .val (.int pa), .val (.int pe), .val (.ref b84), .val (.ref bS), .val (.ref bD), .val (.int (0 : Int32)), .val (.int (0 : Int32)), .val (.int (1 : Int32)), .val (.int (1 : Int32))] [])
      refine Done.go (fun _ kt_ => XS.iload X92h.here hx rfl (hb hby at_206) rfl kt_) ?_
      show Done p e s below _ _ _ T92 (mkF m 208 #[.val (.int p0), .val (.int p1), .val (.int p2), .val (.int p3), .val (.int p4), .val (.int pa), .val (.int pa), .val (.int pa), .val (.int pe), .val (.ref b84), .val (.ref bS), .val (.ref bD), .val (.int (0 : Int32)), .val (.int (0 : Int32)), .val (.int (1 : Int32)), .val (.int (1 : Int32))] [(.int (1 : Int32))])
      refine Done.go (fun _ kt_ => XS.iconst X92h.here hx rfl (hb hby at_208) kt_) ?_
      show Done p e s below _ _ _ T92 (mkF m 209 #[.val (.int p0), .val (.int p1), .val (.int p2), .val (.int p3), .val (.int p4), .val (.int pa), .val (.int pa), .val (.int pa), .val (.int pe), .val (.ref b84), .val (.ref bS), .val (.ref bD), .val (.int (0 : Int32)), .val (.int (0 : Int32)), .val (.int (1 : Int32)), .val (.int (1 : Int32))] [(.int (3 : Int32)), (.int (1 : Int32))])
      refine Done.go (fun _ kt_ => XS.icmpYes X92h.here hx rfl (pc0 := 209) (pc' := 233) rfl (hb hby at_209) rfl (feq (by decide)).2 (by decide) (by decide) kt_) ?_
      show Done p e s below _ _ _ T92 (mkF m 233 #[.val (.int p0), .val (.int p1), .val (.int p2), .val (.int p3), .val (.int p4), .val (.int pa), .val (.int pa), .val (.int pa), .val (.int pe), .val (.ref b84), .val (.ref bS), .val (.ref bD), .val (.int (0 : Int32)), .val (.int (0 : Int32)), .val (.int (1 : Int32)), .val (.int (1 : Int32))] [])
      refine Done.go (fun _ kt_ => XS.iload X92h.here hx rfl (hb hby at_233) rfl kt_) ?_
      show Done p e s below _ _ _ T92 (mkF m 235 #[.val (.int p0), .val (.int p1), .val (.int p2), .val (.int p3), .val (.int p4), .val (.int pa), .val (.int pa), .val (.int pa), .val (.int pe), .val (.ref b84), .val (.ref bS), .val (.ref bD), .val (.int (0 : Int32)), .val (.int (0 : Int32)), .val (.int (1 : Int32)), .val (.int (1 : Int32))] [(.int (1 : Int32))])
      refine Done.go (fun _ kt_ => XS.ifNo X92h.here hx rfl (hb hby at_235) rfl ((if0 _ _).trans (feq (by decide)).1) kt_) ?_
      show Done p e s below _ _ _ T92 (mkF m 238 #[.val (.int p0), .val (.int p1), .val (.int p2), .val (.int p3), .val (.int p4), .val (.int pa), .val (.int pa), .val (.int pa), .val (.int pe), .val (.ref b84), .val (.ref bS), .val (.ref bD), .val (.int (0 : Int32)), .val (.int (0 : Int32)), .val (.int (1 : Int32)), .val (.int (1 : Int32))] [])
      refine Done.go (fun _ kt_ => XS.aload X92h.here hx rfl (hb hby at_238) rfl rfl kt_) ?_
      show Done p e s below _ _ _ T92 (mkF m 240 #[.val (.int p0), .val (.int p1), .val (.int p2), .val (.int p3), .val (.int p4), .val (.int pa), .val (.int pa), .val (.int pa), .val (.int pe), .val (.ref b84), .val (.ref bS), .val (.ref bD), .val (.int (0 : Int32)), .val (.int (0 : Int32)), .val (.int (1 : Int32)), .val (.int (1 : Int32))] [(.ref bD)])
      refine Done.go (fun _ kt_ => XS.iload X92h.here hx rfl (hb hby at_240) rfl kt_) ?_
      show Done p e s below _ _ _ T92 (mkF m 242 #[.val (.int p0), .val (.int p1), .val (.int p2), .val (.int p3), .val (.int p4), .val (.int pa), .val (.int pa), .val (.int pa), .val (.int pe), .val (.ref b84), .val (.ref bS), .val (.ref bD), .val (.int (0 : Int32)), .val (.int (0 : Int32)), .val (.int (1 : Int32)), .val (.int (1 : Int32))] [(.int pa), (.ref bD)])
      refine Done.ldD X92h hx hZ e92 VD91 (j := pa) (y := ((((0 : Int64) + (p1.toInt64)) + (p2.toInt64)) + (p3.toInt64))) A (own_ix hA).1 (own_ix hA).2 hA4 (by simp [own_u]) (hb hby at_242) ?_
      show Done p e s below _ _ _ T92 (mkF m 243 #[.val (.int p0), .val (.int p1), .val (.int p2), .val (.int p3), .val (.int p4), .val (.int pa), .val (.int pa), .val (.int pa), .val (.int pe), .val (.ref b84), .val (.ref bS), .val (.ref bD), .val (.int (0 : Int32)), .val (.int (0 : Int32)), .val (.int (1 : Int32)), .val (.int (1 : Int32))] [(.double (FP.l2d ((((0 : Int64) + (p1.toInt64)) + (p2.toInt64)) + (p3.toInt64))))])
      refine Done.go (fun _ kt_ => XS.iload X92h.here hx rfl (hb hby at_243) rfl kt_) ?_
      show Done p e s below _ _ _ T92 (mkF m 245 #[.val (.int p0), .val (.int p1), .val (.int p2), .val (.int p3), .val (.int p4), .val (.int pa), .val (.int pa), .val (.int pa), .val (.int pe), .val (.ref b84), .val (.ref bS), .val (.ref bD), .val (.int (0 : Int32)), .val (.int (0 : Int32)), .val (.int (1 : Int32)), .val (.int (1 : Int32))] [(.int pa), (.double (FP.l2d ((((0 : Int64) + (p1.toInt64)) + (p2.toInt64)) + (p3.toInt64))))])
      refine Done.go (fun _ kt_ => XS.iload X92h.here hx rfl (hb hby at_245) rfl kt_) ?_
      show Done p e s below _ _ _ T92 (mkF m 247 #[.val (.int p0), .val (.int p1), .val (.int p2), .val (.int p3), .val (.int p4), .val (.int pa), .val (.int pa), .val (.int pa), .val (.int pe), .val (.ref b84), .val (.ref bS), .val (.ref bD), .val (.int (0 : Int32)), .val (.int (0 : Int32)), .val (.int (1 : Int32)), .val (.int (1 : Int32))] [(.int pa), (.int pa), (.double (FP.l2d ((((0 : Int64) + (p1.toInt64)) + (p2.toInt64)) + (p3.toInt64))))])
      refine Done.go (fun _ kt_ => XS.iload X92h.here hx rfl (hb hby at_247) rfl kt_) ?_
      show Done p e s below _ _ _ T92 (mkF m 249 #[.val (.int p0), .val (.int p1), .val (.int p2), .val (.int p3), .val (.int p4), .val (.int pa), .val (.int pa), .val (.int pa), .val (.int pe), .val (.ref b84), .val (.ref bS), .val (.ref bD), .val (.int (0 : Int32)), .val (.int (0 : Int32)), .val (.int (1 : Int32)), .val (.int (1 : Int32))] [(.int pa), (.int pa), (.int pa), (.double (FP.l2d ((((0 : Int64) + (p1.toInt64)) + (p2.toInt64)) + (p3.toInt64))))])
      refine Done.go (fun _ kt_ => XS.iload X92h.here hx rfl (hb hby at_249) rfl kt_) ?_
      show Done p e s below _ _ _ T92 (mkF m 251 #[.val (.int p0), .val (.int p1), .val (.int p2), .val (.int p3), .val (.int p4), .val (.int pa), .val (.int pa), .val (.int pa), .val (.int pe), .val (.ref b84), .val (.ref bS), .val (.ref bD), .val (.int (0 : Int32)), .val (.int (0 : Int32)), .val (.int (1 : Int32)), .val (.int (1 : Int32))] [(.int pa), (.int pa), (.int pa), (.int pa), (.double (FP.l2d ((((0 : Int64) + (p1.toInt64)) + (p2.toInt64)) + (p3.toInt64))))])
      refine Done.go (fun _ kt_ => XS.iloadN X92h.here hx rfl (hb hby at_251) rfl kt_) ?_
      show Done p e s below _ _ _ T92 (mkF m 252 #[.val (.int p0), .val (.int p1), .val (.int p2), .val (.int p3), .val (.int p4), .val (.int pa), .val (.int pa), .val (.int pa), .val (.int pe), .val (.ref b84), .val (.ref bS), .val (.ref bD), .val (.int (0 : Int32)), .val (.int (0 : Int32)), .val (.int (1 : Int32)), .val (.int (1 : Int32))] [(.int p1), (.int pa), (.int pa), (.int pa), (.int pa), (.double (FP.l2d ((((0 : Int64) + (p1.toInt64)) + (p2.toInt64)) + (p3.toInt64))))])
      refine Done.go (fun _ kt_ => XS.iloadN X92h.here hx rfl (hb hby at_252) rfl kt_) ?_
      show Done p e s below _ _ _ T92 (mkF m 253 #[.val (.int p0), .val (.int p1), .val (.int p2), .val (.int p3), .val (.int p4), .val (.int pa), .val (.int pa), .val (.int pa), .val (.int pe), .val (.ref b84), .val (.ref bS), .val (.ref bD), .val (.int (0 : Int32)), .val (.int (0 : Int32)), .val (.int (1 : Int32)), .val (.int (1 : Int32))] [(.int p2), (.int p1), (.int pa), (.int pa), (.int pa), (.int pa), (.double (FP.l2d ((((0 : Int64) + (p1.toInt64)) + (p2.toInt64)) + (p3.toInt64))))])
      refine Done.go (fun _ kt_ => XS.iloadN X92h.here hx rfl (hb hby at_253) rfl kt_) ?_
      show Done p e s below _ _ _ T92 (mkF m 254 #[.val (.int p0), .val (.int p1), .val (.int p2), .val (.int p3), .val (.int p4), .val (.int pa), .val (.int pa), .val (.int pa), .val (.int pe), .val (.ref b84), .val (.ref bS), .val (.ref bD), .val (.int (0 : Int32)), .val (.int (0 : Int32)), .val (.int (1 : Int32)), .val (.int (1 : Int32))] [(.int p3), (.int p2), (.int p1), (.int pa), (.int pa), (.int pa), (.int pa), (.double (FP.l2d ((((0 : Int64) + (p1.toInt64)) + (p2.toInt64)) + (p3.toInt64))))])
      obtain ⟨v93, T93, Lc93, X93, hQ93, st93⟩ := own_backG (Jvm.LawKit.callS X92h hx (y := (⟨"com/example/pivotwise/pivotwise/retrieval/ScoresAddPinLaw", "sum", "(IIIIIII)D"⟩ : MethodName)) hown (mvT hZ (hw _ (List.mem_of_getElem? (i := 46) rfl))) (mvT hZ (hw _ (List.mem_of_getElem? (i := 47) rfl))) (mvT hZ (hw _ (List.mem_of_getElem? (i := 48) rfl))) (mvT hZ (hw _ (List.mem_of_getElem? (i := 49) rfl))) (by decide) (backOf (W := 2) (rm8 l Z a0 hw [] pa pa pa pa p1 p2 p3 T91.heap n0 Z91) hZ (hw _ (List.mem_of_getElem? (i := 49) rfl)) (hw _ (List.mem_of_getElem? (i := 48) rfl)) (by decide) (by decide)) (g := (mkF m 254 #[.val (.int p0), .val (.int p1), .val (.int p2), .val (.int p3), .val (.int p4), .val (.int pa), .val (.int pa), .val (.int pa), .val (.int pe), .val (.ref b84), .val (.ref bS), .val (.ref bD), .val (.int (0 : Int32)), .val (.int (0 : Int32)), .val (.int (1 : Int32)), .val (.int (1 : Int32))] [(.int p3), (.int p2), (.int p1), (.int pa), (.int pa), (.int pa), (.int pa), (.double (FP.l2d ((((0 : Int64) + (p1.toInt64)) + (p2.toInt64)) + (p3.toInt64))))])) rfl (by rw [hml]; rfl) (argsL := [(.int pa), (.int pa), (.int pa), (.int pa), (.int p1), (.int p2), (.int p3)]) (rest := [(.double (FP.l2d ((((0 : Int64) + (p1.toInt64)) + (p2.toInt64)) + (p3.toInt64))))]) (lenOf own_pd6 rfl) rfl (by show 2 * 0 + _ ≤ _; exact Nat.le_of_eq rfl) (hb hby at_254) (fun _ _ => ⟨rfl, e92, (by first | decide | omega : 4 + 0 ≤ _), (by first | decide | omega : 17 + 0 ≤ _)⟩))
      obtain ⟨rfl, N93q, e93⟩ := hQ93
      refine Done.go st93 ?_
      clear st93
      have N93 := Fr.app N92h N93q
      clear N93q
      obtain ⟨Lh93, X93h, N93h⟩ : ∃ L, Stand p l e room_1 s m #[(.int p0), (.int p1), (.int p2), (.int p3), (.int p4)] below meth c T93 L 4 17 ∧ Fr n0 L := ⟨_, X93, N93⟩
      clear X93 N93 X92h e92 N92h
      show Done p e s below _ _ _ T93 (mkF m 257 #[.val (.int p0), .val (.int p1), .val (.int p2), .val (.int p3), .val (.int p4), .val (.int pa), .val (.int pa), .val (.int pa), .val (.int pe), .val (.ref b84), .val (.ref bS), .val (.ref bD), .val (.int (0 : Int32)), .val (.int (0 : Int32)), .val (.int (1 : Int32)), .val (.int (1 : Int32))] [(.double (FP.l2d (own_sum pa pa pa pa p1 p2 p3))), (.double (FP.l2d ((((0 : Int64) + (p1.toInt64)) + (p2.toInt64)) + (p3.toInt64))))])
      refine Done.go (fun _ kt_ => XS.dcmpS X93h.here hx rfl (hb hby at_257) rfl (dcmpV_w (own_leB (own_leA (own_leA (own_leA own_le0 (by decide) p1) (by decide) p2) (by decide) p3) (by decide)) (own_leB (own_leT _ _ _ _ _ _ _) (by decide)) _) kt_) ?_
      show Done p e s below _ _ _ T93 (mkF m 258 #[.val (.int p0), .val (.int p1), .val (.int p2), .val (.int p3), .val (.int p4), .val (.int pa), .val (.int pa), .val (.int pa), .val (.int pe), .val (.ref b84), .val (.ref bS), .val (.ref bD), .val (.int (0 : Int32)), .val (.int (0 : Int32)), .val (.int (1 : Int32)), .val (.int (1 : Int32))] [(.int (lcmpW ((((0 : Int64) + (p1.toInt64)) + (p2.toInt64)) + (p3.toInt64)) (own_sum pa pa pa pa p1 p2 p3)))])
      refine Done.go (fun _ kt_ => XS.ifNo X93h.here hx rfl (hb hby at_258) rfl ((if0 _ _).trans (teq ((lw_eq _ _).mpr (by simp only [own_sum, own_s1, if_true, if_false]))).2) kt_) ?_
      show Done p e s below _ _ _ T93 (mkF m 261 #[.val (.int p0), .val (.int p1), .val (.int p2), .val (.int p3), .val (.int p4), .val (.int pa), .val (.int pa), .val (.int pa), .val (.int pe), .val (.ref b84), .val (.ref bS), .val (.ref bD), .val (.int (0 : Int32)), .val (.int (0 : Int32)), .val (.int (1 : Int32)), .val (.int (1 : Int32))] [])
      refine Done.go (fun _ kt_ => XS.iconst X93h.here hx rfl (hb hby at_261) kt_) ?_
      show Done p e s below _ _ _ T93 (mkF m 262 #[.val (.int p0), .val (.int p1), .val (.int p2), .val (.int p3), .val (.int p4), .val (.int pa), .val (.int pa), .val (.int pa), .val (.int pe), .val (.ref b84), .val (.ref bS), .val (.ref bD), .val (.int (0 : Int32)), .val (.int (0 : Int32)), .val (.int (1 : Int32)), .val (.int (1 : Int32))] [(.int (1 : Int32))])
      refine Done.go (fun _ kt_ => XS.goto X93h.here hx rfl (pc0 := 262) (pc' := 266) rfl (hb hby at_262) (by decide) (by decide) kt_) ?_
      show Done p e s below _ _ _ T93 (mkF m 266 #[.val (.int p0), .val (.int p1), .val (.int p2), .val (.int p3), .val (.int p4), .val (.int pa), .val (.int pa), .val (.int pa), .val (.int pe), .val (.ref b84), .val (.ref bS), .val (.ref bD), .val (.int (0 : Int32)), .val (.int (0 : Int32)), .val (.int (1 : Int32)), .val (.int (1 : Int32))] [(.int (1 : Int32))])
      refine Done.go (fun _ kt_ => XS.istore X93h.here hx rfl (hb hby at_266) rfl (l' := #[.val (.int p0), .val (.int p1), .val (.int p2), .val (.int p3), .val (.int p4), .val (.int pa), .val (.int pa), .val (.int pa), .val (.int pe), .val (.ref b84), .val (.ref bS), .val (.ref bD), .val (.int (0 : Int32)), .val (.int (0 : Int32)), .val (.int (1 : Int32)), .val (.int (1 : Int32))]) rfl kt_) ?_
      show Done p e s below _ _ _ T93 (mkF m 268 #[.val (.int p0), .val (.int p1), .val (.int p2), .val (.int p3), .val (.int p4), .val (.int pa), .val (.int pa), .val (.int pa), .val (.int pe), .val (.ref b84), .val (.ref bS), .val (.ref bD), .val (.int (0 : Int32)), .val (.int (0 : Int32)), .val (.int (1 : Int32)), .val (.int (1 : Int32))] [])
      refine Done.go (fun _ kt_ => XS.iload X93h.here hx rfl (hb hby at_268) rfl kt_) ?_
      show Done p e s below _ _ _ T93 (mkF m 270 #[.val (.int p0), .val (.int p1), .val (.int p2), .val (.int p3), .val (.int p4), .val (.int pa), .val (.int pa), .val (.int pa), .val (.int pe), .val (.ref b84), .val (.ref bS), .val (.ref bD), .val (.int (0 : Int32)), .val (.int (0 : Int32)), .val (.int (1 : Int32)), .val (.int (1 : Int32))] [(.int (1 : Int32))])
      refine Done.go (fun _ kt_ => XS.ifNo X93h.here hx rfl (hb hby at_270) rfl ((if0 _ _).trans (feq (by decide)).1) kt_) ?_
      show Done p e s below _ _ _ T93 (mkF m 273 #[.val (.int p0), .val (.int p1), .val (.int p2), .val (.int p3), .val (.int p4), .val (.int pa), .val (.int pa), .val (.int pa), .val (.int pe), .val (.ref b84), .val (.ref bS), .val (.ref bD), .val (.int (0 : Int32)), .val (.int (0 : Int32)), .val (.int (1 : Int32)), .val (.int (1 : Int32))] [])
      refine Done.go (fun _ kt_ => XS.aload X93h.here hx rfl (hb hby at_273) rfl rfl kt_) ?_
      show Done p e s below _ _ _ T93 (mkF m 275 #[.val (.int p0), .val (.int p1), .val (.int p2), .val (.int p3), .val (.int p4), .val (.int pa), .val (.int pa), .val (.int pa), .val (.int pe), .val (.ref b84), .val (.ref bS), .val (.ref bD), .val (.int (0 : Int32)), .val (.int (0 : Int32)), .val (.int (1 : Int32)), .val (.int (1 : Int32))] [(.ref bD)])
      refine Done.go (fun _ kt_ => XS.iload X93h.here hx rfl (hb hby at_275) rfl kt_) ?_
      show Done p e s below _ _ _ T93 (mkF m 277 #[.val (.int p0), .val (.int p1), .val (.int p2), .val (.int p3), .val (.int p4), .val (.int pa), .val (.int pa), .val (.int pa), .val (.int pe), .val (.ref b84), .val (.ref bS), .val (.ref bD), .val (.int (0 : Int32)), .val (.int (0 : Int32)), .val (.int (1 : Int32)), .val (.int (1 : Int32))] [(.int pa), (.ref bD)])
      refine Done.ldD X93h hx hZ e93 VD91 (j := pa) (y := ((((0 : Int64) + (p1.toInt64)) + (p2.toInt64)) + (p3.toInt64))) A (own_ix hA).1 (own_ix hA).2 hA4 (by simp [own_u]) (hb hby at_277) ?_
      show Done p e s below _ _ _ T93 (mkF m 278 #[.val (.int p0), .val (.int p1), .val (.int p2), .val (.int p3), .val (.int p4), .val (.int pa), .val (.int pa), .val (.int pa), .val (.int pe), .val (.ref b84), .val (.ref bS), .val (.ref bD), .val (.int (0 : Int32)), .val (.int (0 : Int32)), .val (.int (1 : Int32)), .val (.int (1 : Int32))] [(.double (FP.l2d ((((0 : Int64) + (p1.toInt64)) + (p2.toInt64)) + (p3.toInt64))))])
      refine Done.go (fun _ kt_ => XS.iload X93h.here hx rfl (hb hby at_278) rfl kt_) ?_
      show Done p e s below _ _ _ T93 (mkF m 280 #[.val (.int p0), .val (.int p1), .val (.int p2), .val (.int p3), .val (.int p4), .val (.int pa), .val (.int pa), .val (.int pa), .val (.int pe), .val (.ref b84), .val (.ref bS), .val (.ref bD), .val (.int (0 : Int32)), .val (.int (0 : Int32)), .val (.int (1 : Int32)), .val (.int (1 : Int32))] [(.int pa), (.double (FP.l2d ((((0 : Int64) + (p1.toInt64)) + (p2.toInt64)) + (p3.toInt64))))])
      refine Done.go (fun _ kt_ => XS.iload X93h.here hx rfl (hb hby at_280) rfl kt_) ?_
      show Done p e s below _ _ _ T93 (mkF m 282 #[.val (.int p0), .val (.int p1), .val (.int p2), .val (.int p3), .val (.int p4), .val (.int pa), .val (.int pa), .val (.int pa), .val (.int pe), .val (.ref b84), .val (.ref bS), .val (.ref bD), .val (.int (0 : Int32)), .val (.int (0 : Int32)), .val (.int (1 : Int32)), .val (.int (1 : Int32))] [(.int pa), (.int pa), (.double (FP.l2d ((((0 : Int64) + (p1.toInt64)) + (p2.toInt64)) + (p3.toInt64))))])
      refine Done.go (fun _ kt_ => XS.iload X93h.here hx rfl (hb hby at_282) rfl kt_) ?_
      show Done p e s below _ _ _ T93 (mkF m 284 #[.val (.int p0), .val (.int p1), .val (.int p2), .val (.int p3), .val (.int p4), .val (.int pa), .val (.int pa), .val (.int pa), .val (.int pe), .val (.ref b84), .val (.ref bS), .val (.ref bD), .val (.int (0 : Int32)), .val (.int (0 : Int32)), .val (.int (1 : Int32)), .val (.int (1 : Int32))] [(.int pa), (.int pa), (.int pa), (.double (FP.l2d ((((0 : Int64) + (p1.toInt64)) + (p2.toInt64)) + (p3.toInt64))))])
      refine Done.go (fun _ kt_ => XS.iload X93h.here hx rfl (hb hby at_284) rfl kt_) ?_
      show Done p e s below _ _ _ T93 (mkF m 286 #[.val (.int p0), .val (.int p1), .val (.int p2), .val (.int p3), .val (.int p4), .val (.int pa), .val (.int pa), .val (.int pa), .val (.int pe), .val (.ref b84), .val (.ref bS), .val (.ref bD), .val (.int (0 : Int32)), .val (.int (0 : Int32)), .val (.int (1 : Int32)), .val (.int (1 : Int32))] [(.int pa), (.int pa), (.int pa), (.int pa), (.double (FP.l2d ((((0 : Int64) + (p1.toInt64)) + (p2.toInt64)) + (p3.toInt64))))])
      refine Done.go (fun _ kt_ => XS.iloadN X93h.here hx rfl (hb hby at_286) rfl kt_) ?_
      show Done p e s below _ _ _ T93 (mkF m 287 #[.val (.int p0), .val (.int p1), .val (.int p2), .val (.int p3), .val (.int p4), .val (.int pa), .val (.int pa), .val (.int pa), .val (.int pe), .val (.ref b84), .val (.ref bS), .val (.ref bD), .val (.int (0 : Int32)), .val (.int (0 : Int32)), .val (.int (1 : Int32)), .val (.int (1 : Int32))] [(.int p1), (.int pa), (.int pa), (.int pa), (.int pa), (.double (FP.l2d ((((0 : Int64) + (p1.toInt64)) + (p2.toInt64)) + (p3.toInt64))))])
      refine Done.go (fun _ kt_ => XS.iloadN X93h.here hx rfl (hb hby at_287) rfl kt_) ?_
      show Done p e s below _ _ _ T93 (mkF m 288 #[.val (.int p0), .val (.int p1), .val (.int p2), .val (.int p3), .val (.int p4), .val (.int pa), .val (.int pa), .val (.int pa), .val (.int pe), .val (.ref b84), .val (.ref bS), .val (.ref bD), .val (.int (0 : Int32)), .val (.int (0 : Int32)), .val (.int (1 : Int32)), .val (.int (1 : Int32))] [(.int p2), (.int p1), (.int pa), (.int pa), (.int pa), (.int pa), (.double (FP.l2d ((((0 : Int64) + (p1.toInt64)) + (p2.toInt64)) + (p3.toInt64))))])
      refine Done.go (fun _ kt_ => XS.iloadN X93h.here hx rfl (hb hby at_288) rfl kt_) ?_
      show Done p e s below _ _ _ T93 (mkF m 289 #[.val (.int p0), .val (.int p1), .val (.int p2), .val (.int p3), .val (.int p4), .val (.int pa), .val (.int pa), .val (.int pa), .val (.int pe), .val (.ref b84), .val (.ref bS), .val (.ref bD), .val (.int (0 : Int32)), .val (.int (0 : Int32)), .val (.int (1 : Int32)), .val (.int (1 : Int32))] [(.int p3), (.int p2), (.int p1), (.int pa), (.int pa), (.int pa), (.int pa), (.double (FP.l2d ((((0 : Int64) + (p1.toInt64)) + (p2.toInt64)) + (p3.toInt64))))])
      obtain ⟨v94, T94, Lc94, X94, hQ94, st94⟩ := own_backG (Jvm.LawKit.callS X93h hx (y := (⟨"com/example/pivotwise/pivotwise/retrieval/ScoresAddPinLaw", "sum", "(IIIIIII)D"⟩ : MethodName)) hown (mvT hZ (hw _ (List.mem_of_getElem? (i := 46) rfl))) (mvT hZ (hw _ (List.mem_of_getElem? (i := 47) rfl))) (mvT hZ (hw _ (List.mem_of_getElem? (i := 48) rfl))) (mvT hZ (hw _ (List.mem_of_getElem? (i := 49) rfl))) (by decide) (backOf (W := 2) (rm8 l Z a0 hw [] pa pa pa pa p1 p2 p3 T91.heap n0 Z91) hZ (hw _ (List.mem_of_getElem? (i := 49) rfl)) (hw _ (List.mem_of_getElem? (i := 48) rfl)) (by decide) (by decide)) (g := (mkF m 289 #[.val (.int p0), .val (.int p1), .val (.int p2), .val (.int p3), .val (.int p4), .val (.int pa), .val (.int pa), .val (.int pa), .val (.int pe), .val (.ref b84), .val (.ref bS), .val (.ref bD), .val (.int (0 : Int32)), .val (.int (0 : Int32)), .val (.int (1 : Int32)), .val (.int (1 : Int32))] [(.int p3), (.int p2), (.int p1), (.int pa), (.int pa), (.int pa), (.int pa), (.double (FP.l2d ((((0 : Int64) + (p1.toInt64)) + (p2.toInt64)) + (p3.toInt64))))])) rfl (by rw [hml]; rfl) (argsL := [(.int pa), (.int pa), (.int pa), (.int pa), (.int p1), (.int p2), (.int p3)]) (rest := [(.double (FP.l2d ((((0 : Int64) + (p1.toInt64)) + (p2.toInt64)) + (p3.toInt64))))]) (lenOf own_pd6 rfl) rfl (by show 2 * 0 + _ ≤ _; exact Nat.le_of_eq rfl) (hb hby at_289) (fun _ _ => ⟨rfl, e93, (by first | decide | omega : 4 + 0 ≤ _), (by first | decide | omega : 17 + 0 ≤ _)⟩))
      obtain ⟨rfl, N94q, e94⟩ := hQ94
      refine Done.go st94 ?_
      clear st94
      have N94 := Fr.app N93h N94q
      clear N94q
      obtain ⟨Lh94, X94h, N94h⟩ : ∃ L, Stand p l e room_1 s m #[(.int p0), (.int p1), (.int p2), (.int p3), (.int p4)] below meth c T94 L 4 17 ∧ Fr n0 L := ⟨_, X94, N94⟩
      clear X94 N94 X93h e93 N93h
      show Done p e s below _ _ _ T94 (mkF m 292 #[.val (.int p0), .val (.int p1), .val (.int p2), .val (.int p3), .val (.int p4), .val (.int pa), .val (.int pa), .val (.int pa), .val (.int pe), .val (.ref b84), .val (.ref bS), .val (.ref bD), .val (.int (0 : Int32)), .val (.int (0 : Int32)), .val (.int (1 : Int32)), .val (.int (1 : Int32))] [(.double (FP.l2d (own_sum pa pa pa pa p1 p2 p3))), (.double (FP.l2d ((((0 : Int64) + (p1.toInt64)) + (p2.toInt64)) + (p3.toInt64))))])
      refine Done.go (fun _ kt_ => XS.dcmpS X94h.here hx rfl (hb hby at_292) rfl (dcmpV_w (own_leB (own_leA (own_leA (own_leA own_le0 (by decide) p1) (by decide) p2) (by decide) p3) (by decide)) (own_leB (own_leT _ _ _ _ _ _ _) (by decide)) _) kt_) ?_
      show Done p e s below _ _ _ T94 (mkF m 293 #[.val (.int p0), .val (.int p1), .val (.int p2), .val (.int p3), .val (.int p4), .val (.int pa), .val (.int pa), .val (.int pa), .val (.int pe), .val (.ref b84), .val (.ref bS), .val (.ref bD), .val (.int (0 : Int32)), .val (.int (0 : Int32)), .val (.int (1 : Int32)), .val (.int (1 : Int32))] [(.int (lcmpW ((((0 : Int64) + (p1.toInt64)) + (p2.toInt64)) + (p3.toInt64)) (own_sum pa pa pa pa p1 p2 p3)))])
      refine Done.go (fun _ kt_ => XS.ifNo X94h.here hx rfl (hb hby at_293) rfl ((if0 _ _).trans (teq ((lw_eq _ _).mpr (by simp only [own_sum, own_s1, if_true, if_false]))).2) kt_) ?_
      show Done p e s below _ _ _ T94 (mkF m 296 #[.val (.int p0), .val (.int p1), .val (.int p2), .val (.int p3), .val (.int p4), .val (.int pa), .val (.int pa), .val (.int pa), .val (.int pe), .val (.ref b84), .val (.ref bS), .val (.ref bD), .val (.int (0 : Int32)), .val (.int (0 : Int32)), .val (.int (1 : Int32)), .val (.int (1 : Int32))] [])
      refine Done.go (fun _ kt_ => XS.iconst X94h.here hx rfl (hb hby at_296) kt_) ?_
      show Done p e s below _ _ _ T94 (mkF m 297 #[.val (.int p0), .val (.int p1), .val (.int p2), .val (.int p3), .val (.int p4), .val (.int pa), .val (.int pa), .val (.int pa), .val (.int pe), .val (.ref b84), .val (.ref bS), .val (.ref bD), .val (.int (0 : Int32)), .val (.int (0 : Int32)), .val (.int (1 : Int32)), .val (.int (1 : Int32))] [(.int (1 : Int32))])
      refine Done.go (fun _ kt_ => XS.goto X94h.here hx rfl (pc0 := 297) (pc' := 301) rfl (hb hby at_297) (by decide) (by decide) kt_) ?_
      show Done p e s below _ _ _ T94 (mkF m 301 #[.val (.int p0), .val (.int p1), .val (.int p2), .val (.int p3), .val (.int p4), .val (.int pa), .val (.int pa), .val (.int pa), .val (.int pe), .val (.ref b84), .val (.ref bS), .val (.ref bD), .val (.int (0 : Int32)), .val (.int (0 : Int32)), .val (.int (1 : Int32)), .val (.int (1 : Int32))] [(.int (1 : Int32))])
      refine Done.go (fun _ kt_ => XS.istore X94h.here hx rfl (hb hby at_301) rfl (l' := #[.val (.int p0), .val (.int p1), .val (.int p2), .val (.int p3), .val (.int p4), .val (.int pa), .val (.int pa), .val (.int pa), .val (.int pe), .val (.ref b84), .val (.ref bS), .val (.ref bD), .val (.int (0 : Int32)), .val (.int (0 : Int32)), .val (.int (1 : Int32)), .val (.int (1 : Int32))]) rfl kt_) ?_
      show Done p e s below _ _ _ T94 (mkF m 303 #[.val (.int p0), .val (.int p1), .val (.int p2), .val (.int p3), .val (.int p4), .val (.int pa), .val (.int pa), .val (.int pa), .val (.int pe), .val (.ref b84), .val (.ref bS), .val (.ref bD), .val (.int (0 : Int32)), .val (.int (0 : Int32)), .val (.int (1 : Int32)), .val (.int (1 : Int32))] [])
      refine Done.go (fun _ kt_ => XS.iload X94h.here hx rfl (hb hby at_303) rfl kt_) ?_
      show Done p e s below _ _ _ T94 (mkF m 305 #[.val (.int p0), .val (.int p1), .val (.int p2), .val (.int p3), .val (.int p4), .val (.int pa), .val (.int pa), .val (.int pa), .val (.int pe), .val (.ref b84), .val (.ref bS), .val (.ref bD), .val (.int (0 : Int32)), .val (.int (0 : Int32)), .val (.int (1 : Int32)), .val (.int (1 : Int32))] [(.int (1 : Int32))])
      refine Done.go (fun _ kt_ => XS.ifNo X94h.here hx rfl (hb hby at_305) rfl ((if0 _ _).trans (feq (by decide)).1) kt_) ?_
      show Done p e s below _ _ _ T94 (mkF m 308 #[.val (.int p0), .val (.int p1), .val (.int p2), .val (.int p3), .val (.int p4), .val (.int pa), .val (.int pa), .val (.int pa), .val (.int pe), .val (.ref b84), .val (.ref bS), .val (.ref bD), .val (.int (0 : Int32)), .val (.int (0 : Int32)), .val (.int (1 : Int32)), .val (.int (1 : Int32))] [])
      refine Done.go (fun _ kt_ => XS.aload X94h.here hx rfl (hb hby at_308) rfl rfl kt_) ?_
      show Done p e s below _ _ _ T94 (mkF m 310 #[.val (.int p0), .val (.int p1), .val (.int p2), .val (.int p3), .val (.int p4), .val (.int pa), .val (.int pa), .val (.int pa), .val (.int pe), .val (.ref b84), .val (.ref bS), .val (.ref bD), .val (.int (0 : Int32)), .val (.int (0 : Int32)), .val (.int (1 : Int32)), .val (.int (1 : Int32))] [(.ref bD)])
      refine Done.go (fun _ kt_ => XS.iload X94h.here hx rfl (hb hby at_310) rfl kt_) ?_
      show Done p e s below _ _ _ T94 (mkF m 312 #[.val (.int p0), .val (.int p1), .val (.int p2), .val (.int p3), .val (.int p4), .val (.int pa), .val (.int pa), .val (.int pa), .val (.int pe), .val (.ref b84), .val (.ref bS), .val (.ref bD), .val (.int (0 : Int32)), .val (.int (0 : Int32)), .val (.int (1 : Int32)), .val (.int (1 : Int32))] [(.int pa), (.ref bD)])
      refine Done.ldD X94h hx hZ e94 VD91 (j := pa) (y := ((((0 : Int64) + (p1.toInt64)) + (p2.toInt64)) + (p3.toInt64))) A (own_ix hA).1 (own_ix hA).2 hA4 (by simp [own_u]) (hb hby at_312) ?_
      show Done p e s below _ _ _ T94 (mkF m 313 #[.val (.int p0), .val (.int p1), .val (.int p2), .val (.int p3), .val (.int p4), .val (.int pa), .val (.int pa), .val (.int pa), .val (.int pe), .val (.ref b84), .val (.ref bS), .val (.ref bD), .val (.int (0 : Int32)), .val (.int (0 : Int32)), .val (.int (1 : Int32)), .val (.int (1 : Int32))] [(.double (FP.l2d ((((0 : Int64) + (p1.toInt64)) + (p2.toInt64)) + (p3.toInt64))))])
      refine Done.go (fun _ kt_ => XS.iload X94h.here hx rfl (hb hby at_313) rfl kt_) ?_
      show Done p e s below _ _ _ T94 (mkF m 315 #[.val (.int p0), .val (.int p1), .val (.int p2), .val (.int p3), .val (.int p4), .val (.int pa), .val (.int pa), .val (.int pa), .val (.int pe), .val (.ref b84), .val (.ref bS), .val (.ref bD), .val (.int (0 : Int32)), .val (.int (0 : Int32)), .val (.int (1 : Int32)), .val (.int (1 : Int32))] [(.int pa), (.double (FP.l2d ((((0 : Int64) + (p1.toInt64)) + (p2.toInt64)) + (p3.toInt64))))])
      refine Done.go (fun _ kt_ => XS.iload X94h.here hx rfl (hb hby at_315) rfl kt_) ?_
      show Done p e s below _ _ _ T94 (mkF m 317 #[.val (.int p0), .val (.int p1), .val (.int p2), .val (.int p3), .val (.int p4), .val (.int pa), .val (.int pa), .val (.int pa), .val (.int pe), .val (.ref b84), .val (.ref bS), .val (.ref bD), .val (.int (0 : Int32)), .val (.int (0 : Int32)), .val (.int (1 : Int32)), .val (.int (1 : Int32))] [(.int pa), (.int pa), (.double (FP.l2d ((((0 : Int64) + (p1.toInt64)) + (p2.toInt64)) + (p3.toInt64))))])
      refine Done.go (fun _ kt_ => XS.iload X94h.here hx rfl (hb hby at_317) rfl kt_) ?_
      show Done p e s below _ _ _ T94 (mkF m 319 #[.val (.int p0), .val (.int p1), .val (.int p2), .val (.int p3), .val (.int p4), .val (.int pa), .val (.int pa), .val (.int pa), .val (.int pe), .val (.ref b84), .val (.ref bS), .val (.ref bD), .val (.int (0 : Int32)), .val (.int (0 : Int32)), .val (.int (1 : Int32)), .val (.int (1 : Int32))] [(.int pa), (.int pa), (.int pa), (.double (FP.l2d ((((0 : Int64) + (p1.toInt64)) + (p2.toInt64)) + (p3.toInt64))))])
      refine Done.go (fun _ kt_ => XS.iload X94h.here hx rfl (hb hby at_319) rfl kt_) ?_
      show Done p e s below _ _ _ T94 (mkF m 321 #[.val (.int p0), .val (.int p1), .val (.int p2), .val (.int p3), .val (.int p4), .val (.int pa), .val (.int pa), .val (.int pa), .val (.int pe), .val (.ref b84), .val (.ref bS), .val (.ref bD), .val (.int (0 : Int32)), .val (.int (0 : Int32)), .val (.int (1 : Int32)), .val (.int (1 : Int32))] [(.int pa), (.int pa), (.int pa), (.int pa), (.double (FP.l2d ((((0 : Int64) + (p1.toInt64)) + (p2.toInt64)) + (p3.toInt64))))])
      refine Done.go (fun _ kt_ => XS.iloadN X94h.here hx rfl (hb hby at_321) rfl kt_) ?_
      show Done p e s below _ _ _ T94 (mkF m 322 #[.val (.int p0), .val (.int p1), .val (.int p2), .val (.int p3), .val (.int p4), .val (.int pa), .val (.int pa), .val (.int pa), .val (.int pe), .val (.ref b84), .val (.ref bS), .val (.ref bD), .val (.int (0 : Int32)), .val (.int (0 : Int32)), .val (.int (1 : Int32)), .val (.int (1 : Int32))] [(.int p1), (.int pa), (.int pa), (.int pa), (.int pa), (.double (FP.l2d ((((0 : Int64) + (p1.toInt64)) + (p2.toInt64)) + (p3.toInt64))))])
      refine Done.go (fun _ kt_ => XS.iloadN X94h.here hx rfl (hb hby at_322) rfl kt_) ?_
      show Done p e s below _ _ _ T94 (mkF m 323 #[.val (.int p0), .val (.int p1), .val (.int p2), .val (.int p3), .val (.int p4), .val (.int pa), .val (.int pa), .val (.int pa), .val (.int pe), .val (.ref b84), .val (.ref bS), .val (.ref bD), .val (.int (0 : Int32)), .val (.int (0 : Int32)), .val (.int (1 : Int32)), .val (.int (1 : Int32))] [(.int p2), (.int p1), (.int pa), (.int pa), (.int pa), (.int pa), (.double (FP.l2d ((((0 : Int64) + (p1.toInt64)) + (p2.toInt64)) + (p3.toInt64))))])
      refine Done.go (fun _ kt_ => XS.iloadN X94h.here hx rfl (hb hby at_323) rfl kt_) ?_
      show Done p e s below _ _ _ T94 (mkF m 324 #[.val (.int p0), .val (.int p1), .val (.int p2), .val (.int p3), .val (.int p4), .val (.int pa), .val (.int pa), .val (.int pa), .val (.int pe), .val (.ref b84), .val (.ref bS), .val (.ref bD), .val (.int (0 : Int32)), .val (.int (0 : Int32)), .val (.int (1 : Int32)), .val (.int (1 : Int32))] [(.int p3), (.int p2), (.int p1), (.int pa), (.int pa), (.int pa), (.int pa), (.double (FP.l2d ((((0 : Int64) + (p1.toInt64)) + (p2.toInt64)) + (p3.toInt64))))])
      obtain ⟨v95, T95, Lc95, X95, hQ95, st95⟩ := own_backG (Jvm.LawKit.callS X94h hx (y := (⟨"com/example/pivotwise/pivotwise/retrieval/ScoresAddPinLaw", "sum", "(IIIIIII)D"⟩ : MethodName)) hown (mvT hZ (hw _ (List.mem_of_getElem? (i := 46) rfl))) (mvT hZ (hw _ (List.mem_of_getElem? (i := 47) rfl))) (mvT hZ (hw _ (List.mem_of_getElem? (i := 48) rfl))) (mvT hZ (hw _ (List.mem_of_getElem? (i := 49) rfl))) (by decide) (backOf (W := 2) (rm8 l Z a0 hw [] pa pa pa pa p1 p2 p3 T91.heap n0 Z91) hZ (hw _ (List.mem_of_getElem? (i := 49) rfl)) (hw _ (List.mem_of_getElem? (i := 48) rfl)) (by decide) (by decide)) (g := (mkF m 324 #[.val (.int p0), .val (.int p1), .val (.int p2), .val (.int p3), .val (.int p4), .val (.int pa), .val (.int pa), .val (.int pa), .val (.int pe), .val (.ref b84), .val (.ref bS), .val (.ref bD), .val (.int (0 : Int32)), .val (.int (0 : Int32)), .val (.int (1 : Int32)), .val (.int (1 : Int32))] [(.int p3), (.int p2), (.int p1), (.int pa), (.int pa), (.int pa), (.int pa), (.double (FP.l2d ((((0 : Int64) + (p1.toInt64)) + (p2.toInt64)) + (p3.toInt64))))])) rfl (by rw [hml]; rfl) (argsL := [(.int pa), (.int pa), (.int pa), (.int pa), (.int p1), (.int p2), (.int p3)]) (rest := [(.double (FP.l2d ((((0 : Int64) + (p1.toInt64)) + (p2.toInt64)) + (p3.toInt64))))]) (lenOf own_pd6 rfl) rfl (by show 2 * 0 + _ ≤ _; exact Nat.le_of_eq rfl) (hb hby at_324) (fun _ _ => ⟨rfl, e94, (by first | decide | omega : 4 + 0 ≤ _), (by first | decide | omega : 17 + 0 ≤ _)⟩))
      obtain ⟨rfl, N95q, e95⟩ := hQ95
      refine Done.go st95 ?_
      clear st95
      have N95 := Fr.app N94h N95q
      clear N95q
      obtain ⟨Lh95, X95h, N95h⟩ : ∃ L, Stand p l e room_1 s m #[(.int p0), (.int p1), (.int p2), (.int p3), (.int p4)] below meth c T95 L 4 17 ∧ Fr n0 L := ⟨_, X95, N95⟩
      clear X95 N95 X94h e94 N94h
      show Done p e s below _ _ _ T95 (mkF m 327 #[.val (.int p0), .val (.int p1), .val (.int p2), .val (.int p3), .val (.int p4), .val (.int pa), .val (.int pa), .val (.int pa), .val (.int pe), .val (.ref b84), .val (.ref bS), .val (.ref bD), .val (.int (0 : Int32)), .val (.int (0 : Int32)), .val (.int (1 : Int32)), .val (.int (1 : Int32))] [(.double (FP.l2d (own_sum pa pa pa pa p1 p2 p3))), (.double (FP.l2d ((((0 : Int64) + (p1.toInt64)) + (p2.toInt64)) + (p3.toInt64))))])
      refine Done.go (fun _ kt_ => XS.dcmpS X95h.here hx rfl (hb hby at_327) rfl (dcmpV_w (own_leB (own_leA (own_leA (own_leA own_le0 (by decide) p1) (by decide) p2) (by decide) p3) (by decide)) (own_leB (own_leT _ _ _ _ _ _ _) (by decide)) _) kt_) ?_
      show Done p e s below _ _ _ T95 (mkF m 328 #[.val (.int p0), .val (.int p1), .val (.int p2), .val (.int p3), .val (.int p4), .val (.int pa), .val (.int pa), .val (.int pa), .val (.int pe), .val (.ref b84), .val (.ref bS), .val (.ref bD), .val (.int (0 : Int32)), .val (.int (0 : Int32)), .val (.int (1 : Int32)), .val (.int (1 : Int32))] [(.int (lcmpW ((((0 : Int64) + (p1.toInt64)) + (p2.toInt64)) + (p3.toInt64)) (own_sum pa pa pa pa p1 p2 p3)))])
      refine Done.go (fun _ kt_ => XS.ifNo X95h.here hx rfl (hb hby at_328) rfl ((if0 _ _).trans (teq ((lw_eq _ _).mpr (by simp only [own_sum, own_s1, if_true, if_false]))).2) kt_) ?_
      show Done p e s below _ _ _ T95 (mkF m 331 #[.val (.int p0), .val (.int p1), .val (.int p2), .val (.int p3), .val (.int p4), .val (.int pa), .val (.int pa), .val (.int pa), .val (.int pe), .val (.ref b84), .val (.ref bS), .val (.ref bD), .val (.int (0 : Int32)), .val (.int (0 : Int32)), .val (.int (1 : Int32)), .val (.int (1 : Int32))] [])
      refine Done.go (fun _ kt_ => XS.iconst X95h.here hx rfl (hb hby at_331) kt_) ?_
      show Done p e s below _ _ _ T95 (mkF m 332 #[.val (.int p0), .val (.int p1), .val (.int p2), .val (.int p3), .val (.int p4), .val (.int pa), .val (.int pa), .val (.int pa), .val (.int pe), .val (.ref b84), .val (.ref bS), .val (.ref bD), .val (.int (0 : Int32)), .val (.int (0 : Int32)), .val (.int (1 : Int32)), .val (.int (1 : Int32))] [(.int (1 : Int32))])
      refine Done.go (fun _ kt_ => XS.goto X95h.here hx rfl (pc0 := 332) (pc' := 336) rfl (hb hby at_332) (by decide) (by decide) kt_) ?_
      show Done p e s below _ _ _ T95 (mkF m 336 #[.val (.int p0), .val (.int p1), .val (.int p2), .val (.int p3), .val (.int p4), .val (.int pa), .val (.int pa), .val (.int pa), .val (.int pe), .val (.ref b84), .val (.ref bS), .val (.ref bD), .val (.int (0 : Int32)), .val (.int (0 : Int32)), .val (.int (1 : Int32)), .val (.int (1 : Int32))] [(.int (1 : Int32))])
      refine Done.go (fun _ kt_ => XS.istore X95h.here hx rfl (hb hby at_336) rfl (l' := #[.val (.int p0), .val (.int p1), .val (.int p2), .val (.int p3), .val (.int p4), .val (.int pa), .val (.int pa), .val (.int pa), .val (.int pe), .val (.ref b84), .val (.ref bS), .val (.ref bD), .val (.int (0 : Int32)), .val (.int (0 : Int32)), .val (.int (1 : Int32)), .val (.int (1 : Int32))]) rfl kt_) ?_
      show Done p e s below _ _ _ T95 (mkF m 338 #[.val (.int p0), .val (.int p1), .val (.int p2), .val (.int p3), .val (.int p4), .val (.int pa), .val (.int pa), .val (.int pa), .val (.int pe), .val (.ref b84), .val (.ref bS), .val (.ref bD), .val (.int (0 : Int32)), .val (.int (0 : Int32)), .val (.int (1 : Int32)), .val (.int (1 : Int32))] [])
      refine Done.go (fun _ kt_ => XS.aload X95h.here hx rfl (hb hby at_338) rfl rfl kt_) ?_
      show Done p e s below _ _ _ T95 (mkF m 340 #[.val (.int p0), .val (.int p1), .val (.int p2), .val (.int p3), .val (.int p4), .val (.int pa), .val (.int pa), .val (.int pa), .val (.int pe), .val (.ref b84), .val (.ref bS), .val (.ref bD), .val (.int (0 : Int32)), .val (.int (0 : Int32)), .val (.int (1 : Int32)), .val (.int (1 : Int32))] [(.ref b84)])
      obtain ⟨cq96, kq96, q96a, q96b, q96c⟩ := isOf hZ e95 E91
      obtain ⟨v96, T96, Lc96, X96, hQ96, st96⟩ := own_backV (X95h.virtualBack hx (y := (⟨"com/example/pivotwise/pivotwise/retrieval/Scores", "start", "()V"⟩ : MethodName)) (z := (⟨"com/example/pivotwise/pivotwise/retrieval/Scores", "start", "()V"⟩ : MethodName)) hown (mvT hZ (hw _ (List.mem_of_getElem? (i := 27) rfl))) (mvT hZ (hw _ (List.mem_of_getElem? (i := 28) rfl))) (notFace_of_selects (args := #[]) (mvT hZ (hw _ (List.mem_of_getElem? (i := 30) rfl)))) (mvT hZ (hw _ (List.mem_of_getElem? (i := 30) rfl))) (mvT hZ (hw _ (List.mem_of_getElem? (i := 29) rfl))) (by decide) (backOf (W := 0) (rm5 l Z a0 hw [] b84 bD bF bS (own_u (own_u (own_u (fun _ => (0 : Int64)) A (0 + (p1.toInt64))) A (((0 : Int64) + (p1.toInt64)) + (p2.toInt64))) A ((((0 : Int64) + (p1.toInt64)) + (p2.toInt64)) + (p3.toInt64))) (own_u (fun _ => (0 : Int32)) A (1 : Int32)) (own_u (fun _ => (0 : Int32)) 0 pa) (1 : Int32) (1 : Int32) (2 : Int32) T91.heap n0 Z91 ⟨E91, Fscores91, FscoredFor91, Fscored91, Fquery91, Fcount91, VD91, VF91, VS91⟩ hds hgs (by decide)) hZ (hw _ (List.mem_of_getElem? (i := 31) rfl)) (hw _ (List.mem_of_getElem? (i := 2) rfl)) (by decide) (by decide)) q96a q96c (g := (mkF m 340 #[.val (.int p0), .val (.int p1), .val (.int p2), .val (.int p3), .val (.int p4), .val (.int pa), .val (.int pa), .val (.int pa), .val (.int pe), .val (.ref b84), .val (.ref bS), .val (.ref bD), .val (.int (0 : Int32)), .val (.int (0 : Int32)), .val (.int (1 : Int32)), .val (.int (1 : Int32))] [(.ref b84)])) rfl (by rw [hml]; rfl) (Steps.refl _) (argsL := []) (rest := []) (lenOf own_pd3 rfl) rfl (by show 2 * 0 + _ ≤ _; exact Nat.le_of_eq rfl) (hb hby at_340) (fun _ _ => ⟨rfl, e95, (by first | decide | omega : 4 + 0 ≤ _), (by first | decide | omega : 17 + 0 ≤ _)⟩))
      obtain ⟨rfl, N96q, hs96, P96⟩ := hQ96
      refine Done.go st96 ?_
      clear st96
      have N96 := Fr.app N95h N96q
      clear N96q
      have Z96 : n0 ≤ T96.heap.size := Nat.le_trans Z91 hs96
      obtain ⟨Lh96, X96h, N96h⟩ : ∃ L, Stand p l e room_1 s m #[(.int p0), (.int p1), (.int p2), (.int p3), (.int p4)] below meth c T96 L 4 17 ∧ Fr n0 L := ⟨_, X96, N96⟩
      clear X96 N96 X95h e95 N95h Z91
      obtain ⟨E96, Fscores96, FscoredFor96, Fscored96, Fquery96, Fcount96, VD96, VF96, VS96⟩ := id P96
      show Done p e s below _ _ _ T96 (mkF m 343 #[.val (.int p0), .val (.int p1), .val (.int p2), .val (.int p3), .val (.int p4), .val (.int pa), .val (.int pa), .val (.int pa), .val (.int pe), .val (.ref b84), .val (.ref bS), .val (.ref bD), .val (.int (0 : Int32)), .val (.int (0 : Int32)), .val (.int (1 : Int32)), .val (.int (1 : Int32))] [])
      refine Done.go (fun _ kt_ => XS.aload X96h.here hx rfl (hb hby at_343) rfl rfl kt_) ?_
      show Done p e s below _ _ _ T96 (mkF m 345 #[.val (.int p0), .val (.int p1), .val (.int p2), .val (.int p3), .val (.int p4), .val (.int pa), .val (.int pa), .val (.int pa), .val (.int pe), .val (.ref b84), .val (.ref bS), .val (.ref bD), .val (.int (0 : Int32)), .val (.int (0 : Int32)), .val (.int (1 : Int32)), .val (.int (1 : Int32))] [(.ref b84)])
      refine Done.go (fun _ kt_ => XS.iload X96h.here hx rfl (hb hby at_345) rfl kt_) ?_
      show Done p e s below _ _ _ T96 (mkF m 347 #[.val (.int p0), .val (.int p1), .val (.int p2), .val (.int p3), .val (.int p4), .val (.int pa), .val (.int pa), .val (.int pa), .val (.int pe), .val (.ref b84), .val (.ref bS), .val (.ref bD), .val (.int (0 : Int32)), .val (.int (0 : Int32)), .val (.int (1 : Int32)), .val (.int (1 : Int32))] [(.int pe), (.ref b84)])
      refine Done.go (fun _ kt_ => XS.iload X96h.here hx rfl (hb hby at_347) rfl kt_) ?_
      show Done p e s below _ _ _ T96 (mkF m 349 #[.val (.int p0), .val (.int p1), .val (.int p2), .val (.int p3), .val (.int p4), .val (.int pa), .val (.int pa), .val (.int pa), .val (.int pe), .val (.ref b84), .val (.ref bS), .val (.ref bD), .val (.int (0 : Int32)), .val (.int (0 : Int32)), .val (.int (1 : Int32)), .val (.int (1 : Int32))] [(.int p4), (.int pe), (.ref b84)])
      refine Done.go (fun _ kt_ => XS.i2dS X96h.here hx rfl (hb hby at_349) rfl (i2d_w p4) kt_) ?_
      show Done p e s below _ _ _ T96 (mkF m 350 #[.val (.int p0), .val (.int p1), .val (.int p2), .val (.int p3), .val (.int p4), .val (.int pa), .val (.int pa), .val (.int pa), .val (.int pe), .val (.ref b84), .val (.ref bS), .val (.ref bD), .val (.int (0 : Int32)), .val (.int (0 : Int32)), .val (.int (1 : Int32)), .val (.int (1 : Int32))] [(.double (FP.l2d (p4.toInt64))), (.int pe), (.ref b84)])
      obtain ⟨cq97, kq97, q97a, q97b, q97c⟩ := isOf hZ rfl E96
      obtain ⟨v97, T97, Lc97, X97, hQ97, st97⟩ := own_backV (X96h.virtualBack hx (y := (⟨"com/example/pivotwise/pivotwise/retrieval/Scores", "add", "(ID)V"⟩ : MethodName)) (z := (⟨"com/example/pivotwise/pivotwise/retrieval/Scores", "add", "(ID)V"⟩ : MethodName)) hown (mvT hZ (hw _ (List.mem_of_getElem? (i := 36) rfl))) (mvT hZ (hw _ (List.mem_of_getElem? (i := 37) rfl))) (notFace_of_selects (args := #[]) (mvT hZ (hw _ (List.mem_of_getElem? (i := 39) rfl)))) (mvT hZ (hw _ (List.mem_of_getElem? (i := 39) rfl))) (mvT hZ (hw _ (List.mem_of_getElem? (i := 38) rfl))) (by decide) (backOf (W := 0) (rm6n l Z a0 hw [] b84 bD bF bS pe (p4.toInt64) (own_u (own_u (own_u (fun _ => (0 : Int64)) A (0 + (p1.toInt64))) A (((0 : Int64) + (p1.toInt64)) + (p2.toInt64))) A ((((0 : Int64) + (p1.toInt64)) + (p2.toInt64)) + (p3.toInt64))) (own_u (fun _ => (0 : Int32)) A (1 : Int32)) (own_u (fun _ => (0 : Int32)) 0 pa) (2 : Int32) (0 : Int32) Ee 0 (1 : Int32) T96.heap n0 Z96 ⟨E96, Fscores96, FscoredFor96, Fscored96, Fquery96, Fcount96, VD96, VF96, VS96⟩ hds hgs hEe hEe4 (own_leB (own_leG _) (by decide)) (by decide) (by decide) (by unfold own_u; (repeat' split) <;> first | decide | (show ¬ ((0 : Int32) = 2); decide)) (by decide)) hZ (hw _ (List.mem_of_getElem? (i := 40) rfl)) (hw _ (List.mem_of_getElem? (i := 2) rfl)) (by decide) (by decide)) q97a q97c (g := (mkF m 350 #[.val (.int p0), .val (.int p1), .val (.int p2), .val (.int p3), .val (.int p4), .val (.int pa), .val (.int pa), .val (.int pa), .val (.int pe), .val (.ref b84), .val (.ref bS), .val (.ref bD), .val (.int (0 : Int32)), .val (.int (0 : Int32)), .val (.int (1 : Int32)), .val (.int (1 : Int32))] [(.double (FP.l2d (p4.toInt64))), (.int pe), (.ref b84)])) rfl (by rw [hml]; rfl) (Steps.refl _) (argsL := [(.int pe), (.double (FP.l2d (p4.toInt64)))]) (rest := []) (lenOf own_pd4 rfl) rfl (by show 2 * 0 + _ ≤ _; exact Nat.le_of_eq rfl) (hb hby at_350) (fun _ _ => ⟨rfl, rfl, (by first | decide | omega : 4 + 0 ≤ _), (by first | decide | omega : 17 + 0 ≤ _)⟩))
      obtain ⟨rfl, N97q, hs97, P97⟩ := hQ97
      refine Done.go st97 ?_
      clear st97
      have N97 := Fr.app N96h N97q
      clear N97q
      have Z97 : n0 ≤ T97.heap.size := Nat.le_trans Z96 hs97
      obtain ⟨Lh97, X97h, N97h⟩ : ∃ L, Stand p l e room_1 s m #[(.int p0), (.int p1), (.int p2), (.int p3), (.int p4)] below meth c T97 L 4 17 ∧ Fr n0 L := ⟨_, X97, N97⟩
      clear X97 N97 X96h N96h Z96
      obtain ⟨E97, Fscores97, FscoredFor97, Fscored97, Fquery97, Fcount97, VD97, VF97, VS97⟩ := id P97
      show Done p e s below _ _ _ T97 (mkF m 353 #[.val (.int p0), .val (.int p1), .val (.int p2), .val (.int p3), .val (.int p4), .val (.int pa), .val (.int pa), .val (.int pa), .val (.int pe), .val (.ref b84), .val (.ref bS), .val (.ref bD), .val (.int (0 : Int32)), .val (.int (0 : Int32)), .val (.int (1 : Int32)), .val (.int (1 : Int32))] [])
      refine Done.go (fun _ kt_ => XS.iload X97h.here hx rfl (hb hby at_353) rfl kt_) ?_
      show Done p e s below _ _ _ T97 (mkF m 355 #[.val (.int p0), .val (.int p1), .val (.int p2), .val (.int p3), .val (.int p4), .val (.int pa), .val (.int pa), .val (.int pa), .val (.int pe), .val (.ref b84), .val (.ref bS), .val (.ref bD), .val (.int (0 : Int32)), .val (.int (0 : Int32)), .val (.int (1 : Int32)), .val (.int (1 : Int32))] [(.int (1 : Int32))])
      refine Done.go (fun _ kt_ => XS.ifNo X97h.here hx rfl (hb hby at_355) rfl ((if0 _ _).trans (feq (by decide)).1) kt_) ?_
      show Done p e s below _ _ _ T97 (mkF m 358 #[.val (.int p0), .val (.int p1), .val (.int p2), .val (.int p3), .val (.int p4), .val (.int pa), .val (.int pa), .val (.int pa), .val (.int pe), .val (.ref b84), .val (.ref bS), .val (.ref bD), .val (.int (0 : Int32)), .val (.int (0 : Int32)), .val (.int (1 : Int32)), .val (.int (1 : Int32))] [])
      refine Done.go (fun _ kt_ => XS.aload X97h.here hx rfl (hb hby at_358) rfl rfl kt_) ?_
      show Done p e s below _ _ _ T97 (mkF m 360 #[.val (.int p0), .val (.int p1), .val (.int p2), .val (.int p3), .val (.int p4), .val (.int pa), .val (.int pa), .val (.int pa), .val (.int pe), .val (.ref b84), .val (.ref bS), .val (.ref bD), .val (.int (0 : Int32)), .val (.int (0 : Int32)), .val (.int (1 : Int32)), .val (.int (1 : Int32))] [(.ref b84)])
      obtain ⟨cq98, kq98, q98a, q98b, q98c⟩ := isOf hZ rfl E97
      obtain ⟨v98, T98, Lc98, X98, hQ98, st98⟩ := own_backV (X97h.virtualBack hx (y := (⟨"com/example/pivotwise/pivotwise/retrieval/Scores", "count", "()I"⟩ : MethodName)) (z := (⟨"com/example/pivotwise/pivotwise/retrieval/Scores", "count", "()I"⟩ : MethodName)) hown (mvT hZ (hw _ (List.mem_of_getElem? (i := 41) rfl))) (mvT hZ (hw _ (List.mem_of_getElem? (i := 42) rfl))) (notFace_of_selects (args := #[]) (mvT hZ (hw _ (List.mem_of_getElem? (i := 44) rfl)))) (mvT hZ (hw _ (List.mem_of_getElem? (i := 44) rfl))) (mvT hZ (hw _ (List.mem_of_getElem? (i := 43) rfl))) (by decide) (backOf (W := 0) (rm7 l Z a0 hw [] b84 (1 : Int32) T97.heap n0 Z97 Fcount97) hZ (hw _ (List.mem_of_getElem? (i := 45) rfl)) (hw _ (List.mem_of_getElem? (i := 2) rfl)) (by decide) (by decide)) q98a q98c (g := (mkF m 360 #[.val (.int p0), .val (.int p1), .val (.int p2), .val (.int p3), .val (.int p4), .val (.int pa), .val (.int pa), .val (.int pa), .val (.int pe), .val (.ref b84), .val (.ref bS), .val (.ref bD), .val (.int (0 : Int32)), .val (.int (0 : Int32)), .val (.int (1 : Int32)), .val (.int (1 : Int32))] [(.ref b84)])) rfl (by rw [hml]; rfl) (Steps.refl _) (argsL := []) (rest := []) (lenOf own_pd5 rfl) rfl (by show 2 * 0 + _ ≤ _; exact Nat.le_of_eq rfl) (hb hby at_360) (fun _ _ => ⟨rfl, rfl, (by first | decide | omega : 4 + 0 ≤ _), (by first | decide | omega : 17 + 0 ≤ _)⟩))
      obtain ⟨rfl, N98q, e98⟩ := hQ98
      refine Done.go st98 ?_
      clear st98
      have N98 := Fr.app N97h N98q
      clear N98q
      obtain ⟨Lh98, X98h, N98h⟩ : ∃ L, Stand p l e room_1 s m #[(.int p0), (.int p1), (.int p2), (.int p3), (.int p4)] below meth c T98 L 4 17 ∧ Fr n0 L := ⟨_, X98, N98⟩
      clear X98 N98 X97h N97h
      show Done p e s below _ _ _ T98 (mkF m 363 #[.val (.int p0), .val (.int p1), .val (.int p2), .val (.int p3), .val (.int p4), .val (.int pa), .val (.int pa), .val (.int pa), .val (.int pe), .val (.ref b84), .val (.ref bS), .val (.ref bD), .val (.int (0 : Int32)), .val (.int (0 : Int32)), .val (.int (1 : Int32)), .val (.int (1 : Int32))] [(.int (1 : Int32))])
      refine Done.go (fun _ kt_ => XS.iconst X98h.here hx rfl (hb hby at_363) kt_) ?_
      show Done p e s below _ _ _ T98 (mkF m 364 #[.val (.int p0), .val (.int p1), .val (.int p2), .val (.int p3), .val (.int p4), .val (.int pa), .val (.int pa), .val (.int pa), .val (.int pe), .val (.ref b84), .val (.ref bS), .val (.ref bD), .val (.int (0 : Int32)), .val (.int (0 : Int32)), .val (.int (1 : Int32)), .val (.int (1 : Int32))] [(.int (1 : Int32)), (.int (1 : Int32))])
      refine Done.go (fun _ kt_ => XS.icmpNo X98h.here hx rfl (hb hby at_364) rfl (teq (by decide)).2 kt_) ?_
      show Done p e s below _ _ _ T98 (mkF m 367 #[.val (.int p0), .val (.int p1), .val (.int p2), .val (.int p3), .val (.int p4), .val (.int pa), .val (.int pa), .val (.int pa), .val (.int pe), .val (.ref b84), .val (.ref bS), .val (.ref bD), .val (.int (0 : Int32)), .val (.int (0 : Int32)), .val (.int (1 : Int32)), .val (.int (1 : Int32))] [])
      refine Done.go (fun _ kt_ => XS.aload X98h.here hx rfl (hb hby at_367) rfl rfl kt_) ?_
      show Done p e s below _ _ _ T98 (mkF m 369 #[.val (.int p0), .val (.int p1), .val (.int p2), .val (.int p3), .val (.int p4), .val (.int pa), .val (.int pa), .val (.int pa), .val (.int pe), .val (.ref b84), .val (.ref bS), .val (.ref bD), .val (.int (0 : Int32)), .val (.int (0 : Int32)), .val (.int (1 : Int32)), .val (.int (1 : Int32))] [(.ref bS)])
      refine Done.go (fun _ kt_ => XS.iconst X98h.here hx rfl (hb hby at_369) kt_) ?_
      show Done p e s below _ _ _ T98 (mkF m 370 #[.val (.int p0), .val (.int p1), .val (.int p2), .val (.int p3), .val (.int p4), .val (.int pa), .val (.int pa), .val (.int pa), .val (.int pe), .val (.ref b84), .val (.ref bS), .val (.ref bD), .val (.int (0 : Int32)), .val (.int (0 : Int32)), .val (.int (1 : Int32)), .val (.int (1 : Int32))] [(.int (0 : Int32)), (.ref bS)])
      refine Done.ldI X98h hx hZ e98 VS97 (j := (0 : Int32)) (w := pe) 0 (by decide) rfl (by decide) rfl (hb hby at_370) ?_
      show Done p e s below _ _ _ T98 (mkF m 371 #[.val (.int p0), .val (.int p1), .val (.int p2), .val (.int p3), .val (.int p4), .val (.int pa), .val (.int pa), .val (.int pa), .val (.int pe), .val (.ref b84), .val (.ref bS), .val (.ref bD), .val (.int (0 : Int32)), .val (.int (0 : Int32)), .val (.int (1 : Int32)), .val (.int (1 : Int32))] [(.int pe)])
      refine Done.go (fun _ kt_ => XS.iload X98h.here hx rfl (hb hby at_371) rfl kt_) ?_
      show Done p e s below _ _ _ T98 (mkF m 373 #[.val (.int p0), .val (.int p1), .val (.int p2), .val (.int p3), .val (.int p4), .val (.int pa), .val (.int pa), .val (.int pa), .val (.int pe), .val (.ref b84), .val (.ref bS), .val (.ref bD), .val (.int (0 : Int32)), .val (.int (0 : Int32)), .val (.int (1 : Int32)), .val (.int (1 : Int32))] [(.int pe), (.int pe)])
      refine Done.go (fun _ kt_ => XS.icmpNo X98h.here hx rfl (hb hby at_373) rfl (teq rfl).2 kt_) ?_
      show Done p e s below _ _ _ T98 (mkF m 376 #[.val (.int p0), .val (.int p1), .val (.int p2), .val (.int p3), .val (.int p4), .val (.int pa), .val (.int pa), .val (.int pa), .val (.int pe), .val (.ref b84), .val (.ref bS), .val (.ref bD), .val (.int (0 : Int32)), .val (.int (0 : Int32)), .val (.int (1 : Int32)), .val (.int (1 : Int32))] [])
      refine Done.go (fun _ kt_ => XS.aload X98h.here hx rfl (hb hby at_376) rfl rfl kt_) ?_
      show Done p e s below _ _ _ T98 (mkF m 378 #[.val (.int p0), .val (.int p1), .val (.int p2), .val (.int p3), .val (.int p4), .val (.int pa), .val (.int pa), .val (.int pa), .val (.int pe), .val (.ref b84), .val (.ref bS), .val (.ref bD), .val (.int (0 : Int32)), .val (.int (0 : Int32)), .val (.int (1 : Int32)), .val (.int (1 : Int32))] [(.ref bD)])
      refine Done.go (fun _ kt_ => XS.iload X98h.here hx rfl (hb hby at_378) rfl kt_) ?_
      show Done p e s below _ _ _ T98 (mkF m 380 #[.val (.int p0), .val (.int p1), .val (.int p2), .val (.int p3), .val (.int p4), .val (.int pa), .val (.int pa), .val (.int pa), .val (.int pe), .val (.ref b84), .val (.ref bS), .val (.ref bD), .val (.int (0 : Int32)), .val (.int (0 : Int32)), .val (.int (1 : Int32)), .val (.int (1 : Int32))] [(.int pe), (.ref bD)])
      refine Done.ldD X98h hx hZ e98 VD97 (j := pe) (y := ((0 : Int64) + (p4.toInt64))) Ee (own_ix hEe).1 (own_ix hEe).2 hEe4 (if_pos rfl) (hb hby at_380) ?_
      show Done p e s below _ _ _ T98 (mkF m 381 #[.val (.int p0), .val (.int p1), .val (.int p2), .val (.int p3), .val (.int p4), .val (.int pa), .val (.int pa), .val (.int pa), .val (.int pe), .val (.ref b84), .val (.ref bS), .val (.ref bD), .val (.int (0 : Int32)), .val (.int (0 : Int32)), .val (.int (1 : Int32)), .val (.int (1 : Int32))] [(.double (FP.l2d ((0 : Int64) + (p4.toInt64))))])
      refine Done.go (fun _ kt_ => XS.iload X98h.here hx rfl (hb hby at_381) rfl kt_) ?_
      show Done p e s below _ _ _ T98 (mkF m 383 #[.val (.int p0), .val (.int p1), .val (.int p2), .val (.int p3), .val (.int p4), .val (.int pa), .val (.int pa), .val (.int pa), .val (.int pe), .val (.ref b84), .val (.ref bS), .val (.ref bD), .val (.int (0 : Int32)), .val (.int (0 : Int32)), .val (.int (1 : Int32)), .val (.int (1 : Int32))] [(.int p4), (.double (FP.l2d ((0 : Int64) + (p4.toInt64))))])
      refine Done.go (fun _ kt_ => XS.i2dS X98h.here hx rfl (hb hby at_383) rfl (i2d_w p4) kt_) ?_
      show Done p e s below _ _ _ T98 (mkF m 384 #[.val (.int p0), .val (.int p1), .val (.int p2), .val (.int p3), .val (.int p4), .val (.int pa), .val (.int pa), .val (.int pa), .val (.int pe), .val (.ref b84), .val (.ref bS), .val (.ref bD), .val (.int (0 : Int32)), .val (.int (0 : Int32)), .val (.int (1 : Int32)), .val (.int (1 : Int32))] [(.double (FP.l2d (p4.toInt64))), (.double (FP.l2d ((0 : Int64) + (p4.toInt64))))])
      refine Done.go (fun _ kt_ => XS.dcmpS X98h.here hx rfl (hb hby at_384) rfl (dcmpV_w (own_leB (own_leA own_le0 (by decide) p4) (by decide)) (own_leB (own_leG p4) (by decide)) _) kt_) ?_
      show Done p e s below _ _ _ T98 (mkF m 385 #[.val (.int p0), .val (.int p1), .val (.int p2), .val (.int p3), .val (.int p4), .val (.int pa), .val (.int pa), .val (.int pa), .val (.int pe), .val (.ref b84), .val (.ref bS), .val (.ref bD), .val (.int (0 : Int32)), .val (.int (0 : Int32)), .val (.int (1 : Int32)), .val (.int (1 : Int32))] [(.int (lcmpW ((0 : Int64) + (p4.toInt64)) (p4.toInt64)))])
      refine Done.go (fun _ kt_ => XS.ifNo X98h.here hx rfl (hb hby at_385) rfl ((if0 _ _).trans (teq ((lw_eq _ _).mpr (Int64.zero_add _))).2) kt_) ?_
      show Done p e s below _ _ _ T98 (mkF m 388 #[.val (.int p0), .val (.int p1), .val (.int p2), .val (.int p3), .val (.int p4), .val (.int pa), .val (.int pa), .val (.int pa), .val (.int pe), .val (.ref b84), .val (.ref bS), .val (.ref bD), .val (.int (0 : Int32)), .val (.int (0 : Int32)), .val (.int (1 : Int32)), .val (.int (1 : Int32))] [])
      refine Done.go (fun _ kt_ => XS.iconst X98h.here hx rfl (hb hby at_388) kt_) ?_
      show Done p e s below _ _ _ T98 (mkF m 389 #[.val (.int p0), .val (.int p1), .val (.int p2), .val (.int p3), .val (.int p4), .val (.int pa), .val (.int pa), .val (.int pa), .val (.int pe), .val (.ref b84), .val (.ref bS), .val (.ref bD), .val (.int (0 : Int32)), .val (.int (0 : Int32)), .val (.int (1 : Int32)), .val (.int (1 : Int32))] [(.int (1 : Int32))])
      refine Done.go (fun _ kt_ => XS.goto X98h.here hx rfl (pc0 := 389) (pc' := 393) rfl (hb hby at_389) (by decide) (by decide) kt_) ?_
      show Done p e s below _ _ _ T98 (mkF m 393 #[.val (.int p0), .val (.int p1), .val (.int p2), .val (.int p3), .val (.int p4), .val (.int pa), .val (.int pa), .val (.int pa), .val (.int pe), .val (.ref b84), .val (.ref bS), .val (.ref bD), .val (.int (0 : Int32)), .val (.int (0 : Int32)), .val (.int (1 : Int32)), .val (.int (1 : Int32))] [(.int (1 : Int32))])
      refine Done.go (fun _ kt_ => XS.istore X98h.here hx rfl (hb hby at_393) rfl (l' := #[.val (.int p0), .val (.int p1), .val (.int p2), .val (.int p3), .val (.int p4), .val (.int pa), .val (.int pa), .val (.int pa), .val (.int pe), .val (.ref b84), .val (.ref bS), .val (.ref bD), .val (.int (0 : Int32)), .val (.int (0 : Int32)), .val (.int (1 : Int32)), .val (.int (1 : Int32))]) rfl kt_) ?_
      show Done p e s below _ _ _ T98 (mkF m 395 #[.val (.int p0), .val (.int p1), .val (.int p2), .val (.int p3), .val (.int p4), .val (.int pa), .val (.int pa), .val (.int pa), .val (.int pe), .val (.ref b84), .val (.ref bS), .val (.ref bD), .val (.int (0 : Int32)), .val (.int (0 : Int32)), .val (.int (1 : Int32)), .val (.int (1 : Int32))] [])
      refine Done.go (fun _ kt_ => XS.iload X98h.here hx rfl (hb hby at_395) rfl kt_) ?_
      show Done p e s below _ _ _ T98 (mkF m 397 #[.val (.int p0), .val (.int p1), .val (.int p2), .val (.int p3), .val (.int p4), .val (.int pa), .val (.int pa), .val (.int pa), .val (.int pe), .val (.ref b84), .val (.ref bS), .val (.ref bD), .val (.int (0 : Int32)), .val (.int (0 : Int32)), .val (.int (1 : Int32)), .val (.int (1 : Int32))] [(.int (1 : Int32))])
      refine Done.retN X98h hx hlk (t := .boolean) hrt (by simp) (z' := (1 : Int32)) rfl (hb hby at_397) ?_ (by first | decide | omega) (by first | decide | omega)
      rw [e98]
      exact ⟨rfl, N98h⟩
    · skip
      have n_ACc : ¬ A = Cc := hcs
      have n_CcA : ¬ Cc = A := fun q => hcs q.symm
      have i_papc : ¬ pa = pc := own_neN hA hCc hcs
      have i_pcpa : ¬ pc = pa := fun q => i_papc q.symm
      clear hcs
      show Done p e s below _ _ _ T90 (mkF m 74 #[.val (.int p0), .val (.int p1), .val (.int p2), .val (.int p3), .val (.int p4), .val (.int pa), .val (.int pa), .val (.int pc), .val (.int pe), .val (.ref b84), .val (.ref bS), .val (.ref bD), .unset, .unset, .unset, .unset] [])
      refine Done.go (fun _ kt_ => XS.aload X90h.here hx rfl (hb hby at_74) rfl rfl kt_) ?_
      show Done p e s below _ _ _ T90 (mkF m 76 #[.val (.int p0), .val (.int p1), .val (.int p2), .val (.int p3), .val (.int p4), .val (.int pa), .val (.int pa), .val (.int pc), .val (.int pe), .val (.ref b84), .val (.ref bS), .val (.ref bD), .unset, .unset, .unset, .unset] [(.ref b84)])
      refine Done.go (fun _ kt_ => XS.iload X90h.here hx rfl (hb hby at_76) rfl kt_) ?_
      show Done p e s below _ _ _ T90 (mkF m 78 #[.val (.int p0), .val (.int p1), .val (.int p2), .val (.int p3), .val (.int p4), .val (.int pa), .val (.int pa), .val (.int pc), .val (.int pe), .val (.ref b84), .val (.ref bS), .val (.ref bD), .unset, .unset, .unset, .unset] [(.int pc), (.ref b84)])
      refine Done.go (fun _ kt_ => XS.iloadN X90h.here hx rfl (hb hby at_78) rfl kt_) ?_
      show Done p e s below _ _ _ T90 (mkF m 79 #[.val (.int p0), .val (.int p1), .val (.int p2), .val (.int p3), .val (.int p4), .val (.int pa), .val (.int pa), .val (.int pc), .val (.int pe), .val (.ref b84), .val (.ref bS), .val (.ref bD), .unset, .unset, .unset, .unset] [(.int p3), (.int pc), (.ref b84)])
      refine Done.go (fun _ kt_ => XS.i2dS X90h.here hx rfl (hb hby at_79) rfl (i2d_w p3) kt_) ?_
      show Done p e s below _ _ _ T90 (mkF m 80 #[.val (.int p0), .val (.int p1), .val (.int p2), .val (.int p3), .val (.int p4), .val (.int pa), .val (.int pa), .val (.int pc), .val (.int pe), .val (.ref b84), .val (.ref bS), .val (.ref bD), .unset, .unset, .unset, .unset] [(.double (FP.l2d (p3.toInt64))), (.int pc), (.ref b84)])
      obtain ⟨cq99, kq99, q99a, q99b, q99c⟩ := isOf hZ rfl E90
      obtain ⟨v99, T99, Lc99, X99, hQ99, st99⟩ := own_backV (X90h.virtualBack hx (y := (⟨"com/example/pivotwise/pivotwise/retrieval/Scores", "add", "(ID)V"⟩ : MethodName)) (z := (⟨"com/example/pivotwise/pivotwise/retrieval/Scores", "add", "(ID)V"⟩ : MethodName)) hown (mvT hZ (hw _ (List.mem_of_getElem? (i := 36) rfl))) (mvT hZ (hw _ (List.mem_of_getElem? (i := 37) rfl))) (notFace_of_selects (args := #[]) (mvT hZ (hw _ (List.mem_of_getElem? (i := 39) rfl)))) (mvT hZ (hw _ (List.mem_of_getElem? (i := 39) rfl))) (mvT hZ (hw _ (List.mem_of_getElem? (i := 38) rfl))) (by decide) (backOf (W := 0) (rm6n l Z a0 hw [] b84 bD bF bS pc (p3.toInt64) (own_u (own_u (fun _ => (0 : Int64)) A (0 + (p1.toInt64))) A (((0 : Int64) + (p1.toInt64)) + (p2.toInt64))) (own_u (fun _ => (0 : Int32)) A (1 : Int32)) (own_u (fun _ => (0 : Int32)) 0 pa) (1 : Int32) (1 : Int32) Cc 1 (2 : Int32) T90.heap n0 Z90 ⟨E90, Fscores90, FscoredFor90, Fscored90, Fquery90, Fcount90, VD90, VF90, VS90⟩ hds hgs hCc hCc4 (own_leB (own_leG _) (by decide)) (by decide) (by decide) (by simp [own_u, n_ACc, n_CcA]) (by decide)) hZ (hw _ (List.mem_of_getElem? (i := 40) rfl)) (hw _ (List.mem_of_getElem? (i := 2) rfl)) (by decide) (by decide)) q99a q99c (g := (mkF m 80 #[.val (.int p0), .val (.int p1), .val (.int p2), .val (.int p3), .val (.int p4), .val (.int pa), .val (.int pa), .val (.int pc), .val (.int pe), .val (.ref b84), .val (.ref bS), .val (.ref bD), .unset, .unset, .unset, .unset] [(.double (FP.l2d (p3.toInt64))), (.int pc), (.ref b84)])) rfl (by rw [hml]; rfl) (Steps.refl _) (argsL := [(.int pc), (.double (FP.l2d (p3.toInt64)))]) (rest := []) (lenOf own_pd4 rfl) rfl (by show 2 * 0 + _ ≤ _; exact Nat.le_of_eq rfl) (hb hby at_80) (fun _ _ => ⟨rfl, rfl, (by first | decide | omega : 4 + 0 ≤ _), (by first | decide | omega : 17 + 0 ≤ _)⟩))
      obtain ⟨rfl, N99q, hs99, P99⟩ := hQ99
      refine Done.go st99 ?_
      clear st99
      have N99 := Fr.app N90h N99q
      clear N99q
      have Z99 : n0 ≤ T99.heap.size := Nat.le_trans Z90 hs99
      obtain ⟨Lh99, X99h, N99h⟩ : ∃ L, Stand p l e room_1 s m #[(.int p0), (.int p1), (.int p2), (.int p3), (.int p4)] below meth c T99 L 4 17 ∧ Fr n0 L := ⟨_, X99, N99⟩
      clear X99 N99 X90h N90h Z90
      obtain ⟨E99, Fscores99, FscoredFor99, Fscored99, Fquery99, Fcount99, VD99, VF99, VS99⟩ := id P99
      show Done p e s below _ _ _ T99 (mkF m 83 #[.val (.int p0), .val (.int p1), .val (.int p2), .val (.int p3), .val (.int p4), .val (.int pa), .val (.int pa), .val (.int pc), .val (.int pe), .val (.ref b84), .val (.ref bS), .val (.ref bD), .unset, .unset, .unset, .unset] [])
      refine Done.go (fun _ kt_ => XS.iload X99h.here hx rfl (hb hby at_83) rfl kt_) ?_
      show Done p e s below _ _ _ T99 (mkF m 85 #[.val (.int p0), .val (.int p1), .val (.int p2), .val (.int p3), .val (.int p4), .val (.int pa), .val (.int pa), .val (.int pc), .val (.int pe), .val (.ref b84), .val (.ref bS), .val (.ref bD), .unset, .unset, .unset, .unset] [(.int pa)])
      refine Done.go (fun _ kt_ => XS.iload X99h.here hx rfl (hb hby at_85) rfl kt_) ?_
      show Done p e s below _ _ _ T99 (mkF m 87 #[.val (.int p0), .val (.int p1), .val (.int p2), .val (.int p3), .val (.int p4), .val (.int pa), .val (.int pa), .val (.int pc), .val (.int pe), .val (.ref b84), .val (.ref bS), .val (.ref bD), .unset, .unset, .unset, .unset] [(.int pa), (.int pa)])
      refine Done.go (fun _ kt_ => XS.icmpYes X99h.here hx rfl (pc0 := 87) (pc' := 94) rfl (hb hby at_87) rfl (teq rfl).1 (by decide) (by decide) kt_) ?_
      show Done p e s below _ _ _ T99 (mkF m 94 #[.val (.int p0), .val (.int p1), .val (.int p2), .val (.int p3), .val (.int p4), .val (.int pa), .val (.int pa), .val (.int pc), .val (.int pe), .val (.ref b84), .val (.ref bS), .val (.ref bD), .unset, .unset, .unset, .unset] [])
      refine Done.go (fun _ kt_ => XS.iconst X99h.here hx rfl (hb hby at_94) kt_) ?_
      show Done p e s below _ _ _ T99 (mkF m 95 #[.val (.int p0), .val (.int p1), .val (.int p2), .val (.int p3), .val (.int p4), .val (.int pa), .val (.int pa), .val (.int pc), .val (.int pe), .val (.ref b84), .val (.ref bS), .val (.ref bD), .unset, .unset, .unset, .unset] [(.int (0 : Int32))])
      refine Done.go (fun _ kt_ => XS.istore X99h.here hx rfl (hb hby at_95) rfl (l' := #[.val (.int p0), .val (.int p1), .val (.int p2), .val (.int p3), .val (.int p4), .val (.int pa), .val (.int pa), .val (.int pc), .val (.int pe), .val (.ref b84), .val (.ref bS), .val (.ref bD), .val (.int (0 : Int32)), .unset, .unset, .unset]) rfl kt_) ?_
      show Done p e s below _ _ _ T99 (mkF m 97 #[.val (.int p0), .val (.int p1), .val (.int p2), .val (.int p3), .val (.int p4), .val (.int pa), .val (.int pa), .val (.int pc), .val (.int pe), .val (.ref b84), .val (.ref bS), .val (.ref bD), .val (.int (0 : Int32)), .unset, .unset, .unset] [])
      refine Done.go (fun _ kt_ => XS.iload X99h.here hx rfl (hb hby at_97) rfl kt_) ?_
      show Done p e s below _ _ _ T99 (mkF m 99 #[.val (.int p0), .val (.int p1), .val (.int p2), .val (.int p3), .val (.int p4), .val (.int pa), .val (.int pa), .val (.int pc), .val (.int pe), .val (.ref b84), .val (.ref bS), .val (.ref bD), .val (.int (0 : Int32)), .unset, .unset, .unset] [(.int pc)])
      refine Done.go (fun _ kt_ => XS.iload X99h.here hx rfl (hb hby at_99) rfl kt_) ?_
      show Done p e s below _ _ _ T99 (mkF m 101 #[.val (.int p0), .val (.int p1), .val (.int p2), .val (.int p3), .val (.int p4), .val (.int pa), .val (.int pa), .val (.int pc), .val (.int pe), .val (.ref b84), .val (.ref bS), .val (.ref bD), .val (.int (0 : Int32)), .unset, .unset, .unset] [(.int pa), (.int pc)])
      refine Done.go (fun _ kt_ => XS.icmpNo X99h.here hx rfl (hb hby at_101) rfl (feq i_pcpa).1 kt_) ?_
      show Done p e s below _ _ _ T99 (mkF m 104 #[.val (.int p0), .val (.int p1), .val (.int p2), .val (.int p3), .val (.int p4), .val (.int pa), .val (.int pa), .val (.int pc), .val (.int pe), .val (.ref b84), .val (.ref bS), .val (.ref bD), .val (.int (0 : Int32)), .unset, .unset, .unset] [])
      refine Done.go (fun _ kt_ => XS.iload X99h.here hx rfl (hb hby at_104) rfl kt_) ?_
      show Done p e s below _ _ _ T99 (mkF m 106 #[.val (.int p0), .val (.int p1), .val (.int p2), .val (.int p3), .val (.int p4), .val (.int pa), .val (.int pa), .val (.int pc), .val (.int pe), .val (.ref b84), .val (.ref bS), .val (.ref bD), .val (.int (0 : Int32)), .unset, .unset, .unset] [(.int pc)])
      refine Done.go (fun _ kt_ => XS.iload X99h.here hx rfl (hb hby at_106) rfl kt_) ?_
      show Done p e s below _ _ _ T99 (mkF m 108 #[.val (.int p0), .val (.int p1), .val (.int p2), .val (.int p3), .val (.int p4), .val (.int pa), .val (.int pa), .val (.int pc), .val (.int pe), .val (.ref b84), .val (.ref bS), .val (.ref bD), .val (.int (0 : Int32)), .unset, .unset, .unset] [(.int pa), (.int pc)])
      refine Done.go (fun _ kt_ => XS.icmpNo X99h.here hx rfl (hb hby at_108) rfl (feq i_pcpa).1 kt_) ?_
      show Done p e s below _ _ _ T99 (mkF m 111 #[.val (.int p0), .val (.int p1), .val (.int p2), .val (.int p3), .val (.int p4), .val (.int pa), .val (.int pa), .val (.int pc), .val (.int pe), .val (.ref b84), .val (.ref bS), .val (.ref bD), .val (.int (0 : Int32)), .unset, .unset, .unset] [])
      refine Done.go (fun _ kt_ => XS.iconst X99h.here hx rfl (hb hby at_111) kt_) ?_
      show Done p e s below _ _ _ T99 (mkF m 112 #[.val (.int p0), .val (.int p1), .val (.int p2), .val (.int p3), .val (.int p4), .val (.int pa), .val (.int pa), .val (.int pc), .val (.int pe), .val (.ref b84), .val (.ref bS), .val (.ref bD), .val (.int (0 : Int32)), .unset, .unset, .unset] [(.int (1 : Int32))])
      refine Done.go (fun _ kt_ => XS.goto X99h.here hx rfl (pc0 := 112) (pc' := 116) rfl (hb hby at_112) (by decide) (by decide) kt_) ?_
      show Done p e s below _ _ _ T99 (mkF m 116 #[.val (.int p0), .val (.int p1), .val (.int p2), .val (.int p3), .val (.int p4), .val (.int pa), .val (.int pa), .val (.int pc), .val (.int pe), .val (.ref b84), .val (.ref bS), .val (.ref bD), .val (.int (0 : Int32)), .unset, .unset, .unset] [(.int (1 : Int32))])
      refine Done.go (fun _ kt_ => XS.istore X99h.here hx rfl (hb hby at_116) rfl (l' := #[.val (.int p0), .val (.int p1), .val (.int p2), .val (.int p3), .val (.int p4), .val (.int pa), .val (.int pa), .val (.int pc), .val (.int pe), .val (.ref b84), .val (.ref bS), .val (.ref bD), .val (.int (0 : Int32)), .val (.int (1 : Int32)), .unset, .unset]) rfl kt_) ?_
      show Done p e s below _ _ _ T99 (mkF m 118 #[.val (.int p0), .val (.int p1), .val (.int p2), .val (.int p3), .val (.int p4), .val (.int pa), .val (.int pa), .val (.int pc), .val (.int pe), .val (.ref b84), .val (.ref bS), .val (.ref bD), .val (.int (0 : Int32)), .val (.int (1 : Int32)), .unset, .unset] [])
      refine Done.go (fun _ kt_ => XS.iconst X99h.here hx rfl (hb hby at_118) kt_) ?_
      show Done p e s below _ _ _ T99 (mkF m 119 #[.val (.int p0), .val (.int p1), .val (.int p2), .val (.int p3), .val (.int p4), .val (.int pa), .val (.int pa), .val (.int pc), .val (.int pe), .val (.ref b84), .val (.ref bS), .val (.ref bD), .val (.int (0 : Int32)), .val (.int (1 : Int32)), .unset, .unset] [(.int (1 : Int32))])
      refine Done.go (fun _ kt_ => XS.iload X99h.here hx rfl (hb hby at_119) rfl kt_) ?_
      show Done p e s below _ _ _ T99 (mkF m 121 #[.val (.int p0), .val (.int p1), .val (.int p2), .val (.int p3), .val (.int p4), .val (.int pa), .val (.int pa), .val (.int pc), .val (.int pe), .val (.ref b84), .val (.ref bS), .val (.ref bD), .val (.int (0 : Int32)), .val (.int (1 : Int32)), .unset, .unset] [(.int (0 : Int32)), (.int (1 : Int32))])
      refine Done.go (fun _ kt_ => XS.ifYes X99h.here hx rfl (pc0 := 121) (pc' := 128) rfl (hb hby at_121) rfl ((if0 _ _).trans (teq (by decide)).1) (by decide) (by decide) kt_) ?_
      show Done p e s below _ _ _ T99 (mkF m 128 #[.val (.int p0), .val (.int p1), .val (.int p2), .val (.int p3), .val (.int p4), .val (.int pa), .val (.int pa), .val (.int pc), .val (.int pe), .val (.ref b84), .val (.ref bS), .val (.ref bD), .val (.int (0 : Int32)), .val (.int (1 : Int32)), .unset, .unset] [(.int (1 : Int32))])
      refine Done.go (fun _ kt_ => XS.iconst X99h.here hx rfl (hb hby at_128) kt_) ?_
      show Done p e s below _ _ _ T99 (mkF m 129 #[.val (.int p0), .val (.int p1), .val (.int p2), .val (.int p3), .val (.int p4), .val (.int pa), .val (.int pa), .val (.int pc), .val (.int pe), .val (.ref b84), .val (.ref bS), .val (.ref bD), .val (.int (0 : Int32)), .val (.int (1 : Int32)), .unset, .unset] [(.int (0 : Int32)), (.int (1 : Int32))])
      refine Done.go (fun _ kt_ => XS.iadd X99h.here hx rfl (hb hby at_129) rfl kt_) ?_
      show Done p e s below _ _ _ T99 (mkF m 130 #[.val (.int p0), .val (.int p1), .val (.int p2), .val (.int p3), .val (.int p4), .val (.int pa), .val (.int pa), .val (.int pc), .val (.int pe), .val (.ref b84), .val (.ref bS), .val (.ref bD), .val (.int (0 : Int32)), .val (.int (1 : Int32)), .unset, .unset] [(.int ((1 : Int32) + (0 : Int32)))])
      rw [show ((1 : Int32) + (0 : Int32)) = (1 : Int32) from by decide]
      show Done p e s below _ _ _ T99 (mkF m 130 #[.val (.int p0), .val (.int p1), .val (.int p2), .val (.int p3), .val (.int p4), .val (.int pa), .val (.int pa), .val (.int pc), .val (.int pe), .val (.ref b84), .val (.ref bS), .val (.ref bD), .val (.int (0 : Int32)), .val (.int (1 : Int32)), .unset, .unset] [(.int (1 : Int32))])
      refine Done.go (fun _ kt_ => XS.iload X99h.here hx rfl (hb hby at_130) rfl kt_) ?_
      show Done p e s below _ _ _ T99 (mkF m 132 #[.val (.int p0), .val (.int p1), .val (.int p2), .val (.int p3), .val (.int p4), .val (.int pa), .val (.int pa), .val (.int pc), .val (.int pe), .val (.ref b84), .val (.ref bS), .val (.ref bD), .val (.int (0 : Int32)), .val (.int (1 : Int32)), .unset, .unset] [(.int (1 : Int32)), (.int (1 : Int32))])
      refine Done.go (fun _ kt_ => XS.ifNo X99h.here hx rfl (hb hby at_132) rfl ((if0 _ _).trans (feq (by decide)).1) kt_) ?_
      show Done p e s below _ _ _ T99 (mkF m 135 #[.val (.int p0), .val (.int p1), .val (.int p2), .val (.int p3), .val (.int p4), .val (.int pa), .val (.int pa), .val (.int pc), .val (.int pe), .val (.ref b84), .val (.ref bS), .val (.ref bD), .val (.int (0 : Int32)), .val (.int (1 : Int32)), .unset, .unset] [(.int (1 : Int32))])
      refine Done.go (fun _ kt_ => XS.iconst X99h.here hx rfl (hb hby at_135) kt_) ?_
      show Done p e s below _ _ _ T99 (mkF m 136 #[.val (.int p0), .val (.int p1), .val (.int p2), .val (.int p3), .val (.int p4), .val (.int pa), .val (.int pa), .val (.int pc), .val (.int pe), .val (.ref b84), .val (.ref bS), .val (.ref bD), .val (.int (0 : Int32)), .val (.int (1 : Int32)), .unset, .unset] [(.int (1 : Int32)), (.int (1 : Int32))])
      refine Done.go (fun _ kt_ => XS.goto X99h.here hx rfl (pc0 := 136) (pc' := 140) rfl (hb hby at_136) (by decide) (by decide) kt_) ?_
      show Done p e s below _ _ _ T99 (mkF m 140 #[.val (.int p0), .val (.int p1), .val (.int p2), .val (.int p3), .val (.int p4), .val (.int pa), .val (.int pa), .val (.int pc), .val (.int pe), .val (.ref b84), .val (.ref bS), .val (.ref bD), .val (.int (0 : Int32)), .val (.int (1 : Int32)), .unset, .unset] [(.int (1 : Int32)), (.int (1 : Int32))])
      refine Done.go (fun _ kt_ => XS.iadd X99h.here hx rfl (hb hby at_140) rfl kt_) ?_
      show Done p e s below _ _ _ T99 (mkF m 141 #[.val (.int p0), .val (.int p1), .val (.int p2), .val (.int p3), .val (.int p4), .val (.int pa), .val (.int pa), .val (.int pc), .val (.int pe), .val (.ref b84), .val (.ref bS), .val (.ref bD), .val (.int (0 : Int32)), .val (.int (1 : Int32)), .unset, .unset] [(.int ((1 : Int32) + (1 : Int32)))])
      rw [show ((1 : Int32) + (1 : Int32)) = (2 : Int32) from by decide]
      show Done p e s below _ _ _ T99 (mkF m 141 #[.val (.int p0), .val (.int p1), .val (.int p2), .val (.int p3), .val (.int p4), .val (.int pa), .val (.int pa), .val (.int pc), .val (.int pe), .val (.ref b84), .val (.ref bS), .val (.ref bD), .val (.int (0 : Int32)), .val (.int (1 : Int32)), .unset, .unset] [(.int (2 : Int32))])
      refine Done.go (fun _ kt_ => XS.istore X99h.here hx rfl (hb hby at_141) rfl (l' := #[.val (.int p0), .val (.int p1), .val (.int p2), .val (.int p3), .val (.int p4), .val (.int pa), .val (.int pa), .val (.int pc), .val (.int pe), .val (.ref b84), .val (.ref bS), .val (.ref bD), .val (.int (0 : Int32)), .val (.int (1 : Int32)), .val (.int (2 : Int32)), .unset]) rfl kt_) ?_
      show Done p e s below _ _ _ T99 (mkF m 143 #[.val (.int p0), .val (.int p1), .val (.int p2), .val (.int p3), .val (.int p4), .val (.int pa), .val (.int pa), .val (.int pc), .val (.int pe), .val (.ref b84), .val (.ref bS), .val (.ref bD), .val (.int (0 : Int32)), .val (.int (1 : Int32)), .val (.int (2 : Int32)), .unset] [])
      refine Done.go (fun _ kt_ => XS.aload X99h.here hx rfl (hb hby at_143) rfl rfl kt_) ?_
      show Done p e s below _ _ _ T99 (mkF m 145 #[.val (.int p0), .val (.int p1), .val (.int p2), .val (.int p3), .val (.int p4), .val (.int pa), .val (.int pa), .val (.int pc), .val (.int pe), .val (.ref b84), .val (.ref bS), .val (.ref bD), .val (.int (0 : Int32)), .val (.int (1 : Int32)), .val (.int (2 : Int32)), .unset] [(.ref b84)])
      obtain ⟨cq100, kq100, q100a, q100b, q100c⟩ := isOf hZ rfl E99
      obtain ⟨v100, T100, Lc100, X100, hQ100, st100⟩ := own_backV (X99h.virtualBack hx (y := (⟨"com/example/pivotwise/pivotwise/retrieval/Scores", "count", "()I"⟩ : MethodName)) (z := (⟨"com/example/pivotwise/pivotwise/retrieval/Scores", "count", "()I"⟩ : MethodName)) hown (mvT hZ (hw _ (List.mem_of_getElem? (i := 41) rfl))) (mvT hZ (hw _ (List.mem_of_getElem? (i := 42) rfl))) (notFace_of_selects (args := #[]) (mvT hZ (hw _ (List.mem_of_getElem? (i := 44) rfl)))) (mvT hZ (hw _ (List.mem_of_getElem? (i := 44) rfl))) (mvT hZ (hw _ (List.mem_of_getElem? (i := 43) rfl))) (by decide) (backOf (W := 0) (rm7 l Z a0 hw [] b84 (2 : Int32) T99.heap n0 Z99 Fcount99) hZ (hw _ (List.mem_of_getElem? (i := 45) rfl)) (hw _ (List.mem_of_getElem? (i := 2) rfl)) (by decide) (by decide)) q100a q100c (g := (mkF m 145 #[.val (.int p0), .val (.int p1), .val (.int p2), .val (.int p3), .val (.int p4), .val (.int pa), .val (.int pa), .val (.int pc), .val (.int pe), .val (.ref b84), .val (.ref bS), .val (.ref bD), .val (.int (0 : Int32)), .val (.int (1 : Int32)), .val (.int (2 : Int32)), .unset] [(.ref b84)])) rfl (by rw [hml]; rfl) (Steps.refl _) (argsL := []) (rest := []) (lenOf own_pd5 rfl) rfl (by show 2 * 0 + _ ≤ _; exact Nat.le_of_eq rfl) (hb hby at_145) (fun _ _ => ⟨rfl, rfl, (by first | decide | omega : 4 + 0 ≤ _), (by first | decide | omega : 17 + 0 ≤ _)⟩))
      obtain ⟨rfl, N100q, e100⟩ := hQ100
      refine Done.go st100 ?_
      clear st100
      have N100 := Fr.app N99h N100q
      clear N100q
      obtain ⟨Lh100, X100h, N100h⟩ : ∃ L, Stand p l e room_1 s m #[(.int p0), (.int p1), (.int p2), (.int p3), (.int p4)] below meth c T100 L 4 17 ∧ Fr n0 L := ⟨_, X100, N100⟩
      clear X100 N100 X99h N99h
      show Done p e s below _ _ _ T100 (mkF m 148 #[.val (.int p0), .val (.int p1), .val (.int p2), .val (.int p3), .val (.int p4), .val (.int pa), .val (.int pa), .val (.int pc), .val (.int pe), .val (.ref b84), .val (.ref bS), .val (.ref bD), .val (.int (0 : Int32)), .val (.int (1 : Int32)), .val (.int (2 : Int32)), .unset] [(.int (2 : Int32))])
      refine Done.go (fun _ kt_ => XS.iload X100h.here hx rfl (hb hby at_148) rfl kt_) ?_
      show Done p e s below _ _ _ T100 (mkF m 150 #[.val (.int p0), .val (.int p1), .val (.int p2), .val (.int p3), .val (.int p4), .val (.int pa), .val (.int pa), .val (.int pc), .val (.int pe), .val (.ref b84), .val (.ref bS), .val (.ref bD), .val (.int (0 : Int32)), .val (.int (1 : Int32)), .val (.int (2 : Int32)), .unset] [(.int (2 : Int32)), (.int (2 : Int32))])
      refine Done.go (fun _ kt_ => XS.icmpNo X100h.here hx rfl (hb hby at_150) rfl (teq (by decide)).2 kt_) ?_
      show Done p e s below _ _ _ T100 (mkF m 153 #[.val (.int p0), .val (.int p1), .val (.int p2), .val (.int p3), .val (.int p4), .val (.int pa), .val (.int pa), .val (.int pc), .val (.int pe), .val (.ref b84), .val (.ref bS), .val (.ref bD), .val (.int (0 : Int32)), .val (.int (1 : Int32)), .val (.int (2 : Int32)), .unset] [])
      refine Done.go (fun _ kt_ => XS.aload X100h.here hx rfl (hb hby at_153) rfl rfl kt_) ?_
      show Done p e s below _ _ _ T100 (mkF m 155 #[.val (.int p0), .val (.int p1), .val (.int p2), .val (.int p3), .val (.int p4), .val (.int pa), .val (.int pa), .val (.int pc), .val (.int pe), .val (.ref b84), .val (.ref bS), .val (.ref bD), .val (.int (0 : Int32)), .val (.int (1 : Int32)), .val (.int (2 : Int32)), .unset] [(.ref bS)])
      refine Done.go (fun _ kt_ => XS.iconst X100h.here hx rfl (hb hby at_155) kt_) ?_
      show Done p e s below _ _ _ T100 (mkF m 156 #[.val (.int p0), .val (.int p1), .val (.int p2), .val (.int p3), .val (.int p4), .val (.int pa), .val (.int pa), .val (.int pc), .val (.int pe), .val (.ref b84), .val (.ref bS), .val (.ref bD), .val (.int (0 : Int32)), .val (.int (1 : Int32)), .val (.int (2 : Int32)), .unset] [(.int (0 : Int32)), (.ref bS)])
      refine Done.ldI X100h hx hZ e100 VS99 (j := (0 : Int32)) (w := pa) 0 (by decide) rfl (by decide) rfl (hb hby at_156) ?_
      show Done p e s below _ _ _ T100 (mkF m 157 #[.val (.int p0), .val (.int p1), .val (.int p2), .val (.int p3), .val (.int p4), .val (.int pa), .val (.int pa), .val (.int pc), .val (.int pe), .val (.ref b84), .val (.ref bS), .val (.ref bD), .val (.int (0 : Int32)), .val (.int (1 : Int32)), .val (.int (2 : Int32)), .unset] [(.int pa)])
      refine Done.go (fun _ kt_ => XS.iload X100h.here hx rfl (hb hby at_157) rfl kt_) ?_
      show Done p e s below _ _ _ T100 (mkF m 159 #[.val (.int p0), .val (.int p1), .val (.int p2), .val (.int p3), .val (.int p4), .val (.int pa), .val (.int pa), .val (.int pc), .val (.int pe), .val (.ref b84), .val (.ref bS), .val (.ref bD), .val (.int (0 : Int32)), .val (.int (1 : Int32)), .val (.int (2 : Int32)), .unset] [(.int pa), (.int pa)])
      refine Done.go (fun _ kt_ => XS.icmpNo X100h.here hx rfl (hb hby at_159) rfl (teq rfl).2 kt_) ?_
      show Done p e s below _ _ _ T100 (mkF m 162 #[.val (.int p0), .val (.int p1), .val (.int p2), .val (.int p3), .val (.int p4), .val (.int pa), .val (.int pa), .val (.int pc), .val (.int pe), .val (.ref b84), .val (.ref bS), .val (.ref bD), .val (.int (0 : Int32)), .val (.int (1 : Int32)), .val (.int (2 : Int32)), .unset] [])
      refine Done.go (fun _ kt_ => XS.iconst X100h.here hx rfl (hb hby at_162) kt_) ?_
      show Done p e s below _ _ _ T100 (mkF m 163 #[.val (.int p0), .val (.int p1), .val (.int p2), .val (.int p3), .val (.int p4), .val (.int pa), .val (.int pa), .val (.int pc), .val (.int pe), .val (.ref b84), .val (.ref bS), .val (.ref bD), .val (.int (0 : Int32)), .val (.int (1 : Int32)), .val (.int (2 : Int32)), .unset] [(.int (1 : Int32))])
      refine Done.go (fun _ kt_ => XS.goto X100h.here hx rfl (pc0 := 163) (pc' := 167) rfl (hb hby at_163) (by decide) (by decide) kt_) ?_
      show Done p e s below _ _ _ T100 (mkF m 167 #[.val (.int p0), .val (.int p1), .val (.int p2), .val (.int p3), .val (.int p4), .val (.int pa), .val (.int pa), .val (.int pc), .val (.int pe), .val (.ref b84), .val (.ref bS), .val (.ref bD), .val (.int (0 : Int32)), .val (.int (1 : Int32)), .val (.int (2 : Int32)), .unset] [(.int (1 : Int32))])
      refine Done.go (fun _ kt_ => XS.istore X100h.here hx rfl (hb hby at_167) rfl (l' := #[.val (.int p0), .val (.int p1), .val (.int p2), .val (.int p3), .val (.int p4), .val (.int pa), .val (.int pa), .val (.int pc), .val (.int pe), .val (.ref b84), .val (.ref bS), .val (.ref bD), .val (.int (0 : Int32)), .val (.int (1 : Int32)), .val (.int (2 : Int32)), .val (.int (1 : Int32))]) rfl kt_) ?_
      show Done p e s below _ _ _ T100 (mkF m 169 #[.val (.int p0), .val (.int p1), .val (.int p2), .val (.int p3), .val (.int p4), .val (.int pa), .val (.int pa), .val (.int pc), .val (.int pe), .val (.ref b84), .val (.ref bS), .val (.ref bD), .val (.int (0 : Int32)), .val (.int (1 : Int32)), .val (.int (2 : Int32)), .val (.int (1 : Int32))] [])
      refine Done.go (fun _ kt_ => XS.iload X100h.here hx rfl (hb hby at_169) rfl kt_) ?_
      show Done p e s below _ _ _ T100 (mkF m 171 #[.val (.int p0), .val (.int p1), .val (.int p2), .val (.int p3), .val (.int p4), .val (.int pa), .val (.int pa), .val (.int pc), .val (.int pe), .val (.ref b84), .val (.ref bS), .val (.ref bD), .val (.int (0 : Int32)), .val (.int (1 : Int32)), .val (.int (2 : Int32)), .val (.int (1 : Int32))] [(.int (2 : Int32))])
      refine Done.go (fun _ kt_ => XS.iconst X100h.here hx rfl (hb hby at_171) kt_) ?_
      show Done p e s below _ _ _ T100 (mkF m 172 #[.val (.int p0), .val (.int p1), .val (.int p2), .val (.int p3), .val (.int p4), .val (.int pa), .val (.int pa), .val (.int pc), .val (.int pe), .val (.ref b84), .val (.ref bS), .val (.ref bD), .val (.int (0 : Int32)), .val (.int (1 : Int32)), .val (.int (2 : Int32)), .val (.int (1 : Int32))] [(.int (2 : Int32)), (.int (2 : Int32))])
      refine Done.go (fun _ kt_ => XS.icmpNo X100h.here hx rfl (hb hby at_172) rfl (flt (by decide)).1 kt_) ?_
      show Done p e s below _ _ _ T100 (mkF m 175 #[.val (.int p0), .val (.int p1), .val (.int p2), .val (.int p3), .val (.int p4), .val (.int pa), .val (.int pa), .val (.int pc), .val (.int pe), .val (.ref b84), .val (.ref bS), .val (.ref bD), .val (.int (0 : Int32)), .val (.int (1 : Int32)), .val (.int (2 : Int32)), .val (.int (1 : Int32))] [])
      refine Done.go (fun _ kt_ => XS.iload X100h.here hx rfl (hb hby at_175) rfl kt_) ?_
      show Done p e s below _ _ _ T100 (mkF m 177 #[.val (.int p0), .val (.int p1), .val (.int p2), .val (.int p3), .val (.int p4), .val (.int pa), .val (.int pa), .val (.int pc), .val (.int pe), .val (.ref b84), .val (.ref bS), .val (.ref bD), .val (.int (0 : Int32)), .val (.int (1 : Int32)), .val (.int (2 : Int32)), .val (.int (1 : Int32))] [(.int (1 : Int32))])
      refine Done.go (fun _ kt_ => XS.ifNo X100h.here hx rfl (hb hby at_177) rfl ((if0 _ _).trans (feq (by decide)).1) kt_) ?_
      show Done p e s below _ _ _ T100 (mkF m 180 #[.val (.int p0), .val (.int p1), .val (.int p2), .val (.int p3), .val (.int p4), .val (.int pa), .val (.int pa), .val (.int pc), .val (.int pe), .val (.ref b84), .val (.ref bS), .val (.ref bD), .val (.int (0 : Int32)), .val (.int (1 : Int32)), .val (.int (2 : Int32)), .val (.int (1 : Int32))] [])
      refine Done.go (fun _ kt_ => XS.aload X100h.here hx rfl (hb hby at_180) rfl rfl kt_) ?_
      show Done p e s below _ _ _ T100 (mkF m 182 #[.val (.int p0), .val (.int p1), .val (.int p2), .val (.int p3), .val (.int p4), .val (.int pa), .val (.int pa), .val (.int pc), .val (.int pe), .val (.ref b84), .val (.ref bS), .val (.ref bD), .val (.int (0 : Int32)), .val (.int (1 : Int32)), .val (.int (2 : Int32)), .val (.int (1 : Int32))] [(.ref bS)])
      refine Done.go (fun _ kt_ => XS.iconst X100h.here hx rfl (hb hby at_182) kt_) ?_
      show Done p e s below _ _ _ T100 (mkF m 183 #[.val (.int p0), .val (.int p1), .val (.int p2), .val (.int p3), .val (.int p4), .val (.int pa), .val (.int pa), .val (.int pc), .val (.int pe), .val (.ref b84), .val (.ref bS), .val (.ref bD), .val (.int (0 : Int32)), .val (.int (1 : Int32)), .val (.int (2 : Int32)), .val (.int (1 : Int32))] [(.int (1 : Int32)), (.ref bS)])
      refine Done.ldI X100h hx hZ e100 VS99 (j := (1 : Int32)) (w := pc) 1 (by decide) rfl (by decide) rfl (hb hby at_183) ?_
      show Done p e s below _ _ _ T100 (mkF m 184 #[.val (.int p0), .val (.int p1), .val (.int p2), .val (.int p3), .val (.int p4), .val (.int pa), .val (.int pa), .val (.int pc), .val (.int pe), .val (.ref b84), .val (.ref bS), .val (.ref bD), .val (.int (0 : Int32)), .val (.int (1 : Int32)), .val (.int (2 : Int32)), .val (.int (1 : Int32))] [(.int pc)])
      refine Done.go (fun _ kt_ => XS.iload X100h.here hx rfl (hb hby at_184) rfl kt_) ?_
      show Done p e s below _ _ _ T100 (mkF m 186 #[.val (.int p0), .val (.int p1), .val (.int p2), .val (.int p3), .val (.int p4), .val (.int pa), .val (.int pa), .val (.int pc), .val (.int pe), .val (.ref b84), .val (.ref bS), .val (.ref bD), .val (.int (0 : Int32)), .val (.int (1 : Int32)), .val (.int (2 : Int32)), .val (.int (1 : Int32))] [(.int (0 : Int32)), (.int pc)])
      refine Done.go (fun _ kt_ => XS.ifYes X100h.here hx rfl (pc0 := 186) (pc' := 194) rfl (hb hby at_186) rfl ((if0 _ _).trans (teq (by decide)).1) (by decide) (by decide) kt_) ?_
      show Done p e s below _ _ _ T100 (mkF m 194 #[.val (.int p0), .val (.int p1), .val (.int p2), .val (.int p3), .val (.int p4), .val (.int pa), .val (.int pa), .val (.int pc), .val (.int pe), .val (.ref b84), .val (.ref bS), .val (.ref bD), .val (.int (0 : Int32)), .val (.int (1 : Int32)), .val (.int (2 : Int32)), .val (.int (1 : Int32))] [(.int pc)])
      refine Done.go (fun _ kt_ => XS.iload X100h.here hx rfl (hb hby at_194) rfl kt_) ?_
      show Done p e s below _ _ _ T100 (mkF m 196 #[.val (.int p0), .val (.int p1), .val (.int p2), .val (.int p3), .val (.int p4), .val (.int pa), .val (.int pa), .val (.int pc), .val (.int pe), .val (.ref b84), .val (.ref bS), .val (.ref bD), .val (.int (0 : Int32)), .val (.int (1 : Int32)), .val (.int (2 : Int32)), .val (.int (1 : Int32))] [(.int pc), (.int pc)])
      refine Done.go (fun _ kt_ => XS.icmpNo X100h.here hx rfl (hb hby at_196) rfl (teq rfl).2 kt_) ?_
      show Done p e s below _ _ _ T100 (mkF m 199 #[.val (.int p0), .val (.int p1), .val (.int p2), .val (.int p3), .val (.int p4), .val (.int pa), .val (.int pa), .val (.int pc), .val (.int pe), .val (.ref b84), .val (.ref bS), .val (.ref bD), .val (.int (0 : Int32)), .val (.int (1 : Int32)), .val (.int (2 : Int32)), .val (.int (1 : Int32))] [])
      refine Done.go (fun _ kt_ => XS.iconst X100h.here hx rfl (hb hby at_199) kt_) ?_
      show Done p e s below _ _ _ T100 (mkF m 200 #[.val (.int p0), .val (.int p1), .val (.int p2), .val (.int p3), .val (.int p4), .val (.int pa), .val (.int pa), .val (.int pc), .val (.int pe), .val (.ref b84), .val (.ref bS), .val (.ref bD), .val (.int (0 : Int32)), .val (.int (1 : Int32)), .val (.int (2 : Int32)), .val (.int (1 : Int32))] [(.int (1 : Int32))])
      refine Done.go (fun _ kt_ => XS.goto X100h.here hx rfl (pc0 := 200) (pc' := 204) rfl (hb hby at_200) (by decide) (by decide) kt_) ?_
      show Done p e s below _ _ _ T100 (mkF m 204 #[.val (.int p0), .val (.int p1), .val (.int p2), .val (.int p3), .val (.int p4), .val (.int pa), .val (.int pa), .val (.int pc), .val (.int pe), .val (.ref b84), .val (.ref bS), .val (.ref bD), .val (.int (0 : Int32)), .val (.int (1 : Int32)), .val (.int (2 : Int32)), .val (.int (1 : Int32))] [(.int (1 : Int32))])
      refine Done.go (fun _ kt_ => XS.istore X100h.here hx rfl (hb hby at_204) rfl (l' := #[.val (.int p0), .val (.int p1), .val (.int p2), .val (.int p3), .val (.int p4), .val (.int pa), .val (.int pa), .val (.int pc), .val (.int pe), .val (.ref b84), .val (.ref bS), .val (.ref bD), .val (.int (0 : Int32)), .val (.int (1 : Int32)), .val (.int (2 : Int32)), .val (.int (1 : Int32))]) rfl kt_) ?_
      show Done p e s below _ _ _ T100 (mkF m 206 #[.val (.int p0), .val (.int p1), .val (.int p2), .val (.int p3), .val (.int p4), .val (.int pa), .val (.int pa), .val (.int pc), .val (.int pe), .val (.ref b84), .val (.ref bS), .val (.ref bD), .val (.int (0 : Int32)), .val (.int (1 : Int32)), .val (.int (2 : Int32)), .val (.int (1 : Int32))] [])
      refine Done.go (fun _ kt_ => XS.iload X100h.here hx rfl (hb hby at_206) rfl kt_) ?_
      show Done p e s below _ _ _ T100 (mkF m 208 #[.val (.int p0), .val (.int p1), .val (.int p2), .val (.int p3), .val (.int p4), .val (.int pa), .val (.int pa), .val (.int pc), .val (.int pe), .val (.ref b84), .val (.ref bS), .val (.ref bD), .val (.int (0 : Int32)), .val (.int (1 : Int32)), .val (.int (2 : Int32)), .val (.int (1 : Int32))] [(.int (2 : Int32))])
      refine Done.go (fun _ kt_ => XS.iconst X100h.here hx rfl (hb hby at_208) kt_) ?_
      show Done p e s below _ _ _ T100 (mkF m 209 #[.val (.int p0), .val (.int p1), .val (.int p2), .val (.int p3), .val (.int p4), .val (.int pa), .val (.int pa), .val (.int pc), .val (.int pe), .val (.ref b84), .val (.ref bS), .val (.ref bD), .val (.int (0 : Int32)), .val (.int (1 : Int32)), .val (.int (2 : Int32)), .val (.int (1 : Int32))] [(.int (3 : Int32)), (.int (2 : Int32))])
      refine Done.go (fun _ kt_ => XS.icmpYes X100h.here hx rfl (pc0 := 209) (pc' := 233) rfl (hb hby at_209) rfl (feq (by decide)).2 (by decide) (by decide) kt_) ?_
      show Done p e s below _ _ _ T100 (mkF m 233 #[.val (.int p0), .val (.int p1), .val (.int p2), .val (.int p3), .val (.int p4), .val (.int pa), .val (.int pa), .val (.int pc), .val (.int pe), .val (.ref b84), .val (.ref bS), .val (.ref bD), .val (.int (0 : Int32)), .val (.int (1 : Int32)), .val (.int (2 : Int32)), .val (.int (1 : Int32))] [])
      refine Done.go (fun _ kt_ => XS.iload X100h.here hx rfl (hb hby at_233) rfl kt_) ?_
      show Done p e s below _ _ _ T100 (mkF m 235 #[.val (.int p0), .val (.int p1), .val (.int p2), .val (.int p3), .val (.int p4), .val (.int pa), .val (.int pa), .val (.int pc), .val (.int pe), .val (.ref b84), .val (.ref bS), .val (.ref bD), .val (.int (0 : Int32)), .val (.int (1 : Int32)), .val (.int (2 : Int32)), .val (.int (1 : Int32))] [(.int (1 : Int32))])
      refine Done.go (fun _ kt_ => XS.ifNo X100h.here hx rfl (hb hby at_235) rfl ((if0 _ _).trans (feq (by decide)).1) kt_) ?_
      show Done p e s below _ _ _ T100 (mkF m 238 #[.val (.int p0), .val (.int p1), .val (.int p2), .val (.int p3), .val (.int p4), .val (.int pa), .val (.int pa), .val (.int pc), .val (.int pe), .val (.ref b84), .val (.ref bS), .val (.ref bD), .val (.int (0 : Int32)), .val (.int (1 : Int32)), .val (.int (2 : Int32)), .val (.int (1 : Int32))] [])
      refine Done.go (fun _ kt_ => XS.aload X100h.here hx rfl (hb hby at_238) rfl rfl kt_) ?_
      show Done p e s below _ _ _ T100 (mkF m 240 #[.val (.int p0), .val (.int p1), .val (.int p2), .val (.int p3), .val (.int p4), .val (.int pa), .val (.int pa), .val (.int pc), .val (.int pe), .val (.ref b84), .val (.ref bS), .val (.ref bD), .val (.int (0 : Int32)), .val (.int (1 : Int32)), .val (.int (2 : Int32)), .val (.int (1 : Int32))] [(.ref bD)])
      refine Done.go (fun _ kt_ => XS.iload X100h.here hx rfl (hb hby at_240) rfl kt_) ?_
      show Done p e s below _ _ _ T100 (mkF m 242 #[.val (.int p0), .val (.int p1), .val (.int p2), .val (.int p3), .val (.int p4), .val (.int pa), .val (.int pa), .val (.int pc), .val (.int pe), .val (.ref b84), .val (.ref bS), .val (.ref bD), .val (.int (0 : Int32)), .val (.int (1 : Int32)), .val (.int (2 : Int32)), .val (.int (1 : Int32))] [(.int pa), (.ref bD)])
      refine Done.ldD X100h hx hZ e100 VD99 (j := pa) (y := (((0 : Int64) + (p1.toInt64)) + (p2.toInt64))) A (own_ix hA).1 (own_ix hA).2 hA4 (by simp [own_u, n_ACc, n_CcA]) (hb hby at_242) ?_
      show Done p e s below _ _ _ T100 (mkF m 243 #[.val (.int p0), .val (.int p1), .val (.int p2), .val (.int p3), .val (.int p4), .val (.int pa), .val (.int pa), .val (.int pc), .val (.int pe), .val (.ref b84), .val (.ref bS), .val (.ref bD), .val (.int (0 : Int32)), .val (.int (1 : Int32)), .val (.int (2 : Int32)), .val (.int (1 : Int32))] [(.double (FP.l2d (((0 : Int64) + (p1.toInt64)) + (p2.toInt64))))])
      refine Done.go (fun _ kt_ => XS.iload X100h.here hx rfl (hb hby at_243) rfl kt_) ?_
      show Done p e s below _ _ _ T100 (mkF m 245 #[.val (.int p0), .val (.int p1), .val (.int p2), .val (.int p3), .val (.int p4), .val (.int pa), .val (.int pa), .val (.int pc), .val (.int pe), .val (.ref b84), .val (.ref bS), .val (.ref bD), .val (.int (0 : Int32)), .val (.int (1 : Int32)), .val (.int (2 : Int32)), .val (.int (1 : Int32))] [(.int pa), (.double (FP.l2d (((0 : Int64) + (p1.toInt64)) + (p2.toInt64))))])
      refine Done.go (fun _ kt_ => XS.iload X100h.here hx rfl (hb hby at_245) rfl kt_) ?_
      show Done p e s below _ _ _ T100 (mkF m 247 #[.val (.int p0), .val (.int p1), .val (.int p2), .val (.int p3), .val (.int p4), .val (.int pa), .val (.int pa), .val (.int pc), .val (.int pe), .val (.ref b84), .val (.ref bS), .val (.ref bD), .val (.int (0 : Int32)), .val (.int (1 : Int32)), .val (.int (2 : Int32)), .val (.int (1 : Int32))] [(.int pa), (.int pa), (.double (FP.l2d (((0 : Int64) + (p1.toInt64)) + (p2.toInt64))))])
      refine Done.go (fun _ kt_ => XS.iload X100h.here hx rfl (hb hby at_247) rfl kt_) ?_
      show Done p e s below _ _ _ T100 (mkF m 249 #[.val (.int p0), .val (.int p1), .val (.int p2), .val (.int p3), .val (.int p4), .val (.int pa), .val (.int pa), .val (.int pc), .val (.int pe), .val (.ref b84), .val (.ref bS), .val (.ref bD), .val (.int (0 : Int32)), .val (.int (1 : Int32)), .val (.int (2 : Int32)), .val (.int (1 : Int32))] [(.int pa), (.int pa), (.int pa), (.double (FP.l2d (((0 : Int64) + (p1.toInt64)) + (p2.toInt64))))])
      refine Done.go (fun _ kt_ => XS.iload X100h.here hx rfl (hb hby at_249) rfl kt_) ?_
      show Done p e s below _ _ _ T100 (mkF m 251 #[.val (.int p0), .val (.int p1), .val (.int p2), .val (.int p3), .val (.int p4), .val (.int pa), .val (.int pa), .val (.int pc), .val (.int pe), .val (.ref b84), .val (.ref bS), .val (.ref bD), .val (.int (0 : Int32)), .val (.int (1 : Int32)), .val (.int (2 : Int32)), .val (.int (1 : Int32))] [(.int pc), (.int pa), (.int pa), (.int pa), (.double (FP.l2d (((0 : Int64) + (p1.toInt64)) + (p2.toInt64))))])
      refine Done.go (fun _ kt_ => XS.iloadN X100h.here hx rfl (hb hby at_251) rfl kt_) ?_
      show Done p e s below _ _ _ T100 (mkF m 252 #[.val (.int p0), .val (.int p1), .val (.int p2), .val (.int p3), .val (.int p4), .val (.int pa), .val (.int pa), .val (.int pc), .val (.int pe), .val (.ref b84), .val (.ref bS), .val (.ref bD), .val (.int (0 : Int32)), .val (.int (1 : Int32)), .val (.int (2 : Int32)), .val (.int (1 : Int32))] [(.int p1), (.int pc), (.int pa), (.int pa), (.int pa), (.double (FP.l2d (((0 : Int64) + (p1.toInt64)) + (p2.toInt64))))])
      refine Done.go (fun _ kt_ => XS.iloadN X100h.here hx rfl (hb hby at_252) rfl kt_) ?_
      show Done p e s below _ _ _ T100 (mkF m 253 #[.val (.int p0), .val (.int p1), .val (.int p2), .val (.int p3), .val (.int p4), .val (.int pa), .val (.int pa), .val (.int pc), .val (.int pe), .val (.ref b84), .val (.ref bS), .val (.ref bD), .val (.int (0 : Int32)), .val (.int (1 : Int32)), .val (.int (2 : Int32)), .val (.int (1 : Int32))] [(.int p2), (.int p1), (.int pc), (.int pa), (.int pa), (.int pa), (.double (FP.l2d (((0 : Int64) + (p1.toInt64)) + (p2.toInt64))))])
      refine Done.go (fun _ kt_ => XS.iloadN X100h.here hx rfl (hb hby at_253) rfl kt_) ?_
      show Done p e s below _ _ _ T100 (mkF m 254 #[.val (.int p0), .val (.int p1), .val (.int p2), .val (.int p3), .val (.int p4), .val (.int pa), .val (.int pa), .val (.int pc), .val (.int pe), .val (.ref b84), .val (.ref bS), .val (.ref bD), .val (.int (0 : Int32)), .val (.int (1 : Int32)), .val (.int (2 : Int32)), .val (.int (1 : Int32))] [(.int p3), (.int p2), (.int p1), (.int pc), (.int pa), (.int pa), (.int pa), (.double (FP.l2d (((0 : Int64) + (p1.toInt64)) + (p2.toInt64))))])
      obtain ⟨v101, T101, Lc101, X101, hQ101, st101⟩ := own_backG (Jvm.LawKit.callS X100h hx (y := (⟨"com/example/pivotwise/pivotwise/retrieval/ScoresAddPinLaw", "sum", "(IIIIIII)D"⟩ : MethodName)) hown (mvT hZ (hw _ (List.mem_of_getElem? (i := 46) rfl))) (mvT hZ (hw _ (List.mem_of_getElem? (i := 47) rfl))) (mvT hZ (hw _ (List.mem_of_getElem? (i := 48) rfl))) (mvT hZ (hw _ (List.mem_of_getElem? (i := 49) rfl))) (by decide) (backOf (W := 2) (rm8 l Z a0 hw [] pa pa pa pc p1 p2 p3 T99.heap n0 Z99) hZ (hw _ (List.mem_of_getElem? (i := 49) rfl)) (hw _ (List.mem_of_getElem? (i := 48) rfl)) (by decide) (by decide)) (g := (mkF m 254 #[.val (.int p0), .val (.int p1), .val (.int p2), .val (.int p3), .val (.int p4), .val (.int pa), .val (.int pa), .val (.int pc), .val (.int pe), .val (.ref b84), .val (.ref bS), .val (.ref bD), .val (.int (0 : Int32)), .val (.int (1 : Int32)), .val (.int (2 : Int32)), .val (.int (1 : Int32))] [(.int p3), (.int p2), (.int p1), (.int pc), (.int pa), (.int pa), (.int pa), (.double (FP.l2d (((0 : Int64) + (p1.toInt64)) + (p2.toInt64))))])) rfl (by rw [hml]; rfl) (argsL := [(.int pa), (.int pa), (.int pa), (.int pc), (.int p1), (.int p2), (.int p3)]) (rest := [(.double (FP.l2d (((0 : Int64) + (p1.toInt64)) + (p2.toInt64))))]) (lenOf own_pd6 rfl) rfl (by show 2 * 0 + _ ≤ _; exact Nat.le_of_eq rfl) (hb hby at_254) (fun _ _ => ⟨rfl, e100, (by first | decide | omega : 4 + 0 ≤ _), (by first | decide | omega : 17 + 0 ≤ _)⟩))
      obtain ⟨rfl, N101q, e101⟩ := hQ101
      refine Done.go st101 ?_
      clear st101
      have N101 := Fr.app N100h N101q
      clear N101q
      obtain ⟨Lh101, X101h, N101h⟩ : ∃ L, Stand p l e room_1 s m #[(.int p0), (.int p1), (.int p2), (.int p3), (.int p4)] below meth c T101 L 4 17 ∧ Fr n0 L := ⟨_, X101, N101⟩
      clear X101 N101 X100h e100 N100h
      show Done p e s below _ _ _ T101 (mkF m 257 #[.val (.int p0), .val (.int p1), .val (.int p2), .val (.int p3), .val (.int p4), .val (.int pa), .val (.int pa), .val (.int pc), .val (.int pe), .val (.ref b84), .val (.ref bS), .val (.ref bD), .val (.int (0 : Int32)), .val (.int (1 : Int32)), .val (.int (2 : Int32)), .val (.int (1 : Int32))] [(.double (FP.l2d (own_sum pa pa pa pc p1 p2 p3))), (.double (FP.l2d (((0 : Int64) + (p1.toInt64)) + (p2.toInt64))))])
      refine Done.go (fun _ kt_ => XS.dcmpS X101h.here hx rfl (hb hby at_257) rfl (dcmpV_w (own_leB (own_leA (own_leA own_le0 (by decide) p1) (by decide) p2) (by decide)) (own_leB (own_leT _ _ _ _ _ _ _) (by decide)) _) kt_) ?_
      show Done p e s below _ _ _ T101 (mkF m 258 #[.val (.int p0), .val (.int p1), .val (.int p2), .val (.int p3), .val (.int p4), .val (.int pa), .val (.int pa), .val (.int pc), .val (.int pe), .val (.ref b84), .val (.ref bS), .val (.ref bD), .val (.int (0 : Int32)), .val (.int (1 : Int32)), .val (.int (2 : Int32)), .val (.int (1 : Int32))] [(.int (lcmpW (((0 : Int64) + (p1.toInt64)) + (p2.toInt64)) (own_sum pa pa pa pc p1 p2 p3)))])
      refine Done.go (fun _ kt_ => XS.ifNo X101h.here hx rfl (hb hby at_258) rfl ((if0 _ _).trans (teq ((lw_eq _ _).mpr (by simp only [own_sum, own_s1, i_papc, i_pcpa, if_true, if_false]))).2) kt_) ?_
      show Done p e s below _ _ _ T101 (mkF m 261 #[.val (.int p0), .val (.int p1), .val (.int p2), .val (.int p3), .val (.int p4), .val (.int pa), .val (.int pa), .val (.int pc), .val (.int pe), .val (.ref b84), .val (.ref bS), .val (.ref bD), .val (.int (0 : Int32)), .val (.int (1 : Int32)), .val (.int (2 : Int32)), .val (.int (1 : Int32))] [])
      refine Done.go (fun _ kt_ => XS.iconst X101h.here hx rfl (hb hby at_261) kt_) ?_
      show Done p e s below _ _ _ T101 (mkF m 262 #[.val (.int p0), .val (.int p1), .val (.int p2), .val (.int p3), .val (.int p4), .val (.int pa), .val (.int pa), .val (.int pc), .val (.int pe), .val (.ref b84), .val (.ref bS), .val (.ref bD), .val (.int (0 : Int32)), .val (.int (1 : Int32)), .val (.int (2 : Int32)), .val (.int (1 : Int32))] [(.int (1 : Int32))])
      refine Done.go (fun _ kt_ => XS.goto X101h.here hx rfl (pc0 := 262) (pc' := 266) rfl (hb hby at_262) (by decide) (by decide) kt_) ?_
      show Done p e s below _ _ _ T101 (mkF m 266 #[.val (.int p0), .val (.int p1), .val (.int p2), .val (.int p3), .val (.int p4), .val (.int pa), .val (.int pa), .val (.int pc), .val (.int pe), .val (.ref b84), .val (.ref bS), .val (.ref bD), .val (.int (0 : Int32)), .val (.int (1 : Int32)), .val (.int (2 : Int32)), .val (.int (1 : Int32))] [(.int (1 : Int32))])
      refine Done.go (fun _ kt_ => XS.istore X101h.here hx rfl (hb hby at_266) rfl (l' := #[.val (.int p0), .val (.int p1), .val (.int p2), .val (.int p3), .val (.int p4), .val (.int pa), .val (.int pa), .val (.int pc), .val (.int pe), .val (.ref b84), .val (.ref bS), .val (.ref bD), .val (.int (0 : Int32)), .val (.int (1 : Int32)), .val (.int (2 : Int32)), .val (.int (1 : Int32))]) rfl kt_) ?_
      show Done p e s below _ _ _ T101 (mkF m 268 #[.val (.int p0), .val (.int p1), .val (.int p2), .val (.int p3), .val (.int p4), .val (.int pa), .val (.int pa), .val (.int pc), .val (.int pe), .val (.ref b84), .val (.ref bS), .val (.ref bD), .val (.int (0 : Int32)), .val (.int (1 : Int32)), .val (.int (2 : Int32)), .val (.int (1 : Int32))] [])
      refine Done.go (fun _ kt_ => XS.iload X101h.here hx rfl (hb hby at_268) rfl kt_) ?_
      show Done p e s below _ _ _ T101 (mkF m 270 #[.val (.int p0), .val (.int p1), .val (.int p2), .val (.int p3), .val (.int p4), .val (.int pa), .val (.int pa), .val (.int pc), .val (.int pe), .val (.ref b84), .val (.ref bS), .val (.ref bD), .val (.int (0 : Int32)), .val (.int (1 : Int32)), .val (.int (2 : Int32)), .val (.int (1 : Int32))] [(.int (1 : Int32))])
      refine Done.go (fun _ kt_ => XS.ifNo X101h.here hx rfl (hb hby at_270) rfl ((if0 _ _).trans (feq (by decide)).1) kt_) ?_
      show Done p e s below _ _ _ T101 (mkF m 273 #[.val (.int p0), .val (.int p1), .val (.int p2), .val (.int p3), .val (.int p4), .val (.int pa), .val (.int pa), .val (.int pc), .val (.int pe), .val (.ref b84), .val (.ref bS), .val (.ref bD), .val (.int (0 : Int32)), .val (.int (1 : Int32)), .val (.int (2 : Int32)), .val (.int (1 : Int32))] [])
      refine Done.go (fun _ kt_ => XS.aload X101h.here hx rfl (hb hby at_273) rfl rfl kt_) ?_
      show Done p e s below _ _ _ T101 (mkF m 275 #[.val (.int p0), .val (.int p1), .val (.int p2), .val (.int p3), .val (.int p4), .val (.int pa), .val (.int pa), .val (.int pc), .val (.int pe), .val (.ref b84), .val (.ref bS), .val (.ref bD), .val (.int (0 : Int32)), .val (.int (1 : Int32)), .val (.int (2 : Int32)), .val (.int (1 : Int32))] [(.ref bD)])
      refine Done.go (fun _ kt_ => XS.iload X101h.here hx rfl (hb hby at_275) rfl kt_) ?_
      show Done p e s below _ _ _ T101 (mkF m 277 #[.val (.int p0), .val (.int p1), .val (.int p2), .val (.int p3), .val (.int p4), .val (.int pa), .val (.int pa), .val (.int pc), .val (.int pe), .val (.ref b84), .val (.ref bS), .val (.ref bD), .val (.int (0 : Int32)), .val (.int (1 : Int32)), .val (.int (2 : Int32)), .val (.int (1 : Int32))] [(.int pa), (.ref bD)])
      refine Done.ldD X101h hx hZ e101 VD99 (j := pa) (y := (((0 : Int64) + (p1.toInt64)) + (p2.toInt64))) A (own_ix hA).1 (own_ix hA).2 hA4 (by simp [own_u, n_ACc, n_CcA]) (hb hby at_277) ?_
      show Done p e s below _ _ _ T101 (mkF m 278 #[.val (.int p0), .val (.int p1), .val (.int p2), .val (.int p3), .val (.int p4), .val (.int pa), .val (.int pa), .val (.int pc), .val (.int pe), .val (.ref b84), .val (.ref bS), .val (.ref bD), .val (.int (0 : Int32)), .val (.int (1 : Int32)), .val (.int (2 : Int32)), .val (.int (1 : Int32))] [(.double (FP.l2d (((0 : Int64) + (p1.toInt64)) + (p2.toInt64))))])
      refine Done.go (fun _ kt_ => XS.iload X101h.here hx rfl (hb hby at_278) rfl kt_) ?_
      show Done p e s below _ _ _ T101 (mkF m 280 #[.val (.int p0), .val (.int p1), .val (.int p2), .val (.int p3), .val (.int p4), .val (.int pa), .val (.int pa), .val (.int pc), .val (.int pe), .val (.ref b84), .val (.ref bS), .val (.ref bD), .val (.int (0 : Int32)), .val (.int (1 : Int32)), .val (.int (2 : Int32)), .val (.int (1 : Int32))] [(.int pa), (.double (FP.l2d (((0 : Int64) + (p1.toInt64)) + (p2.toInt64))))])
      refine Done.go (fun _ kt_ => XS.iload X101h.here hx rfl (hb hby at_280) rfl kt_) ?_
      show Done p e s below _ _ _ T101 (mkF m 282 #[.val (.int p0), .val (.int p1), .val (.int p2), .val (.int p3), .val (.int p4), .val (.int pa), .val (.int pa), .val (.int pc), .val (.int pe), .val (.ref b84), .val (.ref bS), .val (.ref bD), .val (.int (0 : Int32)), .val (.int (1 : Int32)), .val (.int (2 : Int32)), .val (.int (1 : Int32))] [(.int pa), (.int pa), (.double (FP.l2d (((0 : Int64) + (p1.toInt64)) + (p2.toInt64))))])
      refine Done.go (fun _ kt_ => XS.iload X101h.here hx rfl (hb hby at_282) rfl kt_) ?_
      show Done p e s below _ _ _ T101 (mkF m 284 #[.val (.int p0), .val (.int p1), .val (.int p2), .val (.int p3), .val (.int p4), .val (.int pa), .val (.int pa), .val (.int pc), .val (.int pe), .val (.ref b84), .val (.ref bS), .val (.ref bD), .val (.int (0 : Int32)), .val (.int (1 : Int32)), .val (.int (2 : Int32)), .val (.int (1 : Int32))] [(.int pa), (.int pa), (.int pa), (.double (FP.l2d (((0 : Int64) + (p1.toInt64)) + (p2.toInt64))))])
      refine Done.go (fun _ kt_ => XS.iload X101h.here hx rfl (hb hby at_284) rfl kt_) ?_
      show Done p e s below _ _ _ T101 (mkF m 286 #[.val (.int p0), .val (.int p1), .val (.int p2), .val (.int p3), .val (.int p4), .val (.int pa), .val (.int pa), .val (.int pc), .val (.int pe), .val (.ref b84), .val (.ref bS), .val (.ref bD), .val (.int (0 : Int32)), .val (.int (1 : Int32)), .val (.int (2 : Int32)), .val (.int (1 : Int32))] [(.int pc), (.int pa), (.int pa), (.int pa), (.double (FP.l2d (((0 : Int64) + (p1.toInt64)) + (p2.toInt64))))])
      refine Done.go (fun _ kt_ => XS.iloadN X101h.here hx rfl (hb hby at_286) rfl kt_) ?_
      show Done p e s below _ _ _ T101 (mkF m 287 #[.val (.int p0), .val (.int p1), .val (.int p2), .val (.int p3), .val (.int p4), .val (.int pa), .val (.int pa), .val (.int pc), .val (.int pe), .val (.ref b84), .val (.ref bS), .val (.ref bD), .val (.int (0 : Int32)), .val (.int (1 : Int32)), .val (.int (2 : Int32)), .val (.int (1 : Int32))] [(.int p1), (.int pc), (.int pa), (.int pa), (.int pa), (.double (FP.l2d (((0 : Int64) + (p1.toInt64)) + (p2.toInt64))))])
      refine Done.go (fun _ kt_ => XS.iloadN X101h.here hx rfl (hb hby at_287) rfl kt_) ?_
      show Done p e s below _ _ _ T101 (mkF m 288 #[.val (.int p0), .val (.int p1), .val (.int p2), .val (.int p3), .val (.int p4), .val (.int pa), .val (.int pa), .val (.int pc), .val (.int pe), .val (.ref b84), .val (.ref bS), .val (.ref bD), .val (.int (0 : Int32)), .val (.int (1 : Int32)), .val (.int (2 : Int32)), .val (.int (1 : Int32))] [(.int p2), (.int p1), (.int pc), (.int pa), (.int pa), (.int pa), (.double (FP.l2d (((0 : Int64) + (p1.toInt64)) + (p2.toInt64))))])
      refine Done.go (fun _ kt_ => XS.iloadN X101h.here hx rfl (hb hby at_288) rfl kt_) ?_
      show Done p e s below _ _ _ T101 (mkF m 289 #[.val (.int p0), .val (.int p1), .val (.int p2), .val (.int p3), .val (.int p4), .val (.int pa), .val (.int pa), .val (.int pc), .val (.int pe), .val (.ref b84), .val (.ref bS), .val (.ref bD), .val (.int (0 : Int32)), .val (.int (1 : Int32)), .val (.int (2 : Int32)), .val (.int (1 : Int32))] [(.int p3), (.int p2), (.int p1), (.int pc), (.int pa), (.int pa), (.int pa), (.double (FP.l2d (((0 : Int64) + (p1.toInt64)) + (p2.toInt64))))])
      obtain ⟨v102, T102, Lc102, X102, hQ102, st102⟩ := own_backG (Jvm.LawKit.callS X101h hx (y := (⟨"com/example/pivotwise/pivotwise/retrieval/ScoresAddPinLaw", "sum", "(IIIIIII)D"⟩ : MethodName)) hown (mvT hZ (hw _ (List.mem_of_getElem? (i := 46) rfl))) (mvT hZ (hw _ (List.mem_of_getElem? (i := 47) rfl))) (mvT hZ (hw _ (List.mem_of_getElem? (i := 48) rfl))) (mvT hZ (hw _ (List.mem_of_getElem? (i := 49) rfl))) (by decide) (backOf (W := 2) (rm8 l Z a0 hw [] pa pa pa pc p1 p2 p3 T99.heap n0 Z99) hZ (hw _ (List.mem_of_getElem? (i := 49) rfl)) (hw _ (List.mem_of_getElem? (i := 48) rfl)) (by decide) (by decide)) (g := (mkF m 289 #[.val (.int p0), .val (.int p1), .val (.int p2), .val (.int p3), .val (.int p4), .val (.int pa), .val (.int pa), .val (.int pc), .val (.int pe), .val (.ref b84), .val (.ref bS), .val (.ref bD), .val (.int (0 : Int32)), .val (.int (1 : Int32)), .val (.int (2 : Int32)), .val (.int (1 : Int32))] [(.int p3), (.int p2), (.int p1), (.int pc), (.int pa), (.int pa), (.int pa), (.double (FP.l2d (((0 : Int64) + (p1.toInt64)) + (p2.toInt64))))])) rfl (by rw [hml]; rfl) (argsL := [(.int pa), (.int pa), (.int pa), (.int pc), (.int p1), (.int p2), (.int p3)]) (rest := [(.double (FP.l2d (((0 : Int64) + (p1.toInt64)) + (p2.toInt64))))]) (lenOf own_pd6 rfl) rfl (by show 2 * 0 + _ ≤ _; exact Nat.le_of_eq rfl) (hb hby at_289) (fun _ _ => ⟨rfl, e101, (by first | decide | omega : 4 + 0 ≤ _), (by first | decide | omega : 17 + 0 ≤ _)⟩))
      obtain ⟨rfl, N102q, e102⟩ := hQ102
      refine Done.go st102 ?_
      clear st102
      have N102 := Fr.app N101h N102q
      clear N102q
      obtain ⟨Lh102, X102h, N102h⟩ : ∃ L, Stand p l e room_1 s m #[(.int p0), (.int p1), (.int p2), (.int p3), (.int p4)] below meth c T102 L 4 17 ∧ Fr n0 L := ⟨_, X102, N102⟩
      clear X102 N102 X101h e101 N101h
      show Done p e s below _ _ _ T102 (mkF m 292 #[.val (.int p0), .val (.int p1), .val (.int p2), .val (.int p3), .val (.int p4), .val (.int pa), .val (.int pa), .val (.int pc), .val (.int pe), .val (.ref b84), .val (.ref bS), .val (.ref bD), .val (.int (0 : Int32)), .val (.int (1 : Int32)), .val (.int (2 : Int32)), .val (.int (1 : Int32))] [(.double (FP.l2d (own_sum pa pa pa pc p1 p2 p3))), (.double (FP.l2d (((0 : Int64) + (p1.toInt64)) + (p2.toInt64))))])
      refine Done.go (fun _ kt_ => XS.dcmpS X102h.here hx rfl (hb hby at_292) rfl (dcmpV_w (own_leB (own_leA (own_leA own_le0 (by decide) p1) (by decide) p2) (by decide)) (own_leB (own_leT _ _ _ _ _ _ _) (by decide)) _) kt_) ?_
      show Done p e s below _ _ _ T102 (mkF m 293 #[.val (.int p0), .val (.int p1), .val (.int p2), .val (.int p3), .val (.int p4), .val (.int pa), .val (.int pa), .val (.int pc), .val (.int pe), .val (.ref b84), .val (.ref bS), .val (.ref bD), .val (.int (0 : Int32)), .val (.int (1 : Int32)), .val (.int (2 : Int32)), .val (.int (1 : Int32))] [(.int (lcmpW (((0 : Int64) + (p1.toInt64)) + (p2.toInt64)) (own_sum pa pa pa pc p1 p2 p3)))])
      refine Done.go (fun _ kt_ => XS.ifNo X102h.here hx rfl (hb hby at_293) rfl ((if0 _ _).trans (teq ((lw_eq _ _).mpr (by simp only [own_sum, own_s1, i_papc, i_pcpa, if_true, if_false]))).2) kt_) ?_
      show Done p e s below _ _ _ T102 (mkF m 296 #[.val (.int p0), .val (.int p1), .val (.int p2), .val (.int p3), .val (.int p4), .val (.int pa), .val (.int pa), .val (.int pc), .val (.int pe), .val (.ref b84), .val (.ref bS), .val (.ref bD), .val (.int (0 : Int32)), .val (.int (1 : Int32)), .val (.int (2 : Int32)), .val (.int (1 : Int32))] [])
      refine Done.go (fun _ kt_ => XS.iconst X102h.here hx rfl (hb hby at_296) kt_) ?_
      show Done p e s below _ _ _ T102 (mkF m 297 #[.val (.int p0), .val (.int p1), .val (.int p2), .val (.int p3), .val (.int p4), .val (.int pa), .val (.int pa), .val (.int pc), .val (.int pe), .val (.ref b84), .val (.ref bS), .val (.ref bD), .val (.int (0 : Int32)), .val (.int (1 : Int32)), .val (.int (2 : Int32)), .val (.int (1 : Int32))] [(.int (1 : Int32))])
      refine Done.go (fun _ kt_ => XS.goto X102h.here hx rfl (pc0 := 297) (pc' := 301) rfl (hb hby at_297) (by decide) (by decide) kt_) ?_
      show Done p e s below _ _ _ T102 (mkF m 301 #[.val (.int p0), .val (.int p1), .val (.int p2), .val (.int p3), .val (.int p4), .val (.int pa), .val (.int pa), .val (.int pc), .val (.int pe), .val (.ref b84), .val (.ref bS), .val (.ref bD), .val (.int (0 : Int32)), .val (.int (1 : Int32)), .val (.int (2 : Int32)), .val (.int (1 : Int32))] [(.int (1 : Int32))])
      refine Done.go (fun _ kt_ => XS.istore X102h.here hx rfl (hb hby at_301) rfl (l' := #[.val (.int p0), .val (.int p1), .val (.int p2), .val (.int p3), .val (.int p4), .val (.int pa), .val (.int pa), .val (.int pc), .val (.int pe), .val (.ref b84), .val (.ref bS), .val (.ref bD), .val (.int (0 : Int32)), .val (.int (1 : Int32)), .val (.int (2 : Int32)), .val (.int (1 : Int32))]) rfl kt_) ?_
      show Done p e s below _ _ _ T102 (mkF m 303 #[.val (.int p0), .val (.int p1), .val (.int p2), .val (.int p3), .val (.int p4), .val (.int pa), .val (.int pa), .val (.int pc), .val (.int pe), .val (.ref b84), .val (.ref bS), .val (.ref bD), .val (.int (0 : Int32)), .val (.int (1 : Int32)), .val (.int (2 : Int32)), .val (.int (1 : Int32))] [])
      refine Done.go (fun _ kt_ => XS.iload X102h.here hx rfl (hb hby at_303) rfl kt_) ?_
      show Done p e s below _ _ _ T102 (mkF m 305 #[.val (.int p0), .val (.int p1), .val (.int p2), .val (.int p3), .val (.int p4), .val (.int pa), .val (.int pa), .val (.int pc), .val (.int pe), .val (.ref b84), .val (.ref bS), .val (.ref bD), .val (.int (0 : Int32)), .val (.int (1 : Int32)), .val (.int (2 : Int32)), .val (.int (1 : Int32))] [(.int (1 : Int32))])
      refine Done.go (fun _ kt_ => XS.ifNo X102h.here hx rfl (hb hby at_305) rfl ((if0 _ _).trans (feq (by decide)).1) kt_) ?_
      show Done p e s below _ _ _ T102 (mkF m 308 #[.val (.int p0), .val (.int p1), .val (.int p2), .val (.int p3), .val (.int p4), .val (.int pa), .val (.int pa), .val (.int pc), .val (.int pe), .val (.ref b84), .val (.ref bS), .val (.ref bD), .val (.int (0 : Int32)), .val (.int (1 : Int32)), .val (.int (2 : Int32)), .val (.int (1 : Int32))] [])
      refine Done.go (fun _ kt_ => XS.aload X102h.here hx rfl (hb hby at_308) rfl rfl kt_) ?_
      show Done p e s below _ _ _ T102 (mkF m 310 #[.val (.int p0), .val (.int p1), .val (.int p2), .val (.int p3), .val (.int p4), .val (.int pa), .val (.int pa), .val (.int pc), .val (.int pe), .val (.ref b84), .val (.ref bS), .val (.ref bD), .val (.int (0 : Int32)), .val (.int (1 : Int32)), .val (.int (2 : Int32)), .val (.int (1 : Int32))] [(.ref bD)])
      refine Done.go (fun _ kt_ => XS.iload X102h.here hx rfl (hb hby at_310) rfl kt_) ?_
      show Done p e s below _ _ _ T102 (mkF m 312 #[.val (.int p0), .val (.int p1), .val (.int p2), .val (.int p3), .val (.int p4), .val (.int pa), .val (.int pa), .val (.int pc), .val (.int pe), .val (.ref b84), .val (.ref bS), .val (.ref bD), .val (.int (0 : Int32)), .val (.int (1 : Int32)), .val (.int (2 : Int32)), .val (.int (1 : Int32))] [(.int pc), (.ref bD)])
      refine Done.ldD X102h hx hZ e102 VD99 (j := pc) (y := ((0 : Int64) + (p3.toInt64))) Cc (own_ix hCc).1 (own_ix hCc).2 hCc4 (by simp [own_u, n_ACc, n_CcA]) (hb hby at_312) ?_
      show Done p e s below _ _ _ T102 (mkF m 313 #[.val (.int p0), .val (.int p1), .val (.int p2), .val (.int p3), .val (.int p4), .val (.int pa), .val (.int pa), .val (.int pc), .val (.int pe), .val (.ref b84), .val (.ref bS), .val (.ref bD), .val (.int (0 : Int32)), .val (.int (1 : Int32)), .val (.int (2 : Int32)), .val (.int (1 : Int32))] [(.double (FP.l2d ((0 : Int64) + (p3.toInt64))))])
      refine Done.go (fun _ kt_ => XS.iload X102h.here hx rfl (hb hby at_313) rfl kt_) ?_
      show Done p e s below _ _ _ T102 (mkF m 315 #[.val (.int p0), .val (.int p1), .val (.int p2), .val (.int p3), .val (.int p4), .val (.int pa), .val (.int pa), .val (.int pc), .val (.int pe), .val (.ref b84), .val (.ref bS), .val (.ref bD), .val (.int (0 : Int32)), .val (.int (1 : Int32)), .val (.int (2 : Int32)), .val (.int (1 : Int32))] [(.int pc), (.double (FP.l2d ((0 : Int64) + (p3.toInt64))))])
      refine Done.go (fun _ kt_ => XS.iload X102h.here hx rfl (hb hby at_315) rfl kt_) ?_
      show Done p e s below _ _ _ T102 (mkF m 317 #[.val (.int p0), .val (.int p1), .val (.int p2), .val (.int p3), .val (.int p4), .val (.int pa), .val (.int pa), .val (.int pc), .val (.int pe), .val (.ref b84), .val (.ref bS), .val (.ref bD), .val (.int (0 : Int32)), .val (.int (1 : Int32)), .val (.int (2 : Int32)), .val (.int (1 : Int32))] [(.int pa), (.int pc), (.double (FP.l2d ((0 : Int64) + (p3.toInt64))))])
      refine Done.go (fun _ kt_ => XS.iload X102h.here hx rfl (hb hby at_317) rfl kt_) ?_
      show Done p e s below _ _ _ T102 (mkF m 319 #[.val (.int p0), .val (.int p1), .val (.int p2), .val (.int p3), .val (.int p4), .val (.int pa), .val (.int pa), .val (.int pc), .val (.int pe), .val (.ref b84), .val (.ref bS), .val (.ref bD), .val (.int (0 : Int32)), .val (.int (1 : Int32)), .val (.int (2 : Int32)), .val (.int (1 : Int32))] [(.int pa), (.int pa), (.int pc), (.double (FP.l2d ((0 : Int64) + (p3.toInt64))))])
      refine Done.go (fun _ kt_ => XS.iload X102h.here hx rfl (hb hby at_319) rfl kt_) ?_
      show Done p e s below _ _ _ T102 (mkF m 321 #[.val (.int p0), .val (.int p1), .val (.int p2), .val (.int p3), .val (.int p4), .val (.int pa), .val (.int pa), .val (.int pc), .val (.int pe), .val (.ref b84), .val (.ref bS), .val (.ref bD), .val (.int (0 : Int32)), .val (.int (1 : Int32)), .val (.int (2 : Int32)), .val (.int (1 : Int32))] [(.int pc), (.int pa), (.int pa), (.int pc), (.double (FP.l2d ((0 : Int64) + (p3.toInt64))))])
      refine Done.go (fun _ kt_ => XS.iloadN X102h.here hx rfl (hb hby at_321) rfl kt_) ?_
      show Done p e s below _ _ _ T102 (mkF m 322 #[.val (.int p0), .val (.int p1), .val (.int p2), .val (.int p3), .val (.int p4), .val (.int pa), .val (.int pa), .val (.int pc), .val (.int pe), .val (.ref b84), .val (.ref bS), .val (.ref bD), .val (.int (0 : Int32)), .val (.int (1 : Int32)), .val (.int (2 : Int32)), .val (.int (1 : Int32))] [(.int p1), (.int pc), (.int pa), (.int pa), (.int pc), (.double (FP.l2d ((0 : Int64) + (p3.toInt64))))])
      refine Done.go (fun _ kt_ => XS.iloadN X102h.here hx rfl (hb hby at_322) rfl kt_) ?_
      show Done p e s below _ _ _ T102 (mkF m 323 #[.val (.int p0), .val (.int p1), .val (.int p2), .val (.int p3), .val (.int p4), .val (.int pa), .val (.int pa), .val (.int pc), .val (.int pe), .val (.ref b84), .val (.ref bS), .val (.ref bD), .val (.int (0 : Int32)), .val (.int (1 : Int32)), .val (.int (2 : Int32)), .val (.int (1 : Int32))] [(.int p2), (.int p1), (.int pc), (.int pa), (.int pa), (.int pc), (.double (FP.l2d ((0 : Int64) + (p3.toInt64))))])
      refine Done.go (fun _ kt_ => XS.iloadN X102h.here hx rfl (hb hby at_323) rfl kt_) ?_
      show Done p e s below _ _ _ T102 (mkF m 324 #[.val (.int p0), .val (.int p1), .val (.int p2), .val (.int p3), .val (.int p4), .val (.int pa), .val (.int pa), .val (.int pc), .val (.int pe), .val (.ref b84), .val (.ref bS), .val (.ref bD), .val (.int (0 : Int32)), .val (.int (1 : Int32)), .val (.int (2 : Int32)), .val (.int (1 : Int32))] [(.int p3), (.int p2), (.int p1), (.int pc), (.int pa), (.int pa), (.int pc), (.double (FP.l2d ((0 : Int64) + (p3.toInt64))))])
      obtain ⟨v103, T103, Lc103, X103, hQ103, st103⟩ := own_backG (Jvm.LawKit.callS X102h hx (y := (⟨"com/example/pivotwise/pivotwise/retrieval/ScoresAddPinLaw", "sum", "(IIIIIII)D"⟩ : MethodName)) hown (mvT hZ (hw _ (List.mem_of_getElem? (i := 46) rfl))) (mvT hZ (hw _ (List.mem_of_getElem? (i := 47) rfl))) (mvT hZ (hw _ (List.mem_of_getElem? (i := 48) rfl))) (mvT hZ (hw _ (List.mem_of_getElem? (i := 49) rfl))) (by decide) (backOf (W := 2) (rm8 l Z a0 hw [] pc pa pa pc p1 p2 p3 T99.heap n0 Z99) hZ (hw _ (List.mem_of_getElem? (i := 49) rfl)) (hw _ (List.mem_of_getElem? (i := 48) rfl)) (by decide) (by decide)) (g := (mkF m 324 #[.val (.int p0), .val (.int p1), .val (.int p2), .val (.int p3), .val (.int p4), .val (.int pa), .val (.int pa), .val (.int pc), .val (.int pe), .val (.ref b84), .val (.ref bS), .val (.ref bD), .val (.int (0 : Int32)), .val (.int (1 : Int32)), .val (.int (2 : Int32)), .val (.int (1 : Int32))] [(.int p3), (.int p2), (.int p1), (.int pc), (.int pa), (.int pa), (.int pc), (.double (FP.l2d ((0 : Int64) + (p3.toInt64))))])) rfl (by rw [hml]; rfl) (argsL := [(.int pc), (.int pa), (.int pa), (.int pc), (.int p1), (.int p2), (.int p3)]) (rest := [(.double (FP.l2d ((0 : Int64) + (p3.toInt64))))]) (lenOf own_pd6 rfl) rfl (by show 2 * 0 + _ ≤ _; exact Nat.le_of_eq rfl) (hb hby at_324) (fun _ _ => ⟨rfl, e102, (by first | decide | omega : 4 + 0 ≤ _), (by first | decide | omega : 17 + 0 ≤ _)⟩))
      obtain ⟨rfl, N103q, e103⟩ := hQ103
      refine Done.go st103 ?_
      clear st103
      have N103 := Fr.app N102h N103q
      clear N103q
      obtain ⟨Lh103, X103h, N103h⟩ : ∃ L, Stand p l e room_1 s m #[(.int p0), (.int p1), (.int p2), (.int p3), (.int p4)] below meth c T103 L 4 17 ∧ Fr n0 L := ⟨_, X103, N103⟩
      clear X103 N103 X102h e102 N102h
      show Done p e s below _ _ _ T103 (mkF m 327 #[.val (.int p0), .val (.int p1), .val (.int p2), .val (.int p3), .val (.int p4), .val (.int pa), .val (.int pa), .val (.int pc), .val (.int pe), .val (.ref b84), .val (.ref bS), .val (.ref bD), .val (.int (0 : Int32)), .val (.int (1 : Int32)), .val (.int (2 : Int32)), .val (.int (1 : Int32))] [(.double (FP.l2d (own_sum pc pa pa pc p1 p2 p3))), (.double (FP.l2d ((0 : Int64) + (p3.toInt64))))])
      refine Done.go (fun _ kt_ => XS.dcmpS X103h.here hx rfl (hb hby at_327) rfl (dcmpV_w (own_leB (own_leA own_le0 (by decide) p3) (by decide)) (own_leB (own_leT _ _ _ _ _ _ _) (by decide)) _) kt_) ?_
      show Done p e s below _ _ _ T103 (mkF m 328 #[.val (.int p0), .val (.int p1), .val (.int p2), .val (.int p3), .val (.int p4), .val (.int pa), .val (.int pa), .val (.int pc), .val (.int pe), .val (.ref b84), .val (.ref bS), .val (.ref bD), .val (.int (0 : Int32)), .val (.int (1 : Int32)), .val (.int (2 : Int32)), .val (.int (1 : Int32))] [(.int (lcmpW ((0 : Int64) + (p3.toInt64)) (own_sum pc pa pa pc p1 p2 p3)))])
      refine Done.go (fun _ kt_ => XS.ifNo X103h.here hx rfl (hb hby at_328) rfl ((if0 _ _).trans (teq ((lw_eq _ _).mpr (by simp only [own_sum, own_s1, i_papc, i_pcpa, if_true, if_false]))).2) kt_) ?_
      show Done p e s below _ _ _ T103 (mkF m 331 #[.val (.int p0), .val (.int p1), .val (.int p2), .val (.int p3), .val (.int p4), .val (.int pa), .val (.int pa), .val (.int pc), .val (.int pe), .val (.ref b84), .val (.ref bS), .val (.ref bD), .val (.int (0 : Int32)), .val (.int (1 : Int32)), .val (.int (2 : Int32)), .val (.int (1 : Int32))] [])
      refine Done.go (fun _ kt_ => XS.iconst X103h.here hx rfl (hb hby at_331) kt_) ?_
      show Done p e s below _ _ _ T103 (mkF m 332 #[.val (.int p0), .val (.int p1), .val (.int p2), .val (.int p3), .val (.int p4), .val (.int pa), .val (.int pa), .val (.int pc), .val (.int pe), .val (.ref b84), .val (.ref bS), .val (.ref bD), .val (.int (0 : Int32)), .val (.int (1 : Int32)), .val (.int (2 : Int32)), .val (.int (1 : Int32))] [(.int (1 : Int32))])
      refine Done.go (fun _ kt_ => XS.goto X103h.here hx rfl (pc0 := 332) (pc' := 336) rfl (hb hby at_332) (by decide) (by decide) kt_) ?_
      show Done p e s below _ _ _ T103 (mkF m 336 #[.val (.int p0), .val (.int p1), .val (.int p2), .val (.int p3), .val (.int p4), .val (.int pa), .val (.int pa), .val (.int pc), .val (.int pe), .val (.ref b84), .val (.ref bS), .val (.ref bD), .val (.int (0 : Int32)), .val (.int (1 : Int32)), .val (.int (2 : Int32)), .val (.int (1 : Int32))] [(.int (1 : Int32))])
      refine Done.go (fun _ kt_ => XS.istore X103h.here hx rfl (hb hby at_336) rfl (l' := #[.val (.int p0), .val (.int p1), .val (.int p2), .val (.int p3), .val (.int p4), .val (.int pa), .val (.int pa), .val (.int pc), .val (.int pe), .val (.ref b84), .val (.ref bS), .val (.ref bD), .val (.int (0 : Int32)), .val (.int (1 : Int32)), .val (.int (2 : Int32)), .val (.int (1 : Int32))]) rfl kt_) ?_
      show Done p e s below _ _ _ T103 (mkF m 338 #[.val (.int p0), .val (.int p1), .val (.int p2), .val (.int p3), .val (.int p4), .val (.int pa), .val (.int pa), .val (.int pc), .val (.int pe), .val (.ref b84), .val (.ref bS), .val (.ref bD), .val (.int (0 : Int32)), .val (.int (1 : Int32)), .val (.int (2 : Int32)), .val (.int (1 : Int32))] [])
      refine Done.go (fun _ kt_ => XS.aload X103h.here hx rfl (hb hby at_338) rfl rfl kt_) ?_
      show Done p e s below _ _ _ T103 (mkF m 340 #[.val (.int p0), .val (.int p1), .val (.int p2), .val (.int p3), .val (.int p4), .val (.int pa), .val (.int pa), .val (.int pc), .val (.int pe), .val (.ref b84), .val (.ref bS), .val (.ref bD), .val (.int (0 : Int32)), .val (.int (1 : Int32)), .val (.int (2 : Int32)), .val (.int (1 : Int32))] [(.ref b84)])
      obtain ⟨cq104, kq104, q104a, q104b, q104c⟩ := isOf hZ e103 E99
      obtain ⟨v104, T104, Lc104, X104, hQ104, st104⟩ := own_backV (X103h.virtualBack hx (y := (⟨"com/example/pivotwise/pivotwise/retrieval/Scores", "start", "()V"⟩ : MethodName)) (z := (⟨"com/example/pivotwise/pivotwise/retrieval/Scores", "start", "()V"⟩ : MethodName)) hown (mvT hZ (hw _ (List.mem_of_getElem? (i := 27) rfl))) (mvT hZ (hw _ (List.mem_of_getElem? (i := 28) rfl))) (notFace_of_selects (args := #[]) (mvT hZ (hw _ (List.mem_of_getElem? (i := 30) rfl)))) (mvT hZ (hw _ (List.mem_of_getElem? (i := 30) rfl))) (mvT hZ (hw _ (List.mem_of_getElem? (i := 29) rfl))) (by decide) (backOf (W := 0) (rm5 l Z a0 hw [] b84 bD bF bS (own_u (own_u (own_u (fun _ => (0 : Int64)) A (0 + (p1.toInt64))) A (((0 : Int64) + (p1.toInt64)) + (p2.toInt64))) Cc (0 + (p3.toInt64))) (own_u (own_u (fun _ => (0 : Int32)) A (1 : Int32)) Cc (1 : Int32)) (own_u (own_u (fun _ => (0 : Int32)) 0 pa) 1 pc) (1 : Int32) (2 : Int32) (2 : Int32) T99.heap n0 Z99 ⟨E99, Fscores99, FscoredFor99, Fscored99, Fquery99, Fcount99, VD99, VF99, VS99⟩ hds hgs (by decide)) hZ (hw _ (List.mem_of_getElem? (i := 31) rfl)) (hw _ (List.mem_of_getElem? (i := 2) rfl)) (by decide) (by decide)) q104a q104c (g := (mkF m 340 #[.val (.int p0), .val (.int p1), .val (.int p2), .val (.int p3), .val (.int p4), .val (.int pa), .val (.int pa), .val (.int pc), .val (.int pe), .val (.ref b84), .val (.ref bS), .val (.ref bD), .val (.int (0 : Int32)), .val (.int (1 : Int32)), .val (.int (2 : Int32)), .val (.int (1 : Int32))] [(.ref b84)])) rfl (by rw [hml]; rfl) (Steps.refl _) (argsL := []) (rest := []) (lenOf own_pd3 rfl) rfl (by show 2 * 0 + _ ≤ _; exact Nat.le_of_eq rfl) (hb hby at_340) (fun _ _ => ⟨rfl, e103, (by first | decide | omega : 4 + 0 ≤ _), (by first | decide | omega : 17 + 0 ≤ _)⟩))
      obtain ⟨rfl, N104q, hs104, P104⟩ := hQ104
      refine Done.go st104 ?_
      clear st104
      have N104 := Fr.app N103h N104q
      clear N104q
      have Z104 : n0 ≤ T104.heap.size := Nat.le_trans Z99 hs104
      obtain ⟨Lh104, X104h, N104h⟩ : ∃ L, Stand p l e room_1 s m #[(.int p0), (.int p1), (.int p2), (.int p3), (.int p4)] below meth c T104 L 4 17 ∧ Fr n0 L := ⟨_, X104, N104⟩
      clear X104 N104 X103h e103 N103h Z99
      obtain ⟨E104, Fscores104, FscoredFor104, Fscored104, Fquery104, Fcount104, VD104, VF104, VS104⟩ := id P104
      show Done p e s below _ _ _ T104 (mkF m 343 #[.val (.int p0), .val (.int p1), .val (.int p2), .val (.int p3), .val (.int p4), .val (.int pa), .val (.int pa), .val (.int pc), .val (.int pe), .val (.ref b84), .val (.ref bS), .val (.ref bD), .val (.int (0 : Int32)), .val (.int (1 : Int32)), .val (.int (2 : Int32)), .val (.int (1 : Int32))] [])
      refine Done.go (fun _ kt_ => XS.aload X104h.here hx rfl (hb hby at_343) rfl rfl kt_) ?_
      show Done p e s below _ _ _ T104 (mkF m 345 #[.val (.int p0), .val (.int p1), .val (.int p2), .val (.int p3), .val (.int p4), .val (.int pa), .val (.int pa), .val (.int pc), .val (.int pe), .val (.ref b84), .val (.ref bS), .val (.ref bD), .val (.int (0 : Int32)), .val (.int (1 : Int32)), .val (.int (2 : Int32)), .val (.int (1 : Int32))] [(.ref b84)])
      refine Done.go (fun _ kt_ => XS.iload X104h.here hx rfl (hb hby at_345) rfl kt_) ?_
      show Done p e s below _ _ _ T104 (mkF m 347 #[.val (.int p0), .val (.int p1), .val (.int p2), .val (.int p3), .val (.int p4), .val (.int pa), .val (.int pa), .val (.int pc), .val (.int pe), .val (.ref b84), .val (.ref bS), .val (.ref bD), .val (.int (0 : Int32)), .val (.int (1 : Int32)), .val (.int (2 : Int32)), .val (.int (1 : Int32))] [(.int pe), (.ref b84)])
      refine Done.go (fun _ kt_ => XS.iload X104h.here hx rfl (hb hby at_347) rfl kt_) ?_
      show Done p e s below _ _ _ T104 (mkF m 349 #[.val (.int p0), .val (.int p1), .val (.int p2), .val (.int p3), .val (.int p4), .val (.int pa), .val (.int pa), .val (.int pc), .val (.int pe), .val (.ref b84), .val (.ref bS), .val (.ref bD), .val (.int (0 : Int32)), .val (.int (1 : Int32)), .val (.int (2 : Int32)), .val (.int (1 : Int32))] [(.int p4), (.int pe), (.ref b84)])
      refine Done.go (fun _ kt_ => XS.i2dS X104h.here hx rfl (hb hby at_349) rfl (i2d_w p4) kt_) ?_
      show Done p e s below _ _ _ T104 (mkF m 350 #[.val (.int p0), .val (.int p1), .val (.int p2), .val (.int p3), .val (.int p4), .val (.int pa), .val (.int pa), .val (.int pc), .val (.int pe), .val (.ref b84), .val (.ref bS), .val (.ref bD), .val (.int (0 : Int32)), .val (.int (1 : Int32)), .val (.int (2 : Int32)), .val (.int (1 : Int32))] [(.double (FP.l2d (p4.toInt64))), (.int pe), (.ref b84)])
      obtain ⟨cq105, kq105, q105a, q105b, q105c⟩ := isOf hZ rfl E104
      obtain ⟨v105, T105, Lc105, X105, hQ105, st105⟩ := own_backV (X104h.virtualBack hx (y := (⟨"com/example/pivotwise/pivotwise/retrieval/Scores", "add", "(ID)V"⟩ : MethodName)) (z := (⟨"com/example/pivotwise/pivotwise/retrieval/Scores", "add", "(ID)V"⟩ : MethodName)) hown (mvT hZ (hw _ (List.mem_of_getElem? (i := 36) rfl))) (mvT hZ (hw _ (List.mem_of_getElem? (i := 37) rfl))) (notFace_of_selects (args := #[]) (mvT hZ (hw _ (List.mem_of_getElem? (i := 39) rfl)))) (mvT hZ (hw _ (List.mem_of_getElem? (i := 39) rfl))) (mvT hZ (hw _ (List.mem_of_getElem? (i := 38) rfl))) (by decide) (backOf (W := 0) (rm6n l Z a0 hw [] b84 bD bF bS pe (p4.toInt64) (own_u (own_u (own_u (fun _ => (0 : Int64)) A (0 + (p1.toInt64))) A (((0 : Int64) + (p1.toInt64)) + (p2.toInt64))) Cc (0 + (p3.toInt64))) (own_u (own_u (fun _ => (0 : Int32)) A (1 : Int32)) Cc (1 : Int32)) (own_u (own_u (fun _ => (0 : Int32)) 0 pa) 1 pc) (2 : Int32) (0 : Int32) Ee 0 (1 : Int32) T104.heap n0 Z104 ⟨E104, Fscores104, FscoredFor104, Fscored104, Fquery104, Fcount104, VD104, VF104, VS104⟩ hds hgs hEe hEe4 (own_leB (own_leG _) (by decide)) (by decide) (by decide) (by unfold own_u; (repeat' split) <;> first | decide | (show ¬ ((0 : Int32) = 2); decide)) (by decide)) hZ (hw _ (List.mem_of_getElem? (i := 40) rfl)) (hw _ (List.mem_of_getElem? (i := 2) rfl)) (by decide) (by decide)) q105a q105c (g := (mkF m 350 #[.val (.int p0), .val (.int p1), .val (.int p2), .val (.int p3), .val (.int p4), .val (.int pa), .val (.int pa), .val (.int pc), .val (.int pe), .val (.ref b84), .val (.ref bS), .val (.ref bD), .val (.int (0 : Int32)), .val (.int (1 : Int32)), .val (.int (2 : Int32)), .val (.int (1 : Int32))] [(.double (FP.l2d (p4.toInt64))), (.int pe), (.ref b84)])) rfl (by rw [hml]; rfl) (Steps.refl _) (argsL := [(.int pe), (.double (FP.l2d (p4.toInt64)))]) (rest := []) (lenOf own_pd4 rfl) rfl (by show 2 * 0 + _ ≤ _; exact Nat.le_of_eq rfl) (hb hby at_350) (fun _ _ => ⟨rfl, rfl, (by first | decide | omega : 4 + 0 ≤ _), (by first | decide | omega : 17 + 0 ≤ _)⟩))
      obtain ⟨rfl, N105q, hs105, P105⟩ := hQ105
      refine Done.go st105 ?_
      clear st105
      have N105 := Fr.app N104h N105q
      clear N105q
      have Z105 : n0 ≤ T105.heap.size := Nat.le_trans Z104 hs105
      obtain ⟨Lh105, X105h, N105h⟩ : ∃ L, Stand p l e room_1 s m #[(.int p0), (.int p1), (.int p2), (.int p3), (.int p4)] below meth c T105 L 4 17 ∧ Fr n0 L := ⟨_, X105, N105⟩
      clear X105 N105 X104h N104h Z104
      obtain ⟨E105, Fscores105, FscoredFor105, Fscored105, Fquery105, Fcount105, VD105, VF105, VS105⟩ := id P105
      show Done p e s below _ _ _ T105 (mkF m 353 #[.val (.int p0), .val (.int p1), .val (.int p2), .val (.int p3), .val (.int p4), .val (.int pa), .val (.int pa), .val (.int pc), .val (.int pe), .val (.ref b84), .val (.ref bS), .val (.ref bD), .val (.int (0 : Int32)), .val (.int (1 : Int32)), .val (.int (2 : Int32)), .val (.int (1 : Int32))] [])
      refine Done.go (fun _ kt_ => XS.iload X105h.here hx rfl (hb hby at_353) rfl kt_) ?_
      show Done p e s below _ _ _ T105 (mkF m 355 #[.val (.int p0), .val (.int p1), .val (.int p2), .val (.int p3), .val (.int p4), .val (.int pa), .val (.int pa), .val (.int pc), .val (.int pe), .val (.ref b84), .val (.ref bS), .val (.ref bD), .val (.int (0 : Int32)), .val (.int (1 : Int32)), .val (.int (2 : Int32)), .val (.int (1 : Int32))] [(.int (1 : Int32))])
      refine Done.go (fun _ kt_ => XS.ifNo X105h.here hx rfl (hb hby at_355) rfl ((if0 _ _).trans (feq (by decide)).1) kt_) ?_
      show Done p e s below _ _ _ T105 (mkF m 358 #[.val (.int p0), .val (.int p1), .val (.int p2), .val (.int p3), .val (.int p4), .val (.int pa), .val (.int pa), .val (.int pc), .val (.int pe), .val (.ref b84), .val (.ref bS), .val (.ref bD), .val (.int (0 : Int32)), .val (.int (1 : Int32)), .val (.int (2 : Int32)), .val (.int (1 : Int32))] [])
      refine Done.go (fun _ kt_ => XS.aload X105h.here hx rfl (hb hby at_358) rfl rfl kt_) ?_
      show Done p e s below _ _ _ T105 (mkF m 360 #[.val (.int p0), .val (.int p1), .val (.int p2), .val (.int p3), .val (.int p4), .val (.int pa), .val (.int pa), .val (.int pc), .val (.int pe), .val (.ref b84), .val (.ref bS), .val (.ref bD), .val (.int (0 : Int32)), .val (.int (1 : Int32)), .val (.int (2 : Int32)), .val (.int (1 : Int32))] [(.ref b84)])
      obtain ⟨cq106, kq106, q106a, q106b, q106c⟩ := isOf hZ rfl E105
      obtain ⟨v106, T106, Lc106, X106, hQ106, st106⟩ := own_backV (X105h.virtualBack hx (y := (⟨"com/example/pivotwise/pivotwise/retrieval/Scores", "count", "()I"⟩ : MethodName)) (z := (⟨"com/example/pivotwise/pivotwise/retrieval/Scores", "count", "()I"⟩ : MethodName)) hown (mvT hZ (hw _ (List.mem_of_getElem? (i := 41) rfl))) (mvT hZ (hw _ (List.mem_of_getElem? (i := 42) rfl))) (notFace_of_selects (args := #[]) (mvT hZ (hw _ (List.mem_of_getElem? (i := 44) rfl)))) (mvT hZ (hw _ (List.mem_of_getElem? (i := 44) rfl))) (mvT hZ (hw _ (List.mem_of_getElem? (i := 43) rfl))) (by decide) (backOf (W := 0) (rm7 l Z a0 hw [] b84 (1 : Int32) T105.heap n0 Z105 Fcount105) hZ (hw _ (List.mem_of_getElem? (i := 45) rfl)) (hw _ (List.mem_of_getElem? (i := 2) rfl)) (by decide) (by decide)) q106a q106c (g := (mkF m 360 #[.val (.int p0), .val (.int p1), .val (.int p2), .val (.int p3), .val (.int p4), .val (.int pa), .val (.int pa), .val (.int pc), .val (.int pe), .val (.ref b84), .val (.ref bS), .val (.ref bD), .val (.int (0 : Int32)), .val (.int (1 : Int32)), .val (.int (2 : Int32)), .val (.int (1 : Int32))] [(.ref b84)])) rfl (by rw [hml]; rfl) (Steps.refl _) (argsL := []) (rest := []) (lenOf own_pd5 rfl) rfl (by show 2 * 0 + _ ≤ _; exact Nat.le_of_eq rfl) (hb hby at_360) (fun _ _ => ⟨rfl, rfl, (by first | decide | omega : 4 + 0 ≤ _), (by first | decide | omega : 17 + 0 ≤ _)⟩))
      obtain ⟨rfl, N106q, e106⟩ := hQ106
      refine Done.go st106 ?_
      clear st106
      have N106 := Fr.app N105h N106q
      clear N106q
      obtain ⟨Lh106, X106h, N106h⟩ : ∃ L, Stand p l e room_1 s m #[(.int p0), (.int p1), (.int p2), (.int p3), (.int p4)] below meth c T106 L 4 17 ∧ Fr n0 L := ⟨_, X106, N106⟩
      clear X106 N106 X105h N105h
      show Done p e s below _ _ _ T106 (mkF m 363 #[.val (.int p0), .val (.int p1), .val (.int p2), .val (.int p3), .val (.int p4), .val (.int pa), .val (.int pa), .val (.int pc), .val (.int pe), .val (.ref b84), .val (.ref bS), .val (.ref bD), .val (.int (0 : Int32)), .val (.int (1 : Int32)), .val (.int (2 : Int32)), .val (.int (1 : Int32))] [(.int (1 : Int32))])
      refine Done.go (fun _ kt_ => XS.iconst X106h.here hx rfl (hb hby at_363) kt_) ?_
      show Done p e s below _ _ _ T106 (mkF m 364 #[.val (.int p0), .val (.int p1), .val (.int p2), .val (.int p3), .val (.int p4), .val (.int pa), .val (.int pa), .val (.int pc), .val (.int pe), .val (.ref b84), .val (.ref bS), .val (.ref bD), .val (.int (0 : Int32)), .val (.int (1 : Int32)), .val (.int (2 : Int32)), .val (.int (1 : Int32))] [(.int (1 : Int32)), (.int (1 : Int32))])
      refine Done.go (fun _ kt_ => XS.icmpNo X106h.here hx rfl (hb hby at_364) rfl (teq (by decide)).2 kt_) ?_
      show Done p e s below _ _ _ T106 (mkF m 367 #[.val (.int p0), .val (.int p1), .val (.int p2), .val (.int p3), .val (.int p4), .val (.int pa), .val (.int pa), .val (.int pc), .val (.int pe), .val (.ref b84), .val (.ref bS), .val (.ref bD), .val (.int (0 : Int32)), .val (.int (1 : Int32)), .val (.int (2 : Int32)), .val (.int (1 : Int32))] [])
      refine Done.go (fun _ kt_ => XS.aload X106h.here hx rfl (hb hby at_367) rfl rfl kt_) ?_
      show Done p e s below _ _ _ T106 (mkF m 369 #[.val (.int p0), .val (.int p1), .val (.int p2), .val (.int p3), .val (.int p4), .val (.int pa), .val (.int pa), .val (.int pc), .val (.int pe), .val (.ref b84), .val (.ref bS), .val (.ref bD), .val (.int (0 : Int32)), .val (.int (1 : Int32)), .val (.int (2 : Int32)), .val (.int (1 : Int32))] [(.ref bS)])
      refine Done.go (fun _ kt_ => XS.iconst X106h.here hx rfl (hb hby at_369) kt_) ?_
      show Done p e s below _ _ _ T106 (mkF m 370 #[.val (.int p0), .val (.int p1), .val (.int p2), .val (.int p3), .val (.int p4), .val (.int pa), .val (.int pa), .val (.int pc), .val (.int pe), .val (.ref b84), .val (.ref bS), .val (.ref bD), .val (.int (0 : Int32)), .val (.int (1 : Int32)), .val (.int (2 : Int32)), .val (.int (1 : Int32))] [(.int (0 : Int32)), (.ref bS)])
      refine Done.ldI X106h hx hZ e106 VS105 (j := (0 : Int32)) (w := pe) 0 (by decide) rfl (by decide) rfl (hb hby at_370) ?_
      show Done p e s below _ _ _ T106 (mkF m 371 #[.val (.int p0), .val (.int p1), .val (.int p2), .val (.int p3), .val (.int p4), .val (.int pa), .val (.int pa), .val (.int pc), .val (.int pe), .val (.ref b84), .val (.ref bS), .val (.ref bD), .val (.int (0 : Int32)), .val (.int (1 : Int32)), .val (.int (2 : Int32)), .val (.int (1 : Int32))] [(.int pe)])
      refine Done.go (fun _ kt_ => XS.iload X106h.here hx rfl (hb hby at_371) rfl kt_) ?_
      show Done p e s below _ _ _ T106 (mkF m 373 #[.val (.int p0), .val (.int p1), .val (.int p2), .val (.int p3), .val (.int p4), .val (.int pa), .val (.int pa), .val (.int pc), .val (.int pe), .val (.ref b84), .val (.ref bS), .val (.ref bD), .val (.int (0 : Int32)), .val (.int (1 : Int32)), .val (.int (2 : Int32)), .val (.int (1 : Int32))] [(.int pe), (.int pe)])
      refine Done.go (fun _ kt_ => XS.icmpNo X106h.here hx rfl (hb hby at_373) rfl (teq rfl).2 kt_) ?_
      show Done p e s below _ _ _ T106 (mkF m 376 #[.val (.int p0), .val (.int p1), .val (.int p2), .val (.int p3), .val (.int p4), .val (.int pa), .val (.int pa), .val (.int pc), .val (.int pe), .val (.ref b84), .val (.ref bS), .val (.ref bD), .val (.int (0 : Int32)), .val (.int (1 : Int32)), .val (.int (2 : Int32)), .val (.int (1 : Int32))] [])
      refine Done.go (fun _ kt_ => XS.aload X106h.here hx rfl (hb hby at_376) rfl rfl kt_) ?_
      show Done p e s below _ _ _ T106 (mkF m 378 #[.val (.int p0), .val (.int p1), .val (.int p2), .val (.int p3), .val (.int p4), .val (.int pa), .val (.int pa), .val (.int pc), .val (.int pe), .val (.ref b84), .val (.ref bS), .val (.ref bD), .val (.int (0 : Int32)), .val (.int (1 : Int32)), .val (.int (2 : Int32)), .val (.int (1 : Int32))] [(.ref bD)])
      refine Done.go (fun _ kt_ => XS.iload X106h.here hx rfl (hb hby at_378) rfl kt_) ?_
      show Done p e s below _ _ _ T106 (mkF m 380 #[.val (.int p0), .val (.int p1), .val (.int p2), .val (.int p3), .val (.int p4), .val (.int pa), .val (.int pa), .val (.int pc), .val (.int pe), .val (.ref b84), .val (.ref bS), .val (.ref bD), .val (.int (0 : Int32)), .val (.int (1 : Int32)), .val (.int (2 : Int32)), .val (.int (1 : Int32))] [(.int pe), (.ref bD)])
      refine Done.ldD X106h hx hZ e106 VD105 (j := pe) (y := ((0 : Int64) + (p4.toInt64))) Ee (own_ix hEe).1 (own_ix hEe).2 hEe4 (if_pos rfl) (hb hby at_380) ?_
      show Done p e s below _ _ _ T106 (mkF m 381 #[.val (.int p0), .val (.int p1), .val (.int p2), .val (.int p3), .val (.int p4), .val (.int pa), .val (.int pa), .val (.int pc), .val (.int pe), .val (.ref b84), .val (.ref bS), .val (.ref bD), .val (.int (0 : Int32)), .val (.int (1 : Int32)), .val (.int (2 : Int32)), .val (.int (1 : Int32))] [(.double (FP.l2d ((0 : Int64) + (p4.toInt64))))])
      refine Done.go (fun _ kt_ => XS.iload X106h.here hx rfl (hb hby at_381) rfl kt_) ?_
      show Done p e s below _ _ _ T106 (mkF m 383 #[.val (.int p0), .val (.int p1), .val (.int p2), .val (.int p3), .val (.int p4), .val (.int pa), .val (.int pa), .val (.int pc), .val (.int pe), .val (.ref b84), .val (.ref bS), .val (.ref bD), .val (.int (0 : Int32)), .val (.int (1 : Int32)), .val (.int (2 : Int32)), .val (.int (1 : Int32))] [(.int p4), (.double (FP.l2d ((0 : Int64) + (p4.toInt64))))])
      refine Done.go (fun _ kt_ => XS.i2dS X106h.here hx rfl (hb hby at_383) rfl (i2d_w p4) kt_) ?_
      show Done p e s below _ _ _ T106 (mkF m 384 #[.val (.int p0), .val (.int p1), .val (.int p2), .val (.int p3), .val (.int p4), .val (.int pa), .val (.int pa), .val (.int pc), .val (.int pe), .val (.ref b84), .val (.ref bS), .val (.ref bD), .val (.int (0 : Int32)), .val (.int (1 : Int32)), .val (.int (2 : Int32)), .val (.int (1 : Int32))] [(.double (FP.l2d (p4.toInt64))), (.double (FP.l2d ((0 : Int64) + (p4.toInt64))))])
      refine Done.go (fun _ kt_ => XS.dcmpS X106h.here hx rfl (hb hby at_384) rfl (dcmpV_w (own_leB (own_leA own_le0 (by decide) p4) (by decide)) (own_leB (own_leG p4) (by decide)) _) kt_) ?_
      show Done p e s below _ _ _ T106 (mkF m 385 #[.val (.int p0), .val (.int p1), .val (.int p2), .val (.int p3), .val (.int p4), .val (.int pa), .val (.int pa), .val (.int pc), .val (.int pe), .val (.ref b84), .val (.ref bS), .val (.ref bD), .val (.int (0 : Int32)), .val (.int (1 : Int32)), .val (.int (2 : Int32)), .val (.int (1 : Int32))] [(.int (lcmpW ((0 : Int64) + (p4.toInt64)) (p4.toInt64)))])
      refine Done.go (fun _ kt_ => XS.ifNo X106h.here hx rfl (hb hby at_385) rfl ((if0 _ _).trans (teq ((lw_eq _ _).mpr (Int64.zero_add _))).2) kt_) ?_
      show Done p e s below _ _ _ T106 (mkF m 388 #[.val (.int p0), .val (.int p1), .val (.int p2), .val (.int p3), .val (.int p4), .val (.int pa), .val (.int pa), .val (.int pc), .val (.int pe), .val (.ref b84), .val (.ref bS), .val (.ref bD), .val (.int (0 : Int32)), .val (.int (1 : Int32)), .val (.int (2 : Int32)), .val (.int (1 : Int32))] [])
      refine Done.go (fun _ kt_ => XS.iconst X106h.here hx rfl (hb hby at_388) kt_) ?_
      show Done p e s below _ _ _ T106 (mkF m 389 #[.val (.int p0), .val (.int p1), .val (.int p2), .val (.int p3), .val (.int p4), .val (.int pa), .val (.int pa), .val (.int pc), .val (.int pe), .val (.ref b84), .val (.ref bS), .val (.ref bD), .val (.int (0 : Int32)), .val (.int (1 : Int32)), .val (.int (2 : Int32)), .val (.int (1 : Int32))] [(.int (1 : Int32))])
      refine Done.go (fun _ kt_ => XS.goto X106h.here hx rfl (pc0 := 389) (pc' := 393) rfl (hb hby at_389) (by decide) (by decide) kt_) ?_
      show Done p e s below _ _ _ T106 (mkF m 393 #[.val (.int p0), .val (.int p1), .val (.int p2), .val (.int p3), .val (.int p4), .val (.int pa), .val (.int pa), .val (.int pc), .val (.int pe), .val (.ref b84), .val (.ref bS), .val (.ref bD), .val (.int (0 : Int32)), .val (.int (1 : Int32)), .val (.int (2 : Int32)), .val (.int (1 : Int32))] [(.int (1 : Int32))])
      refine Done.go (fun _ kt_ => XS.istore X106h.here hx rfl (hb hby at_393) rfl (l' := #[.val (.int p0), .val (.int p1), .val (.int p2), .val (.int p3), .val (.int p4), .val (.int pa), .val (.int pa), .val (.int pc), .val (.int pe), .val (.ref b84), .val (.ref bS), .val (.ref bD), .val (.int (0 : Int32)), .val (.int (1 : Int32)), .val (.int (2 : Int32)), .val (.int (1 : Int32))]) rfl kt_) ?_
      show Done p e s below _ _ _ T106 (mkF m 395 #[.val (.int p0), .val (.int p1), .val (.int p2), .val (.int p3), .val (.int p4), .val (.int pa), .val (.int pa), .val (.int pc), .val (.int pe), .val (.ref b84), .val (.ref bS), .val (.ref bD), .val (.int (0 : Int32)), .val (.int (1 : Int32)), .val (.int (2 : Int32)), .val (.int (1 : Int32))] [])
      refine Done.go (fun _ kt_ => XS.iload X106h.here hx rfl (hb hby at_395) rfl kt_) ?_
      show Done p e s below _ _ _ T106 (mkF m 397 #[.val (.int p0), .val (.int p1), .val (.int p2), .val (.int p3), .val (.int p4), .val (.int pa), .val (.int pa), .val (.int pc), .val (.int pe), .val (.ref b84), .val (.ref bS), .val (.ref bD), .val (.int (0 : Int32)), .val (.int (1 : Int32)), .val (.int (2 : Int32)), .val (.int (1 : Int32))] [(.int (1 : Int32))])
      refine Done.retN X106h hx hlk (t := .boolean) hrt (by simp) (z' := (1 : Int32)) rfl (hb hby at_397) ?_ (by first | decide | omega) (by first | decide | omega)
      rw [e106]
      exact ⟨rfl, N106h⟩
  · skip
    have n_AB : ¬ A = B := hcs
    have n_BA : ¬ B = A := fun q => hcs q.symm
    have i_papb : ¬ pa = pb := own_neN hA hB hcs
    have i_pbpa : ¬ pb = pa := fun q => i_papb q.symm
    clear hcs
    show Done p e s below _ _ _ T89 (mkF m 65 #[.val (.int p0), .val (.int p1), .val (.int p2), .val (.int p3), .val (.int p4), .val (.int pa), .val (.int pb), .val (.int pc), .val (.int pe), .val (.ref b84), .val (.ref bS), .val (.ref bD), .unset, .unset, .unset, .unset] [])
    refine Done.go (fun _ kt_ => XS.aload X89h.here hx rfl (hb hby at_65) rfl rfl kt_) ?_
    show Done p e s below _ _ _ T89 (mkF m 67 #[.val (.int p0), .val (.int p1), .val (.int p2), .val (.int p3), .val (.int p4), .val (.int pa), .val (.int pb), .val (.int pc), .val (.int pe), .val (.ref b84), .val (.ref bS), .val (.ref bD), .unset, .unset, .unset, .unset] [(.ref b84)])
    refine Done.go (fun _ kt_ => XS.iload X89h.here hx rfl (hb hby at_67) rfl kt_) ?_
    show Done p e s below _ _ _ T89 (mkF m 69 #[.val (.int p0), .val (.int p1), .val (.int p2), .val (.int p3), .val (.int p4), .val (.int pa), .val (.int pb), .val (.int pc), .val (.int pe), .val (.ref b84), .val (.ref bS), .val (.ref bD), .unset, .unset, .unset, .unset] [(.int pb), (.ref b84)])
    refine Done.go (fun _ kt_ => XS.iloadN X89h.here hx rfl (hb hby at_69) rfl kt_) ?_
    show Done p e s below _ _ _ T89 (mkF m 70 #[.val (.int p0), .val (.int p1), .val (.int p2), .val (.int p3), .val (.int p4), .val (.int pa), .val (.int pb), .val (.int pc), .val (.int pe), .val (.ref b84), .val (.ref bS), .val (.ref bD), .unset, .unset, .unset, .unset] [(.int p2), (.int pb), (.ref b84)])
    refine Done.go (fun _ kt_ => XS.i2dS X89h.here hx rfl (hb hby at_70) rfl (i2d_w p2) kt_) ?_
    show Done p e s below _ _ _ T89 (mkF m 71 #[.val (.int p0), .val (.int p1), .val (.int p2), .val (.int p3), .val (.int p4), .val (.int pa), .val (.int pb), .val (.int pc), .val (.int pe), .val (.ref b84), .val (.ref bS), .val (.ref bD), .unset, .unset, .unset, .unset] [(.double (FP.l2d (p2.toInt64))), (.int pb), (.ref b84)])
    obtain ⟨cq107, kq107, q107a, q107b, q107c⟩ := isOf hZ rfl E89
    obtain ⟨v107, T107, Lc107, X107, hQ107, st107⟩ := own_backV (X89h.virtualBack hx (y := (⟨"com/example/pivotwise/pivotwise/retrieval/Scores", "add", "(ID)V"⟩ : MethodName)) (z := (⟨"com/example/pivotwise/pivotwise/retrieval/Scores", "add", "(ID)V"⟩ : MethodName)) hown (mvT hZ (hw _ (List.mem_of_getElem? (i := 36) rfl))) (mvT hZ (hw _ (List.mem_of_getElem? (i := 37) rfl))) (notFace_of_selects (args := #[]) (mvT hZ (hw _ (List.mem_of_getElem? (i := 39) rfl)))) (mvT hZ (hw _ (List.mem_of_getElem? (i := 39) rfl))) (mvT hZ (hw _ (List.mem_of_getElem? (i := 38) rfl))) (by decide) (backOf (W := 0) (rm6n l Z a0 hw [] b84 bD bF bS pb (p2.toInt64) (own_u (fun _ => (0 : Int64)) A (0 + (p1.toInt64))) (own_u (fun _ => (0 : Int32)) A (1 : Int32)) (own_u (fun _ => (0 : Int32)) 0 pa) (1 : Int32) (1 : Int32) B 1 (2 : Int32) T89.heap n0 Z89 ⟨E89, Fscores89, FscoredFor89, Fscored89, Fquery89, Fcount89, VD89, VF89, VS89⟩ hds hgs hB hB4 (own_leB (own_leG _) (by decide)) (by decide) (by decide) (by simp [own_u, n_AB, n_BA]) (by decide)) hZ (hw _ (List.mem_of_getElem? (i := 40) rfl)) (hw _ (List.mem_of_getElem? (i := 2) rfl)) (by decide) (by decide)) q107a q107c (g := (mkF m 71 #[.val (.int p0), .val (.int p1), .val (.int p2), .val (.int p3), .val (.int p4), .val (.int pa), .val (.int pb), .val (.int pc), .val (.int pe), .val (.ref b84), .val (.ref bS), .val (.ref bD), .unset, .unset, .unset, .unset] [(.double (FP.l2d (p2.toInt64))), (.int pb), (.ref b84)])) rfl (by rw [hml]; rfl) (Steps.refl _) (argsL := [(.int pb), (.double (FP.l2d (p2.toInt64)))]) (rest := []) (lenOf own_pd4 rfl) rfl (by show 2 * 0 + _ ≤ _; exact Nat.le_of_eq rfl) (hb hby at_71) (fun _ _ => ⟨rfl, rfl, (by first | decide | omega : 4 + 0 ≤ _), (by first | decide | omega : 17 + 0 ≤ _)⟩))
    obtain ⟨rfl, N107q, hs107, P107⟩ := hQ107
    refine Done.go st107 ?_
    clear st107
    have N107 := Fr.app N89h N107q
    clear N107q
    have Z107 : n0 ≤ T107.heap.size := Nat.le_trans Z89 hs107
    obtain ⟨Lh107, X107h, N107h⟩ : ∃ L, Stand p l e room_1 s m #[(.int p0), (.int p1), (.int p2), (.int p3), (.int p4)] below meth c T107 L 4 17 ∧ Fr n0 L := ⟨_, X107, N107⟩
    clear X107 N107 X89h N89h Z89
    obtain ⟨E107, Fscores107, FscoredFor107, Fscored107, Fquery107, Fcount107, VD107, VF107, VS107⟩ := id P107
    by_cases hcs : A = Cc
    · skip
      have hq1 : pa = pc := own_eqN hA hCc hcs
      subst hq1
      subst hcs
      show Done p e s below _ _ _ T107 (mkF m 74 #[.val (.int p0), .val (.int p1), .val (.int p2), .val (.int p3), .val (.int p4), .val (.int pa), .val (.int pb), .val (.int pa), .val (.int pe), .val (.ref b84), .val (.ref bS), .val (.ref bD), .unset, .unset, .unset, .unset] [])
      refine Done.go (fun _ kt_ => XS.aload X107h.here hx rfl (hb hby at_74) rfl rfl kt_) ?_
      show Done p e s below _ _ _ T107 (mkF m 76 #[.val (.int p0), .val (.int p1), .val (.int p2), .val (.int p3), .val (.int p4), .val (.int pa), .val (.int pb), .val (.int pa), .val (.int pe), .val (.ref b84), .val (.ref bS), .val (.ref bD), .unset, .unset, .unset, .unset] [(.ref b84)])
      refine Done.go (fun _ kt_ => XS.iload X107h.here hx rfl (hb hby at_76) rfl kt_) ?_
      show Done p e s below _ _ _ T107 (mkF m 78 #[.val (.int p0), .val (.int p1), .val (.int p2), .val (.int p3), .val (.int p4), .val (.int pa), .val (.int pb), .val (.int pa), .val (.int pe), .val (.ref b84), .val (.ref bS), .val (.ref bD), .unset, .unset, .unset, .unset] [(.int pa), (.ref b84)])
      refine Done.go (fun _ kt_ => XS.iloadN X107h.here hx rfl (hb hby at_78) rfl kt_) ?_
      show Done p e s below _ _ _ T107 (mkF m 79 #[.val (.int p0), .val (.int p1), .val (.int p2), .val (.int p3), .val (.int p4), .val (.int pa), .val (.int pb), .val (.int pa), .val (.int pe), .val (.ref b84), .val (.ref bS), .val (.ref bD), .unset, .unset, .unset, .unset] [(.int p3), (.int pa), (.ref b84)])
      refine Done.go (fun _ kt_ => XS.i2dS X107h.here hx rfl (hb hby at_79) rfl (i2d_w p3) kt_) ?_
      show Done p e s below _ _ _ T107 (mkF m 80 #[.val (.int p0), .val (.int p1), .val (.int p2), .val (.int p3), .val (.int p4), .val (.int pa), .val (.int pb), .val (.int pa), .val (.int pe), .val (.ref b84), .val (.ref bS), .val (.ref bD), .unset, .unset, .unset, .unset] [(.double (FP.l2d (p3.toInt64))), (.int pa), (.ref b84)])
      have hrd : (own_u (own_u (fun _ => (0 : Int64)) A (0 + (p1.toInt64))) B (0 + (p2.toInt64))) A = ((0 : Int64) + (p1.toInt64)) := by simp [own_u, n_AB, n_BA]
      obtain ⟨cq108, kq108, q108a, q108b, q108c⟩ := isOf hZ rfl E107
      obtain ⟨v108, T108, Lc108, X108, hQ108, st108⟩ := own_backV (X107h.virtualBack hx (y := (⟨"com/example/pivotwise/pivotwise/retrieval/Scores", "add", "(ID)V"⟩ : MethodName)) (z := (⟨"com/example/pivotwise/pivotwise/retrieval/Scores", "add", "(ID)V"⟩ : MethodName)) hown (mvT hZ (hw _ (List.mem_of_getElem? (i := 36) rfl))) (mvT hZ (hw _ (List.mem_of_getElem? (i := 37) rfl))) (notFace_of_selects (args := #[]) (mvT hZ (hw _ (List.mem_of_getElem? (i := 39) rfl)))) (mvT hZ (hw _ (List.mem_of_getElem? (i := 39) rfl))) (mvT hZ (hw _ (List.mem_of_getElem? (i := 38) rfl))) (by decide) (backOf (W := 0) (rm6o l Z a0 hw [] b84 bD bF bS pa (p3.toInt64) (own_u (own_u (fun _ => (0 : Int64)) A (0 + (p1.toInt64))) B (0 + (p2.toInt64))) (own_u (own_u (fun _ => (0 : Int32)) A (1 : Int32)) B (1 : Int32)) (own_u (own_u (fun _ => (0 : Int32)) 0 pa) 1 pb) (1 : Int32) (2 : Int32) A T107.heap n0 Z107 ⟨E107, Fscores107, FscoredFor107, Fscored107, Fquery107, Fcount107, VD107, VF107, VS107⟩ hds hgs hA hA4 (own_leB (own_leG _) (by decide)) (by simp [own_u, n_AB, n_BA]) (by rw [hrd]; exact (own_leB (own_leA own_le0 (by decide) p1) (by decide)))) hZ (hw _ (List.mem_of_getElem? (i := 40) rfl)) (hw _ (List.mem_of_getElem? (i := 2) rfl)) (by decide) (by decide)) q108a q108c (g := (mkF m 80 #[.val (.int p0), .val (.int p1), .val (.int p2), .val (.int p3), .val (.int p4), .val (.int pa), .val (.int pb), .val (.int pa), .val (.int pe), .val (.ref b84), .val (.ref bS), .val (.ref bD), .unset, .unset, .unset, .unset] [(.double (FP.l2d (p3.toInt64))), (.int pa), (.ref b84)])) rfl (by rw [hml]; rfl) (Steps.refl _) (argsL := [(.int pa), (.double (FP.l2d (p3.toInt64)))]) (rest := []) (lenOf own_pd4 rfl) rfl (by show 2 * 0 + _ ≤ _; exact Nat.le_of_eq rfl) (hb hby at_80) (fun _ _ => ⟨rfl, rfl, (by first | decide | omega : 4 + 0 ≤ _), (by first | decide | omega : 17 + 0 ≤ _)⟩))
      obtain ⟨rfl, N108q, hs108, P108⟩ := hQ108
      refine Done.go st108 ?_
      clear st108
      have N108 := Fr.app N107h N108q
      clear N108q
      rw [hrd] at P108; clear hrd
      have Z108 : n0 ≤ T108.heap.size := Nat.le_trans Z107 hs108
      obtain ⟨Lh108, X108h, N108h⟩ : ∃ L, Stand p l e room_1 s m #[(.int p0), (.int p1), (.int p2), (.int p3), (.int p4)] below meth c T108 L 4 17 ∧ Fr n0 L := ⟨_, X108, N108⟩
      clear X108 N108 X107h N107h Z107
      obtain ⟨E108, Fscores108, FscoredFor108, Fscored108, Fquery108, Fcount108, VD108, VF108, VS108⟩ := id P108
      show Done p e s below _ _ _ T108 (mkF m 83 #[.val (.int p0), .val (.int p1), .val (.int p2), .val (.int p3), .val (.int p4), .val (.int pa), .val (.int pb), .val (.int pa), .val (.int pe), .val (.ref b84), .val (.ref bS), .val (.ref bD), .unset, .unset, .unset, .unset] [])
      refine Done.go (fun _ kt_ => XS.iload X108h.here hx rfl (hb hby at_83) rfl kt_) ?_
      show Done p e s below _ _ _ T108 (mkF m 85 #[.val (.int p0), .val (.int p1), .val (.int p2), .val (.int p3), .val (.int p4), .val (.int pa), .val (.int pb), .val (.int pa), .val (.int pe), .val (.ref b84), .val (.ref bS), .val (.ref bD), .unset, .unset, .unset, .unset] [(.int pb)])
      refine Done.go (fun _ kt_ => XS.iload X108h.here hx rfl (hb hby at_85) rfl kt_) ?_
      show Done p e s below _ _ _ T108 (mkF m 87 #[.val (.int p0), .val (.int p1), .val (.int p2), .val (.int p3), .val (.int p4), .val (.int pa), .val (.int pb), .val (.int pa), .val (.int pe), .val (.ref b84), .val (.ref bS), .val (.ref bD), .unset, .unset, .unset, .unset] [(.int pa), (.int pb)])
      refine Done.go (fun _ kt_ => XS.icmpNo X108h.here hx rfl (hb hby at_87) rfl (feq i_pbpa).1 kt_) ?_
      show Done p e s below _ _ _ T108 (mkF m 90 #[.val (.int p0), .val (.int p1), .val (.int p2), .val (.int p3), .val (.int p4), .val (.int pa), .val (.int pb), .val (.int pa), .val (.int pe), .val (.ref b84), .val (.ref bS), .val (.ref bD), .unset, .unset, .unset, .unset] [])
      refine Done.go (fun _ kt_ => XS.iconst X108h.here hx rfl (hb hby at_90) kt_) ?_
      show Done p e s below _ _ _ T108 (mkF m 91 #[.val (.int p0), .val (.int p1), .val (.int p2), .val (.int p3), .val (.int p4), .val (.int pa), .val (.int pb), .val (.int pa), .val (.int pe), .val (.ref b84), .val (.ref bS), .val (.ref bD), .unset, .unset, .unset, .unset] [(.int (1 : Int32))])
      refine Done.go (fun _ kt_ => XS.goto X108h.here hx rfl (pc0 := 91) (pc' := 95) rfl (hb hby at_91) (by decide) (by decide) kt_) ?_
      show Done p e s below _ _ _ T108 (mkF m 95 #[.val (.int p0), .val (.int p1), .val (.int p2), .val (.int p3), .val (.int p4), .val (.int pa), .val (.int pb), .val (.int pa), .val (.int pe), .val (.ref b84), .val (.ref bS), .val (.ref bD), .unset, .unset, .unset, .unset] [(.int (1 : Int32))])
      refine Done.go (fun _ kt_ => XS.istore X108h.here hx rfl (hb hby at_95) rfl (l' := #[.val (.int p0), .val (.int p1), .val (.int p2), .val (.int p3), .val (.int p4), .val (.int pa), .val (.int pb), .val (.int pa), .val (.int pe), .val (.ref b84), .val (.ref bS), .val (.ref bD), .val (.int (1 : Int32)), .unset, .unset, .unset]) rfl kt_) ?_
      show Done p e s below _ _ _ T108 (mkF m 97 #[.val (.int p0), .val (.int p1), .val (.int p2), .val (.int p3), .val (.int p4), .val (.int pa), .val (.int pb), .val (.int pa), .val (.int pe), .val (.ref b84), .val (.ref bS), .val (.ref bD), .val (.int (1 : Int32)), .unset, .unset, .unset] [])
      refine Done.go (fun _ kt_ => XS.iload X108h.here hx rfl (hb hby at_97) rfl kt_) ?_
      show Done p e s below _ _ _ T108 (mkF m 99 #[.val (.int p0), .val (.int p1), .val (.int p2), .val (.int p3), .val (.int p4), .val (.int pa), .val (.int pb), .val (.int pa), .val (.int pe), .val (.ref b84), .val (.ref bS), .val (.ref bD), .val (.int (1 : Int32)), .unset, .unset, .unset] [(.int pa)])
      refine Done.go (fun _ kt_ => XS.iload X108h.here hx rfl (hb hby at_99) rfl kt_) ?_
      show Done p e s below _ _ _ T108 (mkF m 101 #[.val (.int p0), .val (.int p1), .val (.int p2), .val (.int p3), .val (.int p4), .val (.int pa), .val (.int pb), .val (.int pa), .val (.int pe), .val (.ref b84), .val (.ref bS), .val (.ref bD), .val (.int (1 : Int32)), .unset, .unset, .unset] [(.int pa), (.int pa)])
      refine Done.go (fun _ kt_ => XS.icmpYes X108h.here hx rfl (pc0 := 101) (pc' := 115) rfl (hb hby at_101) rfl (teq rfl).1 (by decide) (by decide) kt_) ?_
      show Done p e s below _ _ _ T108 (mkF m 115 #[.val (.int p0), .val (.int p1), .val (.int p2), .val (.int p3), .val (.int p4), .val (.int pa), .val (.int pb), .val (.int pa), .val (.int pe), .val (.ref b84), .val (.ref bS), .val (.ref bD), .val (.int (1 : Int32)), .unset, .unset, .unset] [])
      refine Done.go (fun _ kt_ => XS.iconst X108h.here hx rfl (hb hby at_115) kt_) ?_
      show Done p e s below _ _ _ T108 (mkF m 116 #[.val (.int p0), .val (.int p1), .val (.int p2), .val (.int p3), .val (.int p4), .val (.int pa), .val (.int pb), .val (.int pa), .val (.int pe), .val (.ref b84), .val (.ref bS), .val (.ref bD), .val (.int (1 : Int32)), .unset, .unset, .unset] [(.int (0 : Int32))])
      refine Done.go (fun _ kt_ => XS.istore X108h.here hx rfl (hb hby at_116) rfl (l' := #[.val (.int p0), .val (.int p1), .val (.int p2), .val (.int p3), .val (.int p4), .val (.int pa), .val (.int pb), .val (.int pa), .val (.int pe), .val (.ref b84), .val (.ref bS), .val (.ref bD), .val (.int (1 : Int32)), .val (.int (0 : Int32)), .unset, .unset]) rfl kt_) ?_
      show Done p e s below _ _ _ T108 (mkF m 118 #[.val (.int p0), .val (.int p1), .val (.int p2), .val (.int p3), .val (.int p4), .val (.int pa), .val (.int pb), .val (.int pa), .val (.int pe), .val (.ref b84), .val (.ref bS), .val (.ref bD), .val (.int (1 : Int32)), .val (.int (0 : Int32)), .unset, .unset] [])
      refine Done.go (fun _ kt_ => XS.iconst X108h.here hx rfl (hb hby at_118) kt_) ?_
      show Done p e s below _ _ _ T108 (mkF m 119 #[.val (.int p0), .val (.int p1), .val (.int p2), .val (.int p3), .val (.int p4), .val (.int pa), .val (.int pb), .val (.int pa), .val (.int pe), .val (.ref b84), .val (.ref bS), .val (.ref bD), .val (.int (1 : Int32)), .val (.int (0 : Int32)), .unset, .unset] [(.int (1 : Int32))])
      refine Done.go (fun _ kt_ => XS.iload X108h.here hx rfl (hb hby at_119) rfl kt_) ?_
      show Done p e s below _ _ _ T108 (mkF m 121 #[.val (.int p0), .val (.int p1), .val (.int p2), .val (.int p3), .val (.int p4), .val (.int pa), .val (.int pb), .val (.int pa), .val (.int pe), .val (.ref b84), .val (.ref bS), .val (.ref bD), .val (.int (1 : Int32)), .val (.int (0 : Int32)), .unset, .unset] [(.int (1 : Int32)), (.int (1 : Int32))])
      refine Done.go (fun _ kt_ => XS.ifNo X108h.here hx rfl (hb hby at_121) rfl ((if0 _ _).trans (feq (by decide)).1) kt_) ?_
      show Done p e s below _ _ _ T108 (mkF m 124 #[.val (.int p0), .val (.int p1), .val (.int p2), .val (.int p3), .val (.int p4), .val (.int pa), .val (.int pb), .val (.int pa), .val (.int pe), .val (.ref b84), .val (.ref bS), .val (.ref bD), .val (.int (1 : Int32)), .val (.int (0 : Int32)), .unset, .unset] [(.int (1 : Int32))])
      refine Done.go (fun _ kt_ => XS.iconst X108h.here hx rfl (hb hby at_124) kt_) ?_
      show Done p e s below _ _ _ T108 (mkF m 125 #[.val (.int p0), .val (.int p1), .val (.int p2), .val (.int p3), .val (.int p4), .val (.int pa), .val (.int pb), .val (.int pa), .val (.int pe), .val (.ref b84), .val (.ref bS), .val (.ref bD), .val (.int (1 : Int32)), .val (.int (0 : Int32)), .unset, .unset] [(.int (1 : Int32)), (.int (1 : Int32))])
      refine Done.go (fun _ kt_ => XS.goto X108h.here hx rfl (pc0 := 125) (pc' := 129) rfl (hb hby at_125) (by decide) (by decide) kt_) ?_
      show Done p e s below _ _ _ T108 (mkF m 129 #[.val (.int p0), .val (.int p1), .val (.int p2), .val (.int p3), .val (.int p4), .val (.int pa), .val (.int pb), .val (.int pa), .val (.int pe), .val (.ref b84), .val (.ref bS), .val (.ref bD), .val (.int (1 : Int32)), .val (.int (0 : Int32)), .unset, .unset] [(.int (1 : Int32)), (.int (1 : Int32))])
      refine Done.go (fun _ kt_ => XS.iadd X108h.here hx rfl (hb hby at_129) rfl kt_) ?_
      show Done p e s below _ _ _ T108 (mkF m 130 #[.val (.int p0), .val (.int p1), .val (.int p2), .val (.int p3), .val (.int p4), .val (.int pa), .val (.int pb), .val (.int pa), .val (.int pe), .val (.ref b84), .val (.ref bS), .val (.ref bD), .val (.int (1 : Int32)), .val (.int (0 : Int32)), .unset, .unset] [(.int ((1 : Int32) + (1 : Int32)))])
      rw [show ((1 : Int32) + (1 : Int32)) = (2 : Int32) from by decide]
      show Done p e s below _ _ _ T108 (mkF m 130 #[.val (.int p0), .val (.int p1), .val (.int p2), .val (.int p3), .val (.int p4), .val (.int pa), .val (.int pb), .val (.int pa), .val (.int pe), .val (.ref b84), .val (.ref bS), .val (.ref bD), .val (.int (1 : Int32)), .val (.int (0 : Int32)), .unset, .unset] [(.int (2 : Int32))])
      refine Done.go (fun _ kt_ => XS.iload X108h.here hx rfl (hb hby at_130) rfl kt_) ?_
      show Done p e s below _ _ _ T108 (mkF m 132 #[.val (.int p0), .val (.int p1), .val (.int p2), .val (.int p3), .val (.int p4), .val (.int pa), .val (.int pb), .val (.int pa), .val (.int pe), .val (.ref b84), .val (.ref bS), .val (.ref bD), .val (.int (1 : Int32)), .val (.int (0 : Int32)), .unset, .unset] [(.int (0 : Int32)), (.int (2 : Int32))])
      refine Done.go (fun _ kt_ => XS.ifYes X108h.here hx rfl (pc0 := 132) (pc' := 139) rfl (hb hby at_132) rfl ((if0 _ _).trans (teq (by decide)).1) (by decide) (by decide) kt_) ?_
      show Done p e s below _ _ _ T108 (mkF m 139 #[.val (.int p0), .val (.int p1), .val (.int p2), .val (.int p3), .val (.int p4), .val (.int pa), .val (.int pb), .val (.int pa), .val (.int pe), .val (.ref b84), .val (.ref bS), .val (.ref bD), .val (.int (1 : Int32)), .val (.int (0 : Int32)), .unset, .unset] [(.int (2 : Int32))])
      refine Done.go (fun _ kt_ => XS.iconst X108h.here hx rfl (hb hby at_139) kt_) ?_
      show Done p e s below _ _ _ T108 (mkF m 140 #[.val (.int p0), .val (.int p1), .val (.int p2), .val (.int p3), .val (.int p4), .val (.int pa), .val (.int pb), .val (.int pa), .val (.int pe), .val (.ref b84), .val (.ref bS), .val (.ref bD), .val (.int (1 : Int32)), .val (.int (0 : Int32)), .unset, .unset] [(.int (0 : Int32)), (.int (2 : Int32))])
      refine Done.go (fun _ kt_ => XS.iadd X108h.here hx rfl (hb hby at_140) rfl kt_) ?_
      show Done p e s below _ _ _ T108 (mkF m 141 #[.val (.int p0), .val (.int p1), .val (.int p2), .val (.int p3), .val (.int p4), .val (.int pa), .val (.int pb), .val (.int pa), .val (.int pe), .val (.ref b84), .val (.ref bS), .val (.ref bD), .val (.int (1 : Int32)), .val (.int (0 : Int32)), .unset, .unset] [(.int ((2 : Int32) + (0 : Int32)))])
      rw [show ((2 : Int32) + (0 : Int32)) = (2 : Int32) from by decide]
      show Done p e s below _ _ _ T108 (mkF m 141 #[.val (.int p0), .val (.int p1), .val (.int p2), .val (.int p3), .val (.int p4), .val (.int pa), .val (.int pb), .val (.int pa), .val (.int pe), .val (.ref b84), .val (.ref bS), .val (.ref bD), .val (.int (1 : Int32)), .val (.int (0 : Int32)), .unset, .unset] [(.int (2 : Int32))])
      refine Done.go (fun _ kt_ => XS.istore X108h.here hx rfl (hb hby at_141) rfl (l' := #[.val (.int p0), .val (.int p1), .val (.int p2), .val (.int p3), .val (.int p4), .val (.int pa), .val (.int pb), .val (.int pa), .val (.int pe), .val (.ref b84), .val (.ref bS), .val (.ref bD), .val (.int (1 : Int32)), .val (.int (0 : Int32)), .val (.int (2 : Int32)), .unset]) rfl kt_) ?_
      show Done p e s below _ _ _ T108 (mkF m 143 #[.val (.int p0), .val (.int p1), .val (.int p2), .val (.int p3), .val (.int p4), .val (.int pa), .val (.int pb), .val (.int pa), .val (.int pe), .val (.ref b84), .val (.ref bS), .val (.ref bD), .val (.int (1 : Int32)), .val (.int (0 : Int32)), .val (.int (2 : Int32)), .unset] [])
      refine Done.go (fun _ kt_ => XS.aload X108h.here hx rfl (hb hby at_143) rfl rfl kt_) ?_
      show Done p e s below _ _ _ T108 (mkF m 145 #[.val (.int p0), .val (.int p1), .val (.int p2), .val (.int p3), .val (.int p4), .val (.int pa), .val (.int pb), .val (.int pa), .val (.int pe), .val (.ref b84), .val (.ref bS), .val (.ref bD), .val (.int (1 : Int32)), .val (.int (0 : Int32)), .val (.int (2 : Int32)), .unset] [(.ref b84)])
      obtain ⟨cq109, kq109, q109a, q109b, q109c⟩ := isOf hZ rfl E108
      obtain ⟨v109, T109, Lc109, X109, hQ109, st109⟩ := own_backV (X108h.virtualBack hx (y := (⟨"com/example/pivotwise/pivotwise/retrieval/Scores", "count", "()I"⟩ : MethodName)) (z := (⟨"com/example/pivotwise/pivotwise/retrieval/Scores", "count", "()I"⟩ : MethodName)) hown (mvT hZ (hw _ (List.mem_of_getElem? (i := 41) rfl))) (mvT hZ (hw _ (List.mem_of_getElem? (i := 42) rfl))) (notFace_of_selects (args := #[]) (mvT hZ (hw _ (List.mem_of_getElem? (i := 44) rfl)))) (mvT hZ (hw _ (List.mem_of_getElem? (i := 44) rfl))) (mvT hZ (hw _ (List.mem_of_getElem? (i := 43) rfl))) (by decide) (backOf (W := 0) (rm7 l Z a0 hw [] b84 (2 : Int32) T108.heap n0 Z108 Fcount108) hZ (hw _ (List.mem_of_getElem? (i := 45) rfl)) (hw _ (List.mem_of_getElem? (i := 2) rfl)) (by decide) (by decide)) q109a q109c (g := (mkF m 145 #[.val (.int p0), .val (.int p1), .val (.int p2), .val (.int p3), .val (.int p4), .val (.int pa), .val (.int pb), .val (.int pa), .val (.int pe), .val (.ref b84), .val (.ref bS), .val (.ref bD), .val (.int (1 : Int32)), .val (.int (0 : Int32)), .val (.int (2 : Int32)), .unset] [(.ref b84)])) rfl (by rw [hml]; rfl) (Steps.refl _) (argsL := []) (rest := []) (lenOf own_pd5 rfl) rfl (by show 2 * 0 + _ ≤ _; exact Nat.le_of_eq rfl) (hb hby at_145) (fun _ _ => ⟨rfl, rfl, (by first | decide | omega : 4 + 0 ≤ _), (by first | decide | omega : 17 + 0 ≤ _)⟩))
      obtain ⟨rfl, N109q, e109⟩ := hQ109
      refine Done.go st109 ?_
      clear st109
      have N109 := Fr.app N108h N109q
      clear N109q
      obtain ⟨Lh109, X109h, N109h⟩ : ∃ L, Stand p l e room_1 s m #[(.int p0), (.int p1), (.int p2), (.int p3), (.int p4)] below meth c T109 L 4 17 ∧ Fr n0 L := ⟨_, X109, N109⟩
      clear X109 N109 X108h N108h
      show Done p e s below _ _ _ T109 (mkF m 148 #[.val (.int p0), .val (.int p1), .val (.int p2), .val (.int p3), .val (.int p4), .val (.int pa), .val (.int pb), .val (.int pa), .val (.int pe), .val (.ref b84), .val (.ref bS), .val (.ref bD), .val (.int (1 : Int32)), .val (.int (0 : Int32)), .val (.int (2 : Int32)), .unset] [(.int (2 : Int32))])
      refine Done.go (fun _ kt_ => XS.iload X109h.here hx rfl (hb hby at_148) rfl kt_) ?_
      show Done p e s below _ _ _ T109 (mkF m 150 #[.val (.int p0), .val (.int p1), .val (.int p2), .val (.int p3), .val (.int p4), .val (.int pa), .val (.int pb), .val (.int pa), .val (.int pe), .val (.ref b84), .val (.ref bS), .val (.ref bD), .val (.int (1 : Int32)), .val (.int (0 : Int32)), .val (.int (2 : Int32)), .unset] [(.int (2 : Int32)), (.int (2 : Int32))])
      refine Done.go (fun _ kt_ => XS.icmpNo X109h.here hx rfl (hb hby at_150) rfl (teq (by decide)).2 kt_) ?_
      show Done p e s below _ _ _ T109 (mkF m 153 #[.val (.int p0), .val (.int p1), .val (.int p2), .val (.int p3), .val (.int p4), .val (.int pa), .val (.int pb), .val (.int pa), .val (.int pe), .val (.ref b84), .val (.ref bS), .val (.ref bD), .val (.int (1 : Int32)), .val (.int (0 : Int32)), .val (.int (2 : Int32)), .unset] [])
      refine Done.go (fun _ kt_ => XS.aload X109h.here hx rfl (hb hby at_153) rfl rfl kt_) ?_
      show Done p e s below _ _ _ T109 (mkF m 155 #[.val (.int p0), .val (.int p1), .val (.int p2), .val (.int p3), .val (.int p4), .val (.int pa), .val (.int pb), .val (.int pa), .val (.int pe), .val (.ref b84), .val (.ref bS), .val (.ref bD), .val (.int (1 : Int32)), .val (.int (0 : Int32)), .val (.int (2 : Int32)), .unset] [(.ref bS)])
      refine Done.go (fun _ kt_ => XS.iconst X109h.here hx rfl (hb hby at_155) kt_) ?_
      show Done p e s below _ _ _ T109 (mkF m 156 #[.val (.int p0), .val (.int p1), .val (.int p2), .val (.int p3), .val (.int p4), .val (.int pa), .val (.int pb), .val (.int pa), .val (.int pe), .val (.ref b84), .val (.ref bS), .val (.ref bD), .val (.int (1 : Int32)), .val (.int (0 : Int32)), .val (.int (2 : Int32)), .unset] [(.int (0 : Int32)), (.ref bS)])
      refine Done.ldI X109h hx hZ e109 VS108 (j := (0 : Int32)) (w := pa) 0 (by decide) rfl (by decide) rfl (hb hby at_156) ?_
      show Done p e s below _ _ _ T109 (mkF m 157 #[.val (.int p0), .val (.int p1), .val (.int p2), .val (.int p3), .val (.int p4), .val (.int pa), .val (.int pb), .val (.int pa), .val (.int pe), .val (.ref b84), .val (.ref bS), .val (.ref bD), .val (.int (1 : Int32)), .val (.int (0 : Int32)), .val (.int (2 : Int32)), .unset] [(.int pa)])
      refine Done.go (fun _ kt_ => XS.iload X109h.here hx rfl (hb hby at_157) rfl kt_) ?_
      show Done p e s below _ _ _ T109 (mkF m 159 #[.val (.int p0), .val (.int p1), .val (.int p2), .val (.int p3), .val (.int p4), .val (.int pa), .val (.int pb), .val (.int pa), .val (.int pe), .val (.ref b84), .val (.ref bS), .val (.ref bD), .val (.int (1 : Int32)), .val (.int (0 : Int32)), .val (.int (2 : Int32)), .unset] [(.int pa), (.int pa)])
      refine Done.go (fun _ kt_ => XS.icmpNo X109h.here hx rfl (hb hby at_159) rfl (teq rfl).2 kt_) ?_
      show Done p e s below _ _ _ T109 (mkF m 162 #[.val (.int p0), .val (.int p1), .val (.int p2), .val (.int p3), .val (.int p4), .val (.int pa), .val (.int pb), .val (.int pa), .val (.int pe), .val (.ref b84), .val (.ref bS), .val (.ref bD), .val (.int (1 : Int32)), .val (.int (0 : Int32)), .val (.int (2 : Int32)), .unset] [])
      refine Done.go (fun _ kt_ => XS.iconst X109h.here hx rfl (hb hby at_162) kt_) ?_
      show Done p e s below _ _ _ T109 (mkF m 163 #[.val (.int p0), .val (.int p1), .val (.int p2), .val (.int p3), .val (.int p4), .val (.int pa), .val (.int pb), .val (.int pa), .val (.int pe), .val (.ref b84), .val (.ref bS), .val (.ref bD), .val (.int (1 : Int32)), .val (.int (0 : Int32)), .val (.int (2 : Int32)), .unset] [(.int (1 : Int32))])
      refine Done.go (fun _ kt_ => XS.goto X109h.here hx rfl (pc0 := 163) (pc' := 167) rfl (hb hby at_163) (by decide) (by decide) kt_) ?_
      show Done p e s below _ _ _ T109 (mkF m 167 #[.val (.int p0), .val (.int p1), .val (.int p2), .val (.int p3), .val (.int p4), .val (.int pa), .val (.int pb), .val (.int pa), .val (.int pe), .val (.ref b84), .val (.ref bS), .val (.ref bD), .val (.int (1 : Int32)), .val (.int (0 : Int32)), .val (.int (2 : Int32)), .unset] [(.int (1 : Int32))])
      refine Done.go (fun _ kt_ => XS.istore X109h.here hx rfl (hb hby at_167) rfl (l' := #[.val (.int p0), .val (.int p1), .val (.int p2), .val (.int p3), .val (.int p4), .val (.int pa), .val (.int pb), .val (.int pa), .val (.int pe), .val (.ref b84), .val (.ref bS), .val (.ref bD), .val (.int (1 : Int32)), .val (.int (0 : Int32)), .val (.int (2 : Int32)), .val (.int (1 : Int32))]) rfl kt_) ?_
      show Done p e s below _ _ _ T109 (mkF m 169 #[.val (.int p0), .val (.int p1), .val (.int p2), .val (.int p3), .val (.int p4), .val (.int pa), .val (.int pb), .val (.int pa), .val (.int pe), .val (.ref b84), .val (.ref bS), .val (.ref bD), .val (.int (1 : Int32)), .val (.int (0 : Int32)), .val (.int (2 : Int32)), .val (.int (1 : Int32))] [])
      refine Done.go (fun _ kt_ => XS.iload X109h.here hx rfl (hb hby at_169) rfl kt_) ?_
      show Done p e s below _ _ _ T109 (mkF m 171 #[.val (.int p0), .val (.int p1), .val (.int p2), .val (.int p3), .val (.int p4), .val (.int pa), .val (.int pb), .val (.int pa), .val (.int pe), .val (.ref b84), .val (.ref bS), .val (.ref bD), .val (.int (1 : Int32)), .val (.int (0 : Int32)), .val (.int (2 : Int32)), .val (.int (1 : Int32))] [(.int (2 : Int32))])
      refine Done.go (fun _ kt_ => XS.iconst X109h.here hx rfl (hb hby at_171) kt_) ?_
      show Done p e s below _ _ _ T109 (mkF m 172 #[.val (.int p0), .val (.int p1), .val (.int p2), .val (.int p3), .val (.int p4), .val (.int pa), .val (.int pb), .val (.int pa), .val (.int pe), .val (.ref b84), .val (.ref bS), .val (.ref bD), .val (.int (1 : Int32)), .val (.int (0 : Int32)), .val (.int (2 : Int32)), .val (.int (1 : Int32))] [(.int (2 : Int32)), (.int (2 : Int32))])
      refine Done.go (fun _ kt_ => XS.icmpNo X109h.here hx rfl (hb hby at_172) rfl (flt (by decide)).1 kt_) ?_
      show Done p e s below _ _ _ T109 (mkF m 175 #[.val (.int p0), .val (.int p1), .val (.int p2), .val (.int p3), .val (.int p4), .val (.int pa), .val (.int pb), .val (.int pa), .val (.int pe), .val (.ref b84), .val (.ref bS), .val (.ref bD), .val (.int (1 : Int32)), .val (.int (0 : Int32)), .val (.int (2 : Int32)), .val (.int (1 : Int32))] [])
      refine Done.go (fun _ kt_ => XS.iload X109h.here hx rfl (hb hby at_175) rfl kt_) ?_
      show Done p e s below _ _ _ T109 (mkF m 177 #[.val (.int p0), .val (.int p1), .val (.int p2), .val (.int p3), .val (.int p4), .val (.int pa), .val (.int pb), .val (.int pa), .val (.int pe), .val (.ref b84), .val (.ref bS), .val (.ref bD), .val (.int (1 : Int32)), .val (.int (0 : Int32)), .val (.int (2 : Int32)), .val (.int (1 : Int32))] [(.int (1 : Int32))])
      refine Done.go (fun _ kt_ => XS.ifNo X109h.here hx rfl (hb hby at_177) rfl ((if0 _ _).trans (feq (by decide)).1) kt_) ?_
      show Done p e s below _ _ _ T109 (mkF m 180 #[.val (.int p0), .val (.int p1), .val (.int p2), .val (.int p3), .val (.int p4), .val (.int pa), .val (.int pb), .val (.int pa), .val (.int pe), .val (.ref b84), .val (.ref bS), .val (.ref bD), .val (.int (1 : Int32)), .val (.int (0 : Int32)), .val (.int (2 : Int32)), .val (.int (1 : Int32))] [])
      refine Done.go (fun _ kt_ => XS.aload X109h.here hx rfl (hb hby at_180) rfl rfl kt_) ?_
      show Done p e s below _ _ _ T109 (mkF m 182 #[.val (.int p0), .val (.int p1), .val (.int p2), .val (.int p3), .val (.int p4), .val (.int pa), .val (.int pb), .val (.int pa), .val (.int pe), .val (.ref b84), .val (.ref bS), .val (.ref bD), .val (.int (1 : Int32)), .val (.int (0 : Int32)), .val (.int (2 : Int32)), .val (.int (1 : Int32))] [(.ref bS)])
      refine Done.go (fun _ kt_ => XS.iconst X109h.here hx rfl (hb hby at_182) kt_) ?_
      show Done p e s below _ _ _ T109 (mkF m 183 #[.val (.int p0), .val (.int p1), .val (.int p2), .val (.int p3), .val (.int p4), .val (.int pa), .val (.int pb), .val (.int pa), .val (.int pe), .val (.ref b84), .val (.ref bS), .val (.ref bD), .val (.int (1 : Int32)), .val (.int (0 : Int32)), .val (.int (2 : Int32)), .val (.int (1 : Int32))] [(.int (1 : Int32)), (.ref bS)])
      refine Done.ldI X109h hx hZ e109 VS108 (j := (1 : Int32)) (w := pb) 1 (by decide) rfl (by decide) rfl (hb hby at_183) ?_
      show Done p e s below _ _ _ T109 (mkF m 184 #[.val (.int p0), .val (.int p1), .val (.int p2), .val (.int p3), .val (.int p4), .val (.int pa), .val (.int pb), .val (.int pa), .val (.int pe), .val (.ref b84), .val (.ref bS), .val (.ref bD), .val (.int (1 : Int32)), .val (.int (0 : Int32)), .val (.int (2 : Int32)), .val (.int (1 : Int32))] [(.int pb)])
      refine Done.go (fun _ kt_ => XS.iload X109h.here hx rfl (hb hby at_184) rfl kt_) ?_
      show Done p e s below _ _ _ T109 (mkF m 186 #[.val (.int p0), .val (.int p1), .val (.int p2), .val (.int p3), .val (.int p4), .val (.int pa), .val (.int pb), .val (.int pa), .val (.int pe), .val (.ref b84), .val (.ref bS), .val (.ref bD), .val (.int (1 : Int32)), .val (.int (0 : Int32)), .val (.int (2 : Int32)), .val (.int (1 : Int32))] [(.int (1 : Int32)), (.int pb)])
      refine Done.go (fun _ kt_ => XS.ifNo X109h.here hx rfl (hb hby at_186) rfl ((if0 _ _).trans (feq (by decide)).1) kt_) ?_
      show Done p e s below _ _ _ T109 (mkF m 189 #[.val (.int p0), .val (.int p1), .val (.int p2), .val (.int p3), .val (.int p4), .val (.int pa), .val (.int pb), .val (.int pa), .val (.int pe), .val (.ref b84), .val (.ref bS), .val (.ref bD), .val (.int (1 : Int32)), .val (.int (0 : Int32)), .val (.int (2 : Int32)), .val (.int (1 : Int32))] [(.int pb)])
      refine Done.go (fun _ kt_ => XS.iload X109h.here hx rfl (hb hby at_189) rfl kt_) ?_
      show Done p e s below _ _ _ T109 (mkF m 191 #[.val (.int p0), .val (.int p1), .val (.int p2), .val (.int p3), .val (.int p4), .val (.int pa), .val (.int pb), .val (.int pa), .val (.int pe), .val (.ref b84), .val (.ref bS), .val (.ref bD), .val (.int (1 : Int32)), .val (.int (0 : Int32)), .val (.int (2 : Int32)), .val (.int (1 : Int32))] [(.int pb), (.int pb)])
      refine Done.go (fun _ kt_ => XS.goto X109h.here hx rfl (pc0 := 191) (pc' := 196) rfl (hb hby at_191) (by decide) (by decide) kt_) ?_
      show Done p e s below _ _ _ T109 (mkF m 196 #[.val (.int p0), .val (.int p1), .val (.int p2), .val (.int p3), .val (.int p4), .val (.int pa), .val (.int pb), .val (.int pa), .val (.int pe), .val (.ref b84), .val (.ref bS), .val (.ref bD), .val (.int (1 : Int32)), .val (.int (0 : Int32)), .val (.int (2 : Int32)), .val (.int (1 : Int32))] [(.int pb), (.int pb)])
      refine Done.go (fun _ kt_ => XS.icmpNo X109h.here hx rfl (hb hby at_196) rfl (teq rfl).2 kt_) ?_
      show Done p e s below _ _ _ T109 (mkF m 199 #[.val (.int p0), .val (.int p1), .val (.int p2), .val (.int p3), .val (.int p4), .val (.int pa), .val (.int pb), .val (.int pa), .val (.int pe), .val (.ref b84), .val (.ref bS), .val (.ref bD), .val (.int (1 : Int32)), .val (.int (0 : Int32)), .val (.int (2 : Int32)), .val (.int (1 : Int32))] [])
      refine Done.go (fun _ kt_ => XS.iconst X109h.here hx rfl (hb hby at_199) kt_) ?_
      show Done p e s below _ _ _ T109 (mkF m 200 #[.val (.int p0), .val (.int p1), .val (.int p2), .val (.int p3), .val (.int p4), .val (.int pa), .val (.int pb), .val (.int pa), .val (.int pe), .val (.ref b84), .val (.ref bS), .val (.ref bD), .val (.int (1 : Int32)), .val (.int (0 : Int32)), .val (.int (2 : Int32)), .val (.int (1 : Int32))] [(.int (1 : Int32))])
      refine Done.go (fun _ kt_ => XS.goto X109h.here hx rfl (pc0 := 200) (pc' := 204) rfl (hb hby at_200) (by decide) (by decide) kt_) ?_
      show Done p e s below _ _ _ T109 (mkF m 204 #[.val (.int p0), .val (.int p1), .val (.int p2), .val (.int p3), .val (.int p4), .val (.int pa), .val (.int pb), .val (.int pa), .val (.int pe), .val (.ref b84), .val (.ref bS), .val (.ref bD), .val (.int (1 : Int32)), .val (.int (0 : Int32)), .val (.int (2 : Int32)), .val (.int (1 : Int32))] [(.int (1 : Int32))])
      refine Done.go (fun _ kt_ => XS.istore X109h.here hx rfl (hb hby at_204) rfl (l' := #[.val (.int p0), .val (.int p1), .val (.int p2), .val (.int p3), .val (.int p4), .val (.int pa), .val (.int pb), .val (.int pa), .val (.int pe), .val (.ref b84), .val (.ref bS), .val (.ref bD), .val (.int (1 : Int32)), .val (.int (0 : Int32)), .val (.int (2 : Int32)), .val (.int (1 : Int32))]) rfl kt_) ?_
      show Done p e s below _ _ _ T109 (mkF m 206 #[.val (.int p0), .val (.int p1), .val (.int p2), .val (.int p3), .val (.int p4), .val (.int pa), .val (.int pb), .val (.int pa), .val (.int pe), .val (.ref b84), .val (.ref bS), .val (.ref bD), .val (.int (1 : Int32)), .val (.int (0 : Int32)), .val (.int (2 : Int32)), .val (.int (1 : Int32))] [])
      refine Done.go (fun _ kt_ => XS.iload X109h.here hx rfl (hb hby at_206) rfl kt_) ?_
      show Done p e s below _ _ _ T109 (mkF m 208 #[.val (.int p0), .val (.int p1), .val (.int p2), .val (.int p3), .val (.int p4), .val (.int pa), .val (.int pb), .val (.int pa), .val (.int pe), .val (.ref b84), .val (.ref bS), .val (.ref bD), .val (.int (1 : Int32)), .val (.int (0 : Int32)), .val (.int (2 : Int32)), .val (.int (1 : Int32))] [(.int (2 : Int32))])
      refine Done.go (fun _ kt_ => XS.iconst X109h.here hx rfl (hb hby at_208) kt_) ?_
      show Done p e s below _ _ _ T109 (mkF m 209 #[.val (.int p0), .val (.int p1), .val (.int p2), .val (.int p3), .val (.int p4), .val (.int pa), .val (.int pb), .val (.int pa), .val (.int pe), .val (.ref b84), .val (.ref bS), .val (.ref bD), .val (.int (1 : Int32)), .val (.int (0 : Int32)), .val (.int (2 : Int32)), .val (.int (1 : Int32))] [(.int (3 : Int32)), (.int (2 : Int32))])
      refine Done.go (fun _ kt_ => XS.icmpYes X109h.here hx rfl (pc0 := 209) (pc' := 233) rfl (hb hby at_209) rfl (feq (by decide)).2 (by decide) (by decide) kt_) ?_
      show Done p e s below _ _ _ T109 (mkF m 233 #[.val (.int p0), .val (.int p1), .val (.int p2), .val (.int p3), .val (.int p4), .val (.int pa), .val (.int pb), .val (.int pa), .val (.int pe), .val (.ref b84), .val (.ref bS), .val (.ref bD), .val (.int (1 : Int32)), .val (.int (0 : Int32)), .val (.int (2 : Int32)), .val (.int (1 : Int32))] [])
      refine Done.go (fun _ kt_ => XS.iload X109h.here hx rfl (hb hby at_233) rfl kt_) ?_
      show Done p e s below _ _ _ T109 (mkF m 235 #[.val (.int p0), .val (.int p1), .val (.int p2), .val (.int p3), .val (.int p4), .val (.int pa), .val (.int pb), .val (.int pa), .val (.int pe), .val (.ref b84), .val (.ref bS), .val (.ref bD), .val (.int (1 : Int32)), .val (.int (0 : Int32)), .val (.int (2 : Int32)), .val (.int (1 : Int32))] [(.int (1 : Int32))])
      refine Done.go (fun _ kt_ => XS.ifNo X109h.here hx rfl (hb hby at_235) rfl ((if0 _ _).trans (feq (by decide)).1) kt_) ?_
      show Done p e s below _ _ _ T109 (mkF m 238 #[.val (.int p0), .val (.int p1), .val (.int p2), .val (.int p3), .val (.int p4), .val (.int pa), .val (.int pb), .val (.int pa), .val (.int pe), .val (.ref b84), .val (.ref bS), .val (.ref bD), .val (.int (1 : Int32)), .val (.int (0 : Int32)), .val (.int (2 : Int32)), .val (.int (1 : Int32))] [])
      refine Done.go (fun _ kt_ => XS.aload X109h.here hx rfl (hb hby at_238) rfl rfl kt_) ?_
      show Done p e s below _ _ _ T109 (mkF m 240 #[.val (.int p0), .val (.int p1), .val (.int p2), .val (.int p3), .val (.int p4), .val (.int pa), .val (.int pb), .val (.int pa), .val (.int pe), .val (.ref b84), .val (.ref bS), .val (.ref bD), .val (.int (1 : Int32)), .val (.int (0 : Int32)), .val (.int (2 : Int32)), .val (.int (1 : Int32))] [(.ref bD)])
      refine Done.go (fun _ kt_ => XS.iload X109h.here hx rfl (hb hby at_240) rfl kt_) ?_
      show Done p e s below _ _ _ T109 (mkF m 242 #[.val (.int p0), .val (.int p1), .val (.int p2), .val (.int p3), .val (.int p4), .val (.int pa), .val (.int pb), .val (.int pa), .val (.int pe), .val (.ref b84), .val (.ref bS), .val (.ref bD), .val (.int (1 : Int32)), .val (.int (0 : Int32)), .val (.int (2 : Int32)), .val (.int (1 : Int32))] [(.int pa), (.ref bD)])
      refine Done.ldD X109h hx hZ e109 VD108 (j := pa) (y := (((0 : Int64) + (p1.toInt64)) + (p3.toInt64))) A (own_ix hA).1 (own_ix hA).2 hA4 (by simp [own_u, n_AB, n_BA]) (hb hby at_242) ?_
      show Done p e s below _ _ _ T109 (mkF m 243 #[.val (.int p0), .val (.int p1), .val (.int p2), .val (.int p3), .val (.int p4), .val (.int pa), .val (.int pb), .val (.int pa), .val (.int pe), .val (.ref b84), .val (.ref bS), .val (.ref bD), .val (.int (1 : Int32)), .val (.int (0 : Int32)), .val (.int (2 : Int32)), .val (.int (1 : Int32))] [(.double (FP.l2d (((0 : Int64) + (p1.toInt64)) + (p3.toInt64))))])
      refine Done.go (fun _ kt_ => XS.iload X109h.here hx rfl (hb hby at_243) rfl kt_) ?_
      show Done p e s below _ _ _ T109 (mkF m 245 #[.val (.int p0), .val (.int p1), .val (.int p2), .val (.int p3), .val (.int p4), .val (.int pa), .val (.int pb), .val (.int pa), .val (.int pe), .val (.ref b84), .val (.ref bS), .val (.ref bD), .val (.int (1 : Int32)), .val (.int (0 : Int32)), .val (.int (2 : Int32)), .val (.int (1 : Int32))] [(.int pa), (.double (FP.l2d (((0 : Int64) + (p1.toInt64)) + (p3.toInt64))))])
      refine Done.go (fun _ kt_ => XS.iload X109h.here hx rfl (hb hby at_245) rfl kt_) ?_
      show Done p e s below _ _ _ T109 (mkF m 247 #[.val (.int p0), .val (.int p1), .val (.int p2), .val (.int p3), .val (.int p4), .val (.int pa), .val (.int pb), .val (.int pa), .val (.int pe), .val (.ref b84), .val (.ref bS), .val (.ref bD), .val (.int (1 : Int32)), .val (.int (0 : Int32)), .val (.int (2 : Int32)), .val (.int (1 : Int32))] [(.int pa), (.int pa), (.double (FP.l2d (((0 : Int64) + (p1.toInt64)) + (p3.toInt64))))])
      refine Done.go (fun _ kt_ => XS.iload X109h.here hx rfl (hb hby at_247) rfl kt_) ?_
      show Done p e s below _ _ _ T109 (mkF m 249 #[.val (.int p0), .val (.int p1), .val (.int p2), .val (.int p3), .val (.int p4), .val (.int pa), .val (.int pb), .val (.int pa), .val (.int pe), .val (.ref b84), .val (.ref bS), .val (.ref bD), .val (.int (1 : Int32)), .val (.int (0 : Int32)), .val (.int (2 : Int32)), .val (.int (1 : Int32))] [(.int pb), (.int pa), (.int pa), (.double (FP.l2d (((0 : Int64) + (p1.toInt64)) + (p3.toInt64))))])
      refine Done.go (fun _ kt_ => XS.iload X109h.here hx rfl (hb hby at_249) rfl kt_) ?_
      show Done p e s below _ _ _ T109 (mkF m 251 #[.val (.int p0), .val (.int p1), .val (.int p2), .val (.int p3), .val (.int p4), .val (.int pa), .val (.int pb), .val (.int pa), .val (.int pe), .val (.ref b84), .val (.ref bS), .val (.ref bD), .val (.int (1 : Int32)), .val (.int (0 : Int32)), .val (.int (2 : Int32)), .val (.int (1 : Int32))] [(.int pa), (.int pb), (.int pa), (.int pa), (.double (FP.l2d (((0 : Int64) + (p1.toInt64)) + (p3.toInt64))))])
      refine Done.go (fun _ kt_ => XS.iloadN X109h.here hx rfl (hb hby at_251) rfl kt_) ?_
      show Done p e s below _ _ _ T109 (mkF m 252 #[.val (.int p0), .val (.int p1), .val (.int p2), .val (.int p3), .val (.int p4), .val (.int pa), .val (.int pb), .val (.int pa), .val (.int pe), .val (.ref b84), .val (.ref bS), .val (.ref bD), .val (.int (1 : Int32)), .val (.int (0 : Int32)), .val (.int (2 : Int32)), .val (.int (1 : Int32))] [(.int p1), (.int pa), (.int pb), (.int pa), (.int pa), (.double (FP.l2d (((0 : Int64) + (p1.toInt64)) + (p3.toInt64))))])
      refine Done.go (fun _ kt_ => XS.iloadN X109h.here hx rfl (hb hby at_252) rfl kt_) ?_
      show Done p e s below _ _ _ T109 (mkF m 253 #[.val (.int p0), .val (.int p1), .val (.int p2), .val (.int p3), .val (.int p4), .val (.int pa), .val (.int pb), .val (.int pa), .val (.int pe), .val (.ref b84), .val (.ref bS), .val (.ref bD), .val (.int (1 : Int32)), .val (.int (0 : Int32)), .val (.int (2 : Int32)), .val (.int (1 : Int32))] [(.int p2), (.int p1), (.int pa), (.int pb), (.int pa), (.int pa), (.double (FP.l2d (((0 : Int64) + (p1.toInt64)) + (p3.toInt64))))])
      refine Done.go (fun _ kt_ => XS.iloadN X109h.here hx rfl (hb hby at_253) rfl kt_) ?_
      show Done p e s below _ _ _ T109 (mkF m 254 #[.val (.int p0), .val (.int p1), .val (.int p2), .val (.int p3), .val (.int p4), .val (.int pa), .val (.int pb), .val (.int pa), .val (.int pe), .val (.ref b84), .val (.ref bS), .val (.ref bD), .val (.int (1 : Int32)), .val (.int (0 : Int32)), .val (.int (2 : Int32)), .val (.int (1 : Int32))] [(.int p3), (.int p2), (.int p1), (.int pa), (.int pb), (.int pa), (.int pa), (.double (FP.l2d (((0 : Int64) + (p1.toInt64)) + (p3.toInt64))))])
      obtain ⟨v110, T110, Lc110, X110, hQ110, st110⟩ := own_backG (Jvm.LawKit.callS X109h hx (y := (⟨"com/example/pivotwise/pivotwise/retrieval/ScoresAddPinLaw", "sum", "(IIIIIII)D"⟩ : MethodName)) hown (mvT hZ (hw _ (List.mem_of_getElem? (i := 46) rfl))) (mvT hZ (hw _ (List.mem_of_getElem? (i := 47) rfl))) (mvT hZ (hw _ (List.mem_of_getElem? (i := 48) rfl))) (mvT hZ (hw _ (List.mem_of_getElem? (i := 49) rfl))) (by decide) (backOf (W := 2) (rm8 l Z a0 hw [] pa pa pb pa p1 p2 p3 T108.heap n0 Z108) hZ (hw _ (List.mem_of_getElem? (i := 49) rfl)) (hw _ (List.mem_of_getElem? (i := 48) rfl)) (by decide) (by decide)) (g := (mkF m 254 #[.val (.int p0), .val (.int p1), .val (.int p2), .val (.int p3), .val (.int p4), .val (.int pa), .val (.int pb), .val (.int pa), .val (.int pe), .val (.ref b84), .val (.ref bS), .val (.ref bD), .val (.int (1 : Int32)), .val (.int (0 : Int32)), .val (.int (2 : Int32)), .val (.int (1 : Int32))] [(.int p3), (.int p2), (.int p1), (.int pa), (.int pb), (.int pa), (.int pa), (.double (FP.l2d (((0 : Int64) + (p1.toInt64)) + (p3.toInt64))))])) rfl (by rw [hml]; rfl) (argsL := [(.int pa), (.int pa), (.int pb), (.int pa), (.int p1), (.int p2), (.int p3)]) (rest := [(.double (FP.l2d (((0 : Int64) + (p1.toInt64)) + (p3.toInt64))))]) (lenOf own_pd6 rfl) rfl (by show 2 * 0 + _ ≤ _; exact Nat.le_of_eq rfl) (hb hby at_254) (fun _ _ => ⟨rfl, e109, (by first | decide | omega : 4 + 0 ≤ _), (by first | decide | omega : 17 + 0 ≤ _)⟩))
      obtain ⟨rfl, N110q, e110⟩ := hQ110
      refine Done.go st110 ?_
      clear st110
      have N110 := Fr.app N109h N110q
      clear N110q
      obtain ⟨Lh110, X110h, N110h⟩ : ∃ L, Stand p l e room_1 s m #[(.int p0), (.int p1), (.int p2), (.int p3), (.int p4)] below meth c T110 L 4 17 ∧ Fr n0 L := ⟨_, X110, N110⟩
      clear X110 N110 X109h e109 N109h
      show Done p e s below _ _ _ T110 (mkF m 257 #[.val (.int p0), .val (.int p1), .val (.int p2), .val (.int p3), .val (.int p4), .val (.int pa), .val (.int pb), .val (.int pa), .val (.int pe), .val (.ref b84), .val (.ref bS), .val (.ref bD), .val (.int (1 : Int32)), .val (.int (0 : Int32)), .val (.int (2 : Int32)), .val (.int (1 : Int32))] [(.double (FP.l2d (own_sum pa pa pb pa p1 p2 p3))), (.double (FP.l2d (((0 : Int64) + (p1.toInt64)) + (p3.toInt64))))])
      refine Done.go (fun _ kt_ => XS.dcmpS X110h.here hx rfl (hb hby at_257) rfl (dcmpV_w (own_leB (own_leA (own_leA own_le0 (by decide) p1) (by decide) p3) (by decide)) (own_leB (own_leT _ _ _ _ _ _ _) (by decide)) _) kt_) ?_
      show Done p e s below _ _ _ T110 (mkF m 258 #[.val (.int p0), .val (.int p1), .val (.int p2), .val (.int p3), .val (.int p4), .val (.int pa), .val (.int pb), .val (.int pa), .val (.int pe), .val (.ref b84), .val (.ref bS), .val (.ref bD), .val (.int (1 : Int32)), .val (.int (0 : Int32)), .val (.int (2 : Int32)), .val (.int (1 : Int32))] [(.int (lcmpW (((0 : Int64) + (p1.toInt64)) + (p3.toInt64)) (own_sum pa pa pb pa p1 p2 p3)))])
      refine Done.go (fun _ kt_ => XS.ifNo X110h.here hx rfl (hb hby at_258) rfl ((if0 _ _).trans (teq ((lw_eq _ _).mpr (by simp only [own_sum, own_s1, i_papb, i_pbpa, if_true, if_false]))).2) kt_) ?_
      show Done p e s below _ _ _ T110 (mkF m 261 #[.val (.int p0), .val (.int p1), .val (.int p2), .val (.int p3), .val (.int p4), .val (.int pa), .val (.int pb), .val (.int pa), .val (.int pe), .val (.ref b84), .val (.ref bS), .val (.ref bD), .val (.int (1 : Int32)), .val (.int (0 : Int32)), .val (.int (2 : Int32)), .val (.int (1 : Int32))] [])
      refine Done.go (fun _ kt_ => XS.iconst X110h.here hx rfl (hb hby at_261) kt_) ?_
      show Done p e s below _ _ _ T110 (mkF m 262 #[.val (.int p0), .val (.int p1), .val (.int p2), .val (.int p3), .val (.int p4), .val (.int pa), .val (.int pb), .val (.int pa), .val (.int pe), .val (.ref b84), .val (.ref bS), .val (.ref bD), .val (.int (1 : Int32)), .val (.int (0 : Int32)), .val (.int (2 : Int32)), .val (.int (1 : Int32))] [(.int (1 : Int32))])
      refine Done.go (fun _ kt_ => XS.goto X110h.here hx rfl (pc0 := 262) (pc' := 266) rfl (hb hby at_262) (by decide) (by decide) kt_) ?_
      show Done p e s below _ _ _ T110 (mkF m 266 #[.val (.int p0), .val (.int p1), .val (.int p2), .val (.int p3), .val (.int p4), .val (.int pa), .val (.int pb), .val (.int pa), .val (.int pe), .val (.ref b84), .val (.ref bS), .val (.ref bD), .val (.int (1 : Int32)), .val (.int (0 : Int32)), .val (.int (2 : Int32)), .val (.int (1 : Int32))] [(.int (1 : Int32))])
      refine Done.go (fun _ kt_ => XS.istore X110h.here hx rfl (hb hby at_266) rfl (l' := #[.val (.int p0), .val (.int p1), .val (.int p2), .val (.int p3), .val (.int p4), .val (.int pa), .val (.int pb), .val (.int pa), .val (.int pe), .val (.ref b84), .val (.ref bS), .val (.ref bD), .val (.int (1 : Int32)), .val (.int (0 : Int32)), .val (.int (2 : Int32)), .val (.int (1 : Int32))]) rfl kt_) ?_
      show Done p e s below _ _ _ T110 (mkF m 268 #[.val (.int p0), .val (.int p1), .val (.int p2), .val (.int p3), .val (.int p4), .val (.int pa), .val (.int pb), .val (.int pa), .val (.int pe), .val (.ref b84), .val (.ref bS), .val (.ref bD), .val (.int (1 : Int32)), .val (.int (0 : Int32)), .val (.int (2 : Int32)), .val (.int (1 : Int32))] [])
      refine Done.go (fun _ kt_ => XS.iload X110h.here hx rfl (hb hby at_268) rfl kt_) ?_
      show Done p e s below _ _ _ T110 (mkF m 270 #[.val (.int p0), .val (.int p1), .val (.int p2), .val (.int p3), .val (.int p4), .val (.int pa), .val (.int pb), .val (.int pa), .val (.int pe), .val (.ref b84), .val (.ref bS), .val (.ref bD), .val (.int (1 : Int32)), .val (.int (0 : Int32)), .val (.int (2 : Int32)), .val (.int (1 : Int32))] [(.int (1 : Int32))])
      refine Done.go (fun _ kt_ => XS.ifNo X110h.here hx rfl (hb hby at_270) rfl ((if0 _ _).trans (feq (by decide)).1) kt_) ?_
      show Done p e s below _ _ _ T110 (mkF m 273 #[.val (.int p0), .val (.int p1), .val (.int p2), .val (.int p3), .val (.int p4), .val (.int pa), .val (.int pb), .val (.int pa), .val (.int pe), .val (.ref b84), .val (.ref bS), .val (.ref bD), .val (.int (1 : Int32)), .val (.int (0 : Int32)), .val (.int (2 : Int32)), .val (.int (1 : Int32))] [])
      refine Done.go (fun _ kt_ => XS.aload X110h.here hx rfl (hb hby at_273) rfl rfl kt_) ?_
      show Done p e s below _ _ _ T110 (mkF m 275 #[.val (.int p0), .val (.int p1), .val (.int p2), .val (.int p3), .val (.int p4), .val (.int pa), .val (.int pb), .val (.int pa), .val (.int pe), .val (.ref b84), .val (.ref bS), .val (.ref bD), .val (.int (1 : Int32)), .val (.int (0 : Int32)), .val (.int (2 : Int32)), .val (.int (1 : Int32))] [(.ref bD)])
      refine Done.go (fun _ kt_ => XS.iload X110h.here hx rfl (hb hby at_275) rfl kt_) ?_
      show Done p e s below _ _ _ T110 (mkF m 277 #[.val (.int p0), .val (.int p1), .val (.int p2), .val (.int p3), .val (.int p4), .val (.int pa), .val (.int pb), .val (.int pa), .val (.int pe), .val (.ref b84), .val (.ref bS), .val (.ref bD), .val (.int (1 : Int32)), .val (.int (0 : Int32)), .val (.int (2 : Int32)), .val (.int (1 : Int32))] [(.int pb), (.ref bD)])
      refine Done.ldD X110h hx hZ e110 VD108 (j := pb) (y := ((0 : Int64) + (p2.toInt64))) B (own_ix hB).1 (own_ix hB).2 hB4 (by simp [own_u, n_AB, n_BA]) (hb hby at_277) ?_
      show Done p e s below _ _ _ T110 (mkF m 278 #[.val (.int p0), .val (.int p1), .val (.int p2), .val (.int p3), .val (.int p4), .val (.int pa), .val (.int pb), .val (.int pa), .val (.int pe), .val (.ref b84), .val (.ref bS), .val (.ref bD), .val (.int (1 : Int32)), .val (.int (0 : Int32)), .val (.int (2 : Int32)), .val (.int (1 : Int32))] [(.double (FP.l2d ((0 : Int64) + (p2.toInt64))))])
      refine Done.go (fun _ kt_ => XS.iload X110h.here hx rfl (hb hby at_278) rfl kt_) ?_
      show Done p e s below _ _ _ T110 (mkF m 280 #[.val (.int p0), .val (.int p1), .val (.int p2), .val (.int p3), .val (.int p4), .val (.int pa), .val (.int pb), .val (.int pa), .val (.int pe), .val (.ref b84), .val (.ref bS), .val (.ref bD), .val (.int (1 : Int32)), .val (.int (0 : Int32)), .val (.int (2 : Int32)), .val (.int (1 : Int32))] [(.int pb), (.double (FP.l2d ((0 : Int64) + (p2.toInt64))))])
      refine Done.go (fun _ kt_ => XS.iload X110h.here hx rfl (hb hby at_280) rfl kt_) ?_
      show Done p e s below _ _ _ T110 (mkF m 282 #[.val (.int p0), .val (.int p1), .val (.int p2), .val (.int p3), .val (.int p4), .val (.int pa), .val (.int pb), .val (.int pa), .val (.int pe), .val (.ref b84), .val (.ref bS), .val (.ref bD), .val (.int (1 : Int32)), .val (.int (0 : Int32)), .val (.int (2 : Int32)), .val (.int (1 : Int32))] [(.int pa), (.int pb), (.double (FP.l2d ((0 : Int64) + (p2.toInt64))))])
      refine Done.go (fun _ kt_ => XS.iload X110h.here hx rfl (hb hby at_282) rfl kt_) ?_
      show Done p e s below _ _ _ T110 (mkF m 284 #[.val (.int p0), .val (.int p1), .val (.int p2), .val (.int p3), .val (.int p4), .val (.int pa), .val (.int pb), .val (.int pa), .val (.int pe), .val (.ref b84), .val (.ref bS), .val (.ref bD), .val (.int (1 : Int32)), .val (.int (0 : Int32)), .val (.int (2 : Int32)), .val (.int (1 : Int32))] [(.int pb), (.int pa), (.int pb), (.double (FP.l2d ((0 : Int64) + (p2.toInt64))))])
      refine Done.go (fun _ kt_ => XS.iload X110h.here hx rfl (hb hby at_284) rfl kt_) ?_
      show Done p e s below _ _ _ T110 (mkF m 286 #[.val (.int p0), .val (.int p1), .val (.int p2), .val (.int p3), .val (.int p4), .val (.int pa), .val (.int pb), .val (.int pa), .val (.int pe), .val (.ref b84), .val (.ref bS), .val (.ref bD), .val (.int (1 : Int32)), .val (.int (0 : Int32)), .val (.int (2 : Int32)), .val (.int (1 : Int32))] [(.int pa), (.int pb), (.int pa), (.int pb), (.double (FP.l2d ((0 : Int64) + (p2.toInt64))))])
      refine Done.go (fun _ kt_ => XS.iloadN X110h.here hx rfl (hb hby at_286) rfl kt_) ?_
      show Done p e s below _ _ _ T110 (mkF m 287 #[.val (.int p0), .val (.int p1), .val (.int p2), .val (.int p3), .val (.int p4), .val (.int pa), .val (.int pb), .val (.int pa), .val (.int pe), .val (.ref b84), .val (.ref bS), .val (.ref bD), .val (.int (1 : Int32)), .val (.int (0 : Int32)), .val (.int (2 : Int32)), .val (.int (1 : Int32))] [(.int p1), (.int pa), (.int pb), (.int pa), (.int pb), (.double (FP.l2d ((0 : Int64) + (p2.toInt64))))])
      refine Done.go (fun _ kt_ => XS.iloadN X110h.here hx rfl (hb hby at_287) rfl kt_) ?_
      show Done p e s below _ _ _ T110 (mkF m 288 #[.val (.int p0), .val (.int p1), .val (.int p2), .val (.int p3), .val (.int p4), .val (.int pa), .val (.int pb), .val (.int pa), .val (.int pe), .val (.ref b84), .val (.ref bS), .val (.ref bD), .val (.int (1 : Int32)), .val (.int (0 : Int32)), .val (.int (2 : Int32)), .val (.int (1 : Int32))] [(.int p2), (.int p1), (.int pa), (.int pb), (.int pa), (.int pb), (.double (FP.l2d ((0 : Int64) + (p2.toInt64))))])
      refine Done.go (fun _ kt_ => XS.iloadN X110h.here hx rfl (hb hby at_288) rfl kt_) ?_
      show Done p e s below _ _ _ T110 (mkF m 289 #[.val (.int p0), .val (.int p1), .val (.int p2), .val (.int p3), .val (.int p4), .val (.int pa), .val (.int pb), .val (.int pa), .val (.int pe), .val (.ref b84), .val (.ref bS), .val (.ref bD), .val (.int (1 : Int32)), .val (.int (0 : Int32)), .val (.int (2 : Int32)), .val (.int (1 : Int32))] [(.int p3), (.int p2), (.int p1), (.int pa), (.int pb), (.int pa), (.int pb), (.double (FP.l2d ((0 : Int64) + (p2.toInt64))))])
      obtain ⟨v111, T111, Lc111, X111, hQ111, st111⟩ := own_backG (Jvm.LawKit.callS X110h hx (y := (⟨"com/example/pivotwise/pivotwise/retrieval/ScoresAddPinLaw", "sum", "(IIIIIII)D"⟩ : MethodName)) hown (mvT hZ (hw _ (List.mem_of_getElem? (i := 46) rfl))) (mvT hZ (hw _ (List.mem_of_getElem? (i := 47) rfl))) (mvT hZ (hw _ (List.mem_of_getElem? (i := 48) rfl))) (mvT hZ (hw _ (List.mem_of_getElem? (i := 49) rfl))) (by decide) (backOf (W := 2) (rm8 l Z a0 hw [] pb pa pb pa p1 p2 p3 T108.heap n0 Z108) hZ (hw _ (List.mem_of_getElem? (i := 49) rfl)) (hw _ (List.mem_of_getElem? (i := 48) rfl)) (by decide) (by decide)) (g := (mkF m 289 #[.val (.int p0), .val (.int p1), .val (.int p2), .val (.int p3), .val (.int p4), .val (.int pa), .val (.int pb), .val (.int pa), .val (.int pe), .val (.ref b84), .val (.ref bS), .val (.ref bD), .val (.int (1 : Int32)), .val (.int (0 : Int32)), .val (.int (2 : Int32)), .val (.int (1 : Int32))] [(.int p3), (.int p2), (.int p1), (.int pa), (.int pb), (.int pa), (.int pb), (.double (FP.l2d ((0 : Int64) + (p2.toInt64))))])) rfl (by rw [hml]; rfl) (argsL := [(.int pb), (.int pa), (.int pb), (.int pa), (.int p1), (.int p2), (.int p3)]) (rest := [(.double (FP.l2d ((0 : Int64) + (p2.toInt64))))]) (lenOf own_pd6 rfl) rfl (by show 2 * 0 + _ ≤ _; exact Nat.le_of_eq rfl) (hb hby at_289) (fun _ _ => ⟨rfl, e110, (by first | decide | omega : 4 + 0 ≤ _), (by first | decide | omega : 17 + 0 ≤ _)⟩))
      obtain ⟨rfl, N111q, e111⟩ := hQ111
      refine Done.go st111 ?_
      clear st111
      have N111 := Fr.app N110h N111q
      clear N111q
      obtain ⟨Lh111, X111h, N111h⟩ : ∃ L, Stand p l e room_1 s m #[(.int p0), (.int p1), (.int p2), (.int p3), (.int p4)] below meth c T111 L 4 17 ∧ Fr n0 L := ⟨_, X111, N111⟩
      clear X111 N111 X110h e110 N110h
      show Done p e s below _ _ _ T111 (mkF m 292 #[.val (.int p0), .val (.int p1), .val (.int p2), .val (.int p3), .val (.int p4), .val (.int pa), .val (.int pb), .val (.int pa), .val (.int pe), .val (.ref b84), .val (.ref bS), .val (.ref bD), .val (.int (1 : Int32)), .val (.int (0 : Int32)), .val (.int (2 : Int32)), .val (.int (1 : Int32))] [(.double (FP.l2d (own_sum pb pa pb pa p1 p2 p3))), (.double (FP.l2d ((0 : Int64) + (p2.toInt64))))])
      refine Done.go (fun _ kt_ => XS.dcmpS X111h.here hx rfl (hb hby at_292) rfl (dcmpV_w (own_leB (own_leA own_le0 (by decide) p2) (by decide)) (own_leB (own_leT _ _ _ _ _ _ _) (by decide)) _) kt_) ?_
      show Done p e s below _ _ _ T111 (mkF m 293 #[.val (.int p0), .val (.int p1), .val (.int p2), .val (.int p3), .val (.int p4), .val (.int pa), .val (.int pb), .val (.int pa), .val (.int pe), .val (.ref b84), .val (.ref bS), .val (.ref bD), .val (.int (1 : Int32)), .val (.int (0 : Int32)), .val (.int (2 : Int32)), .val (.int (1 : Int32))] [(.int (lcmpW ((0 : Int64) + (p2.toInt64)) (own_sum pb pa pb pa p1 p2 p3)))])
      refine Done.go (fun _ kt_ => XS.ifNo X111h.here hx rfl (hb hby at_293) rfl ((if0 _ _).trans (teq ((lw_eq _ _).mpr (by simp only [own_sum, own_s1, i_papb, i_pbpa, if_true, if_false]))).2) kt_) ?_
      show Done p e s below _ _ _ T111 (mkF m 296 #[.val (.int p0), .val (.int p1), .val (.int p2), .val (.int p3), .val (.int p4), .val (.int pa), .val (.int pb), .val (.int pa), .val (.int pe), .val (.ref b84), .val (.ref bS), .val (.ref bD), .val (.int (1 : Int32)), .val (.int (0 : Int32)), .val (.int (2 : Int32)), .val (.int (1 : Int32))] [])
      refine Done.go (fun _ kt_ => XS.iconst X111h.here hx rfl (hb hby at_296) kt_) ?_
      show Done p e s below _ _ _ T111 (mkF m 297 #[.val (.int p0), .val (.int p1), .val (.int p2), .val (.int p3), .val (.int p4), .val (.int pa), .val (.int pb), .val (.int pa), .val (.int pe), .val (.ref b84), .val (.ref bS), .val (.ref bD), .val (.int (1 : Int32)), .val (.int (0 : Int32)), .val (.int (2 : Int32)), .val (.int (1 : Int32))] [(.int (1 : Int32))])
      refine Done.go (fun _ kt_ => XS.goto X111h.here hx rfl (pc0 := 297) (pc' := 301) rfl (hb hby at_297) (by decide) (by decide) kt_) ?_
      show Done p e s below _ _ _ T111 (mkF m 301 #[.val (.int p0), .val (.int p1), .val (.int p2), .val (.int p3), .val (.int p4), .val (.int pa), .val (.int pb), .val (.int pa), .val (.int pe), .val (.ref b84), .val (.ref bS), .val (.ref bD), .val (.int (1 : Int32)), .val (.int (0 : Int32)), .val (.int (2 : Int32)), .val (.int (1 : Int32))] [(.int (1 : Int32))])
      refine Done.go (fun _ kt_ => XS.istore X111h.here hx rfl (hb hby at_301) rfl (l' := #[.val (.int p0), .val (.int p1), .val (.int p2), .val (.int p3), .val (.int p4), .val (.int pa), .val (.int pb), .val (.int pa), .val (.int pe), .val (.ref b84), .val (.ref bS), .val (.ref bD), .val (.int (1 : Int32)), .val (.int (0 : Int32)), .val (.int (2 : Int32)), .val (.int (1 : Int32))]) rfl kt_) ?_
      show Done p e s below _ _ _ T111 (mkF m 303 #[.val (.int p0), .val (.int p1), .val (.int p2), .val (.int p3), .val (.int p4), .val (.int pa), .val (.int pb), .val (.int pa), .val (.int pe), .val (.ref b84), .val (.ref bS), .val (.ref bD), .val (.int (1 : Int32)), .val (.int (0 : Int32)), .val (.int (2 : Int32)), .val (.int (1 : Int32))] [])
      refine Done.go (fun _ kt_ => XS.iload X111h.here hx rfl (hb hby at_303) rfl kt_) ?_
      show Done p e s below _ _ _ T111 (mkF m 305 #[.val (.int p0), .val (.int p1), .val (.int p2), .val (.int p3), .val (.int p4), .val (.int pa), .val (.int pb), .val (.int pa), .val (.int pe), .val (.ref b84), .val (.ref bS), .val (.ref bD), .val (.int (1 : Int32)), .val (.int (0 : Int32)), .val (.int (2 : Int32)), .val (.int (1 : Int32))] [(.int (1 : Int32))])
      refine Done.go (fun _ kt_ => XS.ifNo X111h.here hx rfl (hb hby at_305) rfl ((if0 _ _).trans (feq (by decide)).1) kt_) ?_
      show Done p e s below _ _ _ T111 (mkF m 308 #[.val (.int p0), .val (.int p1), .val (.int p2), .val (.int p3), .val (.int p4), .val (.int pa), .val (.int pb), .val (.int pa), .val (.int pe), .val (.ref b84), .val (.ref bS), .val (.ref bD), .val (.int (1 : Int32)), .val (.int (0 : Int32)), .val (.int (2 : Int32)), .val (.int (1 : Int32))] [])
      refine Done.go (fun _ kt_ => XS.aload X111h.here hx rfl (hb hby at_308) rfl rfl kt_) ?_
      show Done p e s below _ _ _ T111 (mkF m 310 #[.val (.int p0), .val (.int p1), .val (.int p2), .val (.int p3), .val (.int p4), .val (.int pa), .val (.int pb), .val (.int pa), .val (.int pe), .val (.ref b84), .val (.ref bS), .val (.ref bD), .val (.int (1 : Int32)), .val (.int (0 : Int32)), .val (.int (2 : Int32)), .val (.int (1 : Int32))] [(.ref bD)])
      refine Done.go (fun _ kt_ => XS.iload X111h.here hx rfl (hb hby at_310) rfl kt_) ?_
      show Done p e s below _ _ _ T111 (mkF m 312 #[.val (.int p0), .val (.int p1), .val (.int p2), .val (.int p3), .val (.int p4), .val (.int pa), .val (.int pb), .val (.int pa), .val (.int pe), .val (.ref b84), .val (.ref bS), .val (.ref bD), .val (.int (1 : Int32)), .val (.int (0 : Int32)), .val (.int (2 : Int32)), .val (.int (1 : Int32))] [(.int pa), (.ref bD)])
      refine Done.ldD X111h hx hZ e111 VD108 (j := pa) (y := (((0 : Int64) + (p1.toInt64)) + (p3.toInt64))) A (own_ix hA).1 (own_ix hA).2 hA4 (by simp [own_u, n_AB, n_BA]) (hb hby at_312) ?_
      show Done p e s below _ _ _ T111 (mkF m 313 #[.val (.int p0), .val (.int p1), .val (.int p2), .val (.int p3), .val (.int p4), .val (.int pa), .val (.int pb), .val (.int pa), .val (.int pe), .val (.ref b84), .val (.ref bS), .val (.ref bD), .val (.int (1 : Int32)), .val (.int (0 : Int32)), .val (.int (2 : Int32)), .val (.int (1 : Int32))] [(.double (FP.l2d (((0 : Int64) + (p1.toInt64)) + (p3.toInt64))))])
      refine Done.go (fun _ kt_ => XS.iload X111h.here hx rfl (hb hby at_313) rfl kt_) ?_
      show Done p e s below _ _ _ T111 (mkF m 315 #[.val (.int p0), .val (.int p1), .val (.int p2), .val (.int p3), .val (.int p4), .val (.int pa), .val (.int pb), .val (.int pa), .val (.int pe), .val (.ref b84), .val (.ref bS), .val (.ref bD), .val (.int (1 : Int32)), .val (.int (0 : Int32)), .val (.int (2 : Int32)), .val (.int (1 : Int32))] [(.int pa), (.double (FP.l2d (((0 : Int64) + (p1.toInt64)) + (p3.toInt64))))])
      refine Done.go (fun _ kt_ => XS.iload X111h.here hx rfl (hb hby at_315) rfl kt_) ?_
      show Done p e s below _ _ _ T111 (mkF m 317 #[.val (.int p0), .val (.int p1), .val (.int p2), .val (.int p3), .val (.int p4), .val (.int pa), .val (.int pb), .val (.int pa), .val (.int pe), .val (.ref b84), .val (.ref bS), .val (.ref bD), .val (.int (1 : Int32)), .val (.int (0 : Int32)), .val (.int (2 : Int32)), .val (.int (1 : Int32))] [(.int pa), (.int pa), (.double (FP.l2d (((0 : Int64) + (p1.toInt64)) + (p3.toInt64))))])
      refine Done.go (fun _ kt_ => XS.iload X111h.here hx rfl (hb hby at_317) rfl kt_) ?_
      show Done p e s below _ _ _ T111 (mkF m 319 #[.val (.int p0), .val (.int p1), .val (.int p2), .val (.int p3), .val (.int p4), .val (.int pa), .val (.int pb), .val (.int pa), .val (.int pe), .val (.ref b84), .val (.ref bS), .val (.ref bD), .val (.int (1 : Int32)), .val (.int (0 : Int32)), .val (.int (2 : Int32)), .val (.int (1 : Int32))] [(.int pb), (.int pa), (.int pa), (.double (FP.l2d (((0 : Int64) + (p1.toInt64)) + (p3.toInt64))))])
      refine Done.go (fun _ kt_ => XS.iload X111h.here hx rfl (hb hby at_319) rfl kt_) ?_
      show Done p e s below _ _ _ T111 (mkF m 321 #[.val (.int p0), .val (.int p1), .val (.int p2), .val (.int p3), .val (.int p4), .val (.int pa), .val (.int pb), .val (.int pa), .val (.int pe), .val (.ref b84), .val (.ref bS), .val (.ref bD), .val (.int (1 : Int32)), .val (.int (0 : Int32)), .val (.int (2 : Int32)), .val (.int (1 : Int32))] [(.int pa), (.int pb), (.int pa), (.int pa), (.double (FP.l2d (((0 : Int64) + (p1.toInt64)) + (p3.toInt64))))])
      refine Done.go (fun _ kt_ => XS.iloadN X111h.here hx rfl (hb hby at_321) rfl kt_) ?_
      show Done p e s below _ _ _ T111 (mkF m 322 #[.val (.int p0), .val (.int p1), .val (.int p2), .val (.int p3), .val (.int p4), .val (.int pa), .val (.int pb), .val (.int pa), .val (.int pe), .val (.ref b84), .val (.ref bS), .val (.ref bD), .val (.int (1 : Int32)), .val (.int (0 : Int32)), .val (.int (2 : Int32)), .val (.int (1 : Int32))] [(.int p1), (.int pa), (.int pb), (.int pa), (.int pa), (.double (FP.l2d (((0 : Int64) + (p1.toInt64)) + (p3.toInt64))))])
      refine Done.go (fun _ kt_ => XS.iloadN X111h.here hx rfl (hb hby at_322) rfl kt_) ?_
      show Done p e s below _ _ _ T111 (mkF m 323 #[.val (.int p0), .val (.int p1), .val (.int p2), .val (.int p3), .val (.int p4), .val (.int pa), .val (.int pb), .val (.int pa), .val (.int pe), .val (.ref b84), .val (.ref bS), .val (.ref bD), .val (.int (1 : Int32)), .val (.int (0 : Int32)), .val (.int (2 : Int32)), .val (.int (1 : Int32))] [(.int p2), (.int p1), (.int pa), (.int pb), (.int pa), (.int pa), (.double (FP.l2d (((0 : Int64) + (p1.toInt64)) + (p3.toInt64))))])
      refine Done.go (fun _ kt_ => XS.iloadN X111h.here hx rfl (hb hby at_323) rfl kt_) ?_
      show Done p e s below _ _ _ T111 (mkF m 324 #[.val (.int p0), .val (.int p1), .val (.int p2), .val (.int p3), .val (.int p4), .val (.int pa), .val (.int pb), .val (.int pa), .val (.int pe), .val (.ref b84), .val (.ref bS), .val (.ref bD), .val (.int (1 : Int32)), .val (.int (0 : Int32)), .val (.int (2 : Int32)), .val (.int (1 : Int32))] [(.int p3), (.int p2), (.int p1), (.int pa), (.int pb), (.int pa), (.int pa), (.double (FP.l2d (((0 : Int64) + (p1.toInt64)) + (p3.toInt64))))])
      obtain ⟨v112, T112, Lc112, X112, hQ112, st112⟩ := own_backG (Jvm.LawKit.callS X111h hx (y := (⟨"com/example/pivotwise/pivotwise/retrieval/ScoresAddPinLaw", "sum", "(IIIIIII)D"⟩ : MethodName)) hown (mvT hZ (hw _ (List.mem_of_getElem? (i := 46) rfl))) (mvT hZ (hw _ (List.mem_of_getElem? (i := 47) rfl))) (mvT hZ (hw _ (List.mem_of_getElem? (i := 48) rfl))) (mvT hZ (hw _ (List.mem_of_getElem? (i := 49) rfl))) (by decide) (backOf (W := 2) (rm8 l Z a0 hw [] pa pa pb pa p1 p2 p3 T108.heap n0 Z108) hZ (hw _ (List.mem_of_getElem? (i := 49) rfl)) (hw _ (List.mem_of_getElem? (i := 48) rfl)) (by decide) (by decide)) (g := (mkF m 324 #[.val (.int p0), .val (.int p1), .val (.int p2), .val (.int p3), .val (.int p4), .val (.int pa), .val (.int pb), .val (.int pa), .val (.int pe), .val (.ref b84), .val (.ref bS), .val (.ref bD), .val (.int (1 : Int32)), .val (.int (0 : Int32)), .val (.int (2 : Int32)), .val (.int (1 : Int32))] [(.int p3), (.int p2), (.int p1), (.int pa), (.int pb), (.int pa), (.int pa), (.double (FP.l2d (((0 : Int64) + (p1.toInt64)) + (p3.toInt64))))])) rfl (by rw [hml]; rfl) (argsL := [(.int pa), (.int pa), (.int pb), (.int pa), (.int p1), (.int p2), (.int p3)]) (rest := [(.double (FP.l2d (((0 : Int64) + (p1.toInt64)) + (p3.toInt64))))]) (lenOf own_pd6 rfl) rfl (by show 2 * 0 + _ ≤ _; exact Nat.le_of_eq rfl) (hb hby at_324) (fun _ _ => ⟨rfl, e111, (by first | decide | omega : 4 + 0 ≤ _), (by first | decide | omega : 17 + 0 ≤ _)⟩))
      obtain ⟨rfl, N112q, e112⟩ := hQ112
      refine Done.go st112 ?_
      clear st112
      have N112 := Fr.app N111h N112q
      clear N112q
      obtain ⟨Lh112, X112h, N112h⟩ : ∃ L, Stand p l e room_1 s m #[(.int p0), (.int p1), (.int p2), (.int p3), (.int p4)] below meth c T112 L 4 17 ∧ Fr n0 L := ⟨_, X112, N112⟩
      clear X112 N112 X111h e111 N111h
      show Done p e s below _ _ _ T112 (mkF m 327 #[.val (.int p0), .val (.int p1), .val (.int p2), .val (.int p3), .val (.int p4), .val (.int pa), .val (.int pb), .val (.int pa), .val (.int pe), .val (.ref b84), .val (.ref bS), .val (.ref bD), .val (.int (1 : Int32)), .val (.int (0 : Int32)), .val (.int (2 : Int32)), .val (.int (1 : Int32))] [(.double (FP.l2d (own_sum pa pa pb pa p1 p2 p3))), (.double (FP.l2d (((0 : Int64) + (p1.toInt64)) + (p3.toInt64))))])
      refine Done.go (fun _ kt_ => XS.dcmpS X112h.here hx rfl (hb hby at_327) rfl (dcmpV_w (own_leB (own_leA (own_leA own_le0 (by decide) p1) (by decide) p3) (by decide)) (own_leB (own_leT _ _ _ _ _ _ _) (by decide)) _) kt_) ?_
      show Done p e s below _ _ _ T112 (mkF m 328 #[.val (.int p0), .val (.int p1), .val (.int p2), .val (.int p3), .val (.int p4), .val (.int pa), .val (.int pb), .val (.int pa), .val (.int pe), .val (.ref b84), .val (.ref bS), .val (.ref bD), .val (.int (1 : Int32)), .val (.int (0 : Int32)), .val (.int (2 : Int32)), .val (.int (1 : Int32))] [(.int (lcmpW (((0 : Int64) + (p1.toInt64)) + (p3.toInt64)) (own_sum pa pa pb pa p1 p2 p3)))])
      refine Done.go (fun _ kt_ => XS.ifNo X112h.here hx rfl (hb hby at_328) rfl ((if0 _ _).trans (teq ((lw_eq _ _).mpr (by simp only [own_sum, own_s1, i_papb, i_pbpa, if_true, if_false]))).2) kt_) ?_
      show Done p e s below _ _ _ T112 (mkF m 331 #[.val (.int p0), .val (.int p1), .val (.int p2), .val (.int p3), .val (.int p4), .val (.int pa), .val (.int pb), .val (.int pa), .val (.int pe), .val (.ref b84), .val (.ref bS), .val (.ref bD), .val (.int (1 : Int32)), .val (.int (0 : Int32)), .val (.int (2 : Int32)), .val (.int (1 : Int32))] [])
      refine Done.go (fun _ kt_ => XS.iconst X112h.here hx rfl (hb hby at_331) kt_) ?_
      show Done p e s below _ _ _ T112 (mkF m 332 #[.val (.int p0), .val (.int p1), .val (.int p2), .val (.int p3), .val (.int p4), .val (.int pa), .val (.int pb), .val (.int pa), .val (.int pe), .val (.ref b84), .val (.ref bS), .val (.ref bD), .val (.int (1 : Int32)), .val (.int (0 : Int32)), .val (.int (2 : Int32)), .val (.int (1 : Int32))] [(.int (1 : Int32))])
      refine Done.go (fun _ kt_ => XS.goto X112h.here hx rfl (pc0 := 332) (pc' := 336) rfl (hb hby at_332) (by decide) (by decide) kt_) ?_
      show Done p e s below _ _ _ T112 (mkF m 336 #[.val (.int p0), .val (.int p1), .val (.int p2), .val (.int p3), .val (.int p4), .val (.int pa), .val (.int pb), .val (.int pa), .val (.int pe), .val (.ref b84), .val (.ref bS), .val (.ref bD), .val (.int (1 : Int32)), .val (.int (0 : Int32)), .val (.int (2 : Int32)), .val (.int (1 : Int32))] [(.int (1 : Int32))])
      refine Done.go (fun _ kt_ => XS.istore X112h.here hx rfl (hb hby at_336) rfl (l' := #[.val (.int p0), .val (.int p1), .val (.int p2), .val (.int p3), .val (.int p4), .val (.int pa), .val (.int pb), .val (.int pa), .val (.int pe), .val (.ref b84), .val (.ref bS), .val (.ref bD), .val (.int (1 : Int32)), .val (.int (0 : Int32)), .val (.int (2 : Int32)), .val (.int (1 : Int32))]) rfl kt_) ?_
      show Done p e s below _ _ _ T112 (mkF m 338 #[.val (.int p0), .val (.int p1), .val (.int p2), .val (.int p3), .val (.int p4), .val (.int pa), .val (.int pb), .val (.int pa), .val (.int pe), .val (.ref b84), .val (.ref bS), .val (.ref bD), .val (.int (1 : Int32)), .val (.int (0 : Int32)), .val (.int (2 : Int32)), .val (.int (1 : Int32))] [])
      refine Done.go (fun _ kt_ => XS.aload X112h.here hx rfl (hb hby at_338) rfl rfl kt_) ?_
      show Done p e s below _ _ _ T112 (mkF m 340 #[.val (.int p0), .val (.int p1), .val (.int p2), .val (.int p3), .val (.int p4), .val (.int pa), .val (.int pb), .val (.int pa), .val (.int pe), .val (.ref b84), .val (.ref bS), .val (.ref bD), .val (.int (1 : Int32)), .val (.int (0 : Int32)), .val (.int (2 : Int32)), .val (.int (1 : Int32))] [(.ref b84)])
      obtain ⟨cq113, kq113, q113a, q113b, q113c⟩ := isOf hZ e112 E108
      obtain ⟨v113, T113, Lc113, X113, hQ113, st113⟩ := own_backV (X112h.virtualBack hx (y := (⟨"com/example/pivotwise/pivotwise/retrieval/Scores", "start", "()V"⟩ : MethodName)) (z := (⟨"com/example/pivotwise/pivotwise/retrieval/Scores", "start", "()V"⟩ : MethodName)) hown (mvT hZ (hw _ (List.mem_of_getElem? (i := 27) rfl))) (mvT hZ (hw _ (List.mem_of_getElem? (i := 28) rfl))) (notFace_of_selects (args := #[]) (mvT hZ (hw _ (List.mem_of_getElem? (i := 30) rfl)))) (mvT hZ (hw _ (List.mem_of_getElem? (i := 30) rfl))) (mvT hZ (hw _ (List.mem_of_getElem? (i := 29) rfl))) (by decide) (backOf (W := 0) (rm5 l Z a0 hw [] b84 bD bF bS (own_u (own_u (own_u (fun _ => (0 : Int64)) A (0 + (p1.toInt64))) B (0 + (p2.toInt64))) A (((0 : Int64) + (p1.toInt64)) + (p3.toInt64))) (own_u (own_u (fun _ => (0 : Int32)) A (1 : Int32)) B (1 : Int32)) (own_u (own_u (fun _ => (0 : Int32)) 0 pa) 1 pb) (1 : Int32) (2 : Int32) (2 : Int32) T108.heap n0 Z108 ⟨E108, Fscores108, FscoredFor108, Fscored108, Fquery108, Fcount108, VD108, VF108, VS108⟩ hds hgs (by decide)) hZ (hw _ (List.mem_of_getElem? (i := 31) rfl)) (hw _ (List.mem_of_getElem? (i := 2) rfl)) (by decide) (by decide)) q113a q113c (g := (mkF m 340 #[.val (.int p0), .val (.int p1), .val (.int p2), .val (.int p3), .val (.int p4), .val (.int pa), .val (.int pb), .val (.int pa), .val (.int pe), .val (.ref b84), .val (.ref bS), .val (.ref bD), .val (.int (1 : Int32)), .val (.int (0 : Int32)), .val (.int (2 : Int32)), .val (.int (1 : Int32))] [(.ref b84)])) rfl (by rw [hml]; rfl) (Steps.refl _) (argsL := []) (rest := []) (lenOf own_pd3 rfl) rfl (by show 2 * 0 + _ ≤ _; exact Nat.le_of_eq rfl) (hb hby at_340) (fun _ _ => ⟨rfl, e112, (by first | decide | omega : 4 + 0 ≤ _), (by first | decide | omega : 17 + 0 ≤ _)⟩))
      obtain ⟨rfl, N113q, hs113, P113⟩ := hQ113
      refine Done.go st113 ?_
      clear st113
      have N113 := Fr.app N112h N113q
      clear N113q
      have Z113 : n0 ≤ T113.heap.size := Nat.le_trans Z108 hs113
      obtain ⟨Lh113, X113h, N113h⟩ : ∃ L, Stand p l e room_1 s m #[(.int p0), (.int p1), (.int p2), (.int p3), (.int p4)] below meth c T113 L 4 17 ∧ Fr n0 L := ⟨_, X113, N113⟩
      clear X113 N113 X112h e112 N112h Z108
      obtain ⟨E113, Fscores113, FscoredFor113, Fscored113, Fquery113, Fcount113, VD113, VF113, VS113⟩ := id P113
      show Done p e s below _ _ _ T113 (mkF m 343 #[.val (.int p0), .val (.int p1), .val (.int p2), .val (.int p3), .val (.int p4), .val (.int pa), .val (.int pb), .val (.int pa), .val (.int pe), .val (.ref b84), .val (.ref bS), .val (.ref bD), .val (.int (1 : Int32)), .val (.int (0 : Int32)), .val (.int (2 : Int32)), .val (.int (1 : Int32))] [])
      refine Done.go (fun _ kt_ => XS.aload X113h.here hx rfl (hb hby at_343) rfl rfl kt_) ?_
      show Done p e s below _ _ _ T113 (mkF m 345 #[.val (.int p0), .val (.int p1), .val (.int p2), .val (.int p3), .val (.int p4), .val (.int pa), .val (.int pb), .val (.int pa), .val (.int pe), .val (.ref b84), .val (.ref bS), .val (.ref bD), .val (.int (1 : Int32)), .val (.int (0 : Int32)), .val (.int (2 : Int32)), .val (.int (1 : Int32))] [(.ref b84)])
      refine Done.go (fun _ kt_ => XS.iload X113h.here hx rfl (hb hby at_345) rfl kt_) ?_
      show Done p e s below _ _ _ T113 (mkF m 347 #[.val (.int p0), .val (.int p1), .val (.int p2), .val (.int p3), .val (.int p4), .val (.int pa), .val (.int pb), .val (.int pa), .val (.int pe), .val (.ref b84), .val (.ref bS), .val (.ref bD), .val (.int (1 : Int32)), .val (.int (0 : Int32)), .val (.int (2 : Int32)), .val (.int (1 : Int32))] [(.int pe), (.ref b84)])
      refine Done.go (fun _ kt_ => XS.iload X113h.here hx rfl (hb hby at_347) rfl kt_) ?_
      show Done p e s below _ _ _ T113 (mkF m 349 #[.val (.int p0), .val (.int p1), .val (.int p2), .val (.int p3), .val (.int p4), .val (.int pa), .val (.int pb), .val (.int pa), .val (.int pe), .val (.ref b84), .val (.ref bS), .val (.ref bD), .val (.int (1 : Int32)), .val (.int (0 : Int32)), .val (.int (2 : Int32)), .val (.int (1 : Int32))] [(.int p4), (.int pe), (.ref b84)])
      refine Done.go (fun _ kt_ => XS.i2dS X113h.here hx rfl (hb hby at_349) rfl (i2d_w p4) kt_) ?_
      show Done p e s below _ _ _ T113 (mkF m 350 #[.val (.int p0), .val (.int p1), .val (.int p2), .val (.int p3), .val (.int p4), .val (.int pa), .val (.int pb), .val (.int pa), .val (.int pe), .val (.ref b84), .val (.ref bS), .val (.ref bD), .val (.int (1 : Int32)), .val (.int (0 : Int32)), .val (.int (2 : Int32)), .val (.int (1 : Int32))] [(.double (FP.l2d (p4.toInt64))), (.int pe), (.ref b84)])
      obtain ⟨cq114, kq114, q114a, q114b, q114c⟩ := isOf hZ rfl E113
      obtain ⟨v114, T114, Lc114, X114, hQ114, st114⟩ := own_backV (X113h.virtualBack hx (y := (⟨"com/example/pivotwise/pivotwise/retrieval/Scores", "add", "(ID)V"⟩ : MethodName)) (z := (⟨"com/example/pivotwise/pivotwise/retrieval/Scores", "add", "(ID)V"⟩ : MethodName)) hown (mvT hZ (hw _ (List.mem_of_getElem? (i := 36) rfl))) (mvT hZ (hw _ (List.mem_of_getElem? (i := 37) rfl))) (notFace_of_selects (args := #[]) (mvT hZ (hw _ (List.mem_of_getElem? (i := 39) rfl)))) (mvT hZ (hw _ (List.mem_of_getElem? (i := 39) rfl))) (mvT hZ (hw _ (List.mem_of_getElem? (i := 38) rfl))) (by decide) (backOf (W := 0) (rm6n l Z a0 hw [] b84 bD bF bS pe (p4.toInt64) (own_u (own_u (own_u (fun _ => (0 : Int64)) A (0 + (p1.toInt64))) B (0 + (p2.toInt64))) A (((0 : Int64) + (p1.toInt64)) + (p3.toInt64))) (own_u (own_u (fun _ => (0 : Int32)) A (1 : Int32)) B (1 : Int32)) (own_u (own_u (fun _ => (0 : Int32)) 0 pa) 1 pb) (2 : Int32) (0 : Int32) Ee 0 (1 : Int32) T113.heap n0 Z113 ⟨E113, Fscores113, FscoredFor113, Fscored113, Fquery113, Fcount113, VD113, VF113, VS113⟩ hds hgs hEe hEe4 (own_leB (own_leG _) (by decide)) (by decide) (by decide) (by unfold own_u; (repeat' split) <;> first | decide | (show ¬ ((0 : Int32) = 2); decide)) (by decide)) hZ (hw _ (List.mem_of_getElem? (i := 40) rfl)) (hw _ (List.mem_of_getElem? (i := 2) rfl)) (by decide) (by decide)) q114a q114c (g := (mkF m 350 #[.val (.int p0), .val (.int p1), .val (.int p2), .val (.int p3), .val (.int p4), .val (.int pa), .val (.int pb), .val (.int pa), .val (.int pe), .val (.ref b84), .val (.ref bS), .val (.ref bD), .val (.int (1 : Int32)), .val (.int (0 : Int32)), .val (.int (2 : Int32)), .val (.int (1 : Int32))] [(.double (FP.l2d (p4.toInt64))), (.int pe), (.ref b84)])) rfl (by rw [hml]; rfl) (Steps.refl _) (argsL := [(.int pe), (.double (FP.l2d (p4.toInt64)))]) (rest := []) (lenOf own_pd4 rfl) rfl (by show 2 * 0 + _ ≤ _; exact Nat.le_of_eq rfl) (hb hby at_350) (fun _ _ => ⟨rfl, rfl, (by first | decide | omega : 4 + 0 ≤ _), (by first | decide | omega : 17 + 0 ≤ _)⟩))
      obtain ⟨rfl, N114q, hs114, P114⟩ := hQ114
      refine Done.go st114 ?_
      clear st114
      have N114 := Fr.app N113h N114q
      clear N114q
      have Z114 : n0 ≤ T114.heap.size := Nat.le_trans Z113 hs114
      obtain ⟨Lh114, X114h, N114h⟩ : ∃ L, Stand p l e room_1 s m #[(.int p0), (.int p1), (.int p2), (.int p3), (.int p4)] below meth c T114 L 4 17 ∧ Fr n0 L := ⟨_, X114, N114⟩
      clear X114 N114 X113h N113h Z113
      obtain ⟨E114, Fscores114, FscoredFor114, Fscored114, Fquery114, Fcount114, VD114, VF114, VS114⟩ := id P114
      show Done p e s below _ _ _ T114 (mkF m 353 #[.val (.int p0), .val (.int p1), .val (.int p2), .val (.int p3), .val (.int p4), .val (.int pa), .val (.int pb), .val (.int pa), .val (.int pe), .val (.ref b84), .val (.ref bS), .val (.ref bD), .val (.int (1 : Int32)), .val (.int (0 : Int32)), .val (.int (2 : Int32)), .val (.int (1 : Int32))] [])
      refine Done.go (fun _ kt_ => XS.iload X114h.here hx rfl (hb hby at_353) rfl kt_) ?_
      show Done p e s below _ _ _ T114 (mkF m 355 #[.val (.int p0), .val (.int p1), .val (.int p2), .val (.int p3), .val (.int p4), .val (.int pa), .val (.int pb), .val (.int pa), .val (.int pe), .val (.ref b84), .val (.ref bS), .val (.ref bD), .val (.int (1 : Int32)), .val (.int (0 : Int32)), .val (.int (2 : Int32)), .val (.int (1 : Int32))] [(.int (1 : Int32))])
      refine Done.go (fun _ kt_ => XS.ifNo X114h.here hx rfl (hb hby at_355) rfl ((if0 _ _).trans (feq (by decide)).1) kt_) ?_
      show Done p e s below _ _ _ T114 (mkF m 358 #[.val (.int p0), .val (.int p1), .val (.int p2), .val (.int p3), .val (.int p4), .val (.int pa), .val (.int pb), .val (.int pa), .val (.int pe), .val (.ref b84), .val (.ref bS), .val (.ref bD), .val (.int (1 : Int32)), .val (.int (0 : Int32)), .val (.int (2 : Int32)), .val (.int (1 : Int32))] [])
      refine Done.go (fun _ kt_ => XS.aload X114h.here hx rfl (hb hby at_358) rfl rfl kt_) ?_
      show Done p e s below _ _ _ T114 (mkF m 360 #[.val (.int p0), .val (.int p1), .val (.int p2), .val (.int p3), .val (.int p4), .val (.int pa), .val (.int pb), .val (.int pa), .val (.int pe), .val (.ref b84), .val (.ref bS), .val (.ref bD), .val (.int (1 : Int32)), .val (.int (0 : Int32)), .val (.int (2 : Int32)), .val (.int (1 : Int32))] [(.ref b84)])
      obtain ⟨cq115, kq115, q115a, q115b, q115c⟩ := isOf hZ rfl E114
      obtain ⟨v115, T115, Lc115, X115, hQ115, st115⟩ := own_backV (X114h.virtualBack hx (y := (⟨"com/example/pivotwise/pivotwise/retrieval/Scores", "count", "()I"⟩ : MethodName)) (z := (⟨"com/example/pivotwise/pivotwise/retrieval/Scores", "count", "()I"⟩ : MethodName)) hown (mvT hZ (hw _ (List.mem_of_getElem? (i := 41) rfl))) (mvT hZ (hw _ (List.mem_of_getElem? (i := 42) rfl))) (notFace_of_selects (args := #[]) (mvT hZ (hw _ (List.mem_of_getElem? (i := 44) rfl)))) (mvT hZ (hw _ (List.mem_of_getElem? (i := 44) rfl))) (mvT hZ (hw _ (List.mem_of_getElem? (i := 43) rfl))) (by decide) (backOf (W := 0) (rm7 l Z a0 hw [] b84 (1 : Int32) T114.heap n0 Z114 Fcount114) hZ (hw _ (List.mem_of_getElem? (i := 45) rfl)) (hw _ (List.mem_of_getElem? (i := 2) rfl)) (by decide) (by decide)) q115a q115c (g := (mkF m 360 #[.val (.int p0), .val (.int p1), .val (.int p2), .val (.int p3), .val (.int p4), .val (.int pa), .val (.int pb), .val (.int pa), .val (.int pe), .val (.ref b84), .val (.ref bS), .val (.ref bD), .val (.int (1 : Int32)), .val (.int (0 : Int32)), .val (.int (2 : Int32)), .val (.int (1 : Int32))] [(.ref b84)])) rfl (by rw [hml]; rfl) (Steps.refl _) (argsL := []) (rest := []) (lenOf own_pd5 rfl) rfl (by show 2 * 0 + _ ≤ _; exact Nat.le_of_eq rfl) (hb hby at_360) (fun _ _ => ⟨rfl, rfl, (by first | decide | omega : 4 + 0 ≤ _), (by first | decide | omega : 17 + 0 ≤ _)⟩))
      obtain ⟨rfl, N115q, e115⟩ := hQ115
      refine Done.go st115 ?_
      clear st115
      have N115 := Fr.app N114h N115q
      clear N115q
      obtain ⟨Lh115, X115h, N115h⟩ : ∃ L, Stand p l e room_1 s m #[(.int p0), (.int p1), (.int p2), (.int p3), (.int p4)] below meth c T115 L 4 17 ∧ Fr n0 L := ⟨_, X115, N115⟩
      clear X115 N115 X114h N114h
      show Done p e s below _ _ _ T115 (mkF m 363 #[.val (.int p0), .val (.int p1), .val (.int p2), .val (.int p3), .val (.int p4), .val (.int pa), .val (.int pb), .val (.int pa), .val (.int pe), .val (.ref b84), .val (.ref bS), .val (.ref bD), .val (.int (1 : Int32)), .val (.int (0 : Int32)), .val (.int (2 : Int32)), .val (.int (1 : Int32))] [(.int (1 : Int32))])
      refine Done.go (fun _ kt_ => XS.iconst X115h.here hx rfl (hb hby at_363) kt_) ?_
      show Done p e s below _ _ _ T115 (mkF m 364 #[.val (.int p0), .val (.int p1), .val (.int p2), .val (.int p3), .val (.int p4), .val (.int pa), .val (.int pb), .val (.int pa), .val (.int pe), .val (.ref b84), .val (.ref bS), .val (.ref bD), .val (.int (1 : Int32)), .val (.int (0 : Int32)), .val (.int (2 : Int32)), .val (.int (1 : Int32))] [(.int (1 : Int32)), (.int (1 : Int32))])
      refine Done.go (fun _ kt_ => XS.icmpNo X115h.here hx rfl (hb hby at_364) rfl (teq (by decide)).2 kt_) ?_
      show Done p e s below _ _ _ T115 (mkF m 367 #[.val (.int p0), .val (.int p1), .val (.int p2), .val (.int p3), .val (.int p4), .val (.int pa), .val (.int pb), .val (.int pa), .val (.int pe), .val (.ref b84), .val (.ref bS), .val (.ref bD), .val (.int (1 : Int32)), .val (.int (0 : Int32)), .val (.int (2 : Int32)), .val (.int (1 : Int32))] [])
      refine Done.go (fun _ kt_ => XS.aload X115h.here hx rfl (hb hby at_367) rfl rfl kt_) ?_
      show Done p e s below _ _ _ T115 (mkF m 369 #[.val (.int p0), .val (.int p1), .val (.int p2), .val (.int p3), .val (.int p4), .val (.int pa), .val (.int pb), .val (.int pa), .val (.int pe), .val (.ref b84), .val (.ref bS), .val (.ref bD), .val (.int (1 : Int32)), .val (.int (0 : Int32)), .val (.int (2 : Int32)), .val (.int (1 : Int32))] [(.ref bS)])
      refine Done.go (fun _ kt_ => XS.iconst X115h.here hx rfl (hb hby at_369) kt_) ?_
      show Done p e s below _ _ _ T115 (mkF m 370 #[.val (.int p0), .val (.int p1), .val (.int p2), .val (.int p3), .val (.int p4), .val (.int pa), .val (.int pb), .val (.int pa), .val (.int pe), .val (.ref b84), .val (.ref bS), .val (.ref bD), .val (.int (1 : Int32)), .val (.int (0 : Int32)), .val (.int (2 : Int32)), .val (.int (1 : Int32))] [(.int (0 : Int32)), (.ref bS)])
      refine Done.ldI X115h hx hZ e115 VS114 (j := (0 : Int32)) (w := pe) 0 (by decide) rfl (by decide) rfl (hb hby at_370) ?_
      show Done p e s below _ _ _ T115 (mkF m 371 #[.val (.int p0), .val (.int p1), .val (.int p2), .val (.int p3), .val (.int p4), .val (.int pa), .val (.int pb), .val (.int pa), .val (.int pe), .val (.ref b84), .val (.ref bS), .val (.ref bD), .val (.int (1 : Int32)), .val (.int (0 : Int32)), .val (.int (2 : Int32)), .val (.int (1 : Int32))] [(.int pe)])
      refine Done.go (fun _ kt_ => XS.iload X115h.here hx rfl (hb hby at_371) rfl kt_) ?_
      show Done p e s below _ _ _ T115 (mkF m 373 #[.val (.int p0), .val (.int p1), .val (.int p2), .val (.int p3), .val (.int p4), .val (.int pa), .val (.int pb), .val (.int pa), .val (.int pe), .val (.ref b84), .val (.ref bS), .val (.ref bD), .val (.int (1 : Int32)), .val (.int (0 : Int32)), .val (.int (2 : Int32)), .val (.int (1 : Int32))] [(.int pe), (.int pe)])
      refine Done.go (fun _ kt_ => XS.icmpNo X115h.here hx rfl (hb hby at_373) rfl (teq rfl).2 kt_) ?_
      show Done p e s below _ _ _ T115 (mkF m 376 #[.val (.int p0), .val (.int p1), .val (.int p2), .val (.int p3), .val (.int p4), .val (.int pa), .val (.int pb), .val (.int pa), .val (.int pe), .val (.ref b84), .val (.ref bS), .val (.ref bD), .val (.int (1 : Int32)), .val (.int (0 : Int32)), .val (.int (2 : Int32)), .val (.int (1 : Int32))] [])
      refine Done.go (fun _ kt_ => XS.aload X115h.here hx rfl (hb hby at_376) rfl rfl kt_) ?_
      show Done p e s below _ _ _ T115 (mkF m 378 #[.val (.int p0), .val (.int p1), .val (.int p2), .val (.int p3), .val (.int p4), .val (.int pa), .val (.int pb), .val (.int pa), .val (.int pe), .val (.ref b84), .val (.ref bS), .val (.ref bD), .val (.int (1 : Int32)), .val (.int (0 : Int32)), .val (.int (2 : Int32)), .val (.int (1 : Int32))] [(.ref bD)])
      refine Done.go (fun _ kt_ => XS.iload X115h.here hx rfl (hb hby at_378) rfl kt_) ?_
      show Done p e s below _ _ _ T115 (mkF m 380 #[.val (.int p0), .val (.int p1), .val (.int p2), .val (.int p3), .val (.int p4), .val (.int pa), .val (.int pb), .val (.int pa), .val (.int pe), .val (.ref b84), .val (.ref bS), .val (.ref bD), .val (.int (1 : Int32)), .val (.int (0 : Int32)), .val (.int (2 : Int32)), .val (.int (1 : Int32))] [(.int pe), (.ref bD)])
      refine Done.ldD X115h hx hZ e115 VD114 (j := pe) (y := ((0 : Int64) + (p4.toInt64))) Ee (own_ix hEe).1 (own_ix hEe).2 hEe4 (if_pos rfl) (hb hby at_380) ?_
      show Done p e s below _ _ _ T115 (mkF m 381 #[.val (.int p0), .val (.int p1), .val (.int p2), .val (.int p3), .val (.int p4), .val (.int pa), .val (.int pb), .val (.int pa), .val (.int pe), .val (.ref b84), .val (.ref bS), .val (.ref bD), .val (.int (1 : Int32)), .val (.int (0 : Int32)), .val (.int (2 : Int32)), .val (.int (1 : Int32))] [(.double (FP.l2d ((0 : Int64) + (p4.toInt64))))])
      refine Done.go (fun _ kt_ => XS.iload X115h.here hx rfl (hb hby at_381) rfl kt_) ?_
      show Done p e s below _ _ _ T115 (mkF m 383 #[.val (.int p0), .val (.int p1), .val (.int p2), .val (.int p3), .val (.int p4), .val (.int pa), .val (.int pb), .val (.int pa), .val (.int pe), .val (.ref b84), .val (.ref bS), .val (.ref bD), .val (.int (1 : Int32)), .val (.int (0 : Int32)), .val (.int (2 : Int32)), .val (.int (1 : Int32))] [(.int p4), (.double (FP.l2d ((0 : Int64) + (p4.toInt64))))])
      refine Done.go (fun _ kt_ => XS.i2dS X115h.here hx rfl (hb hby at_383) rfl (i2d_w p4) kt_) ?_
      show Done p e s below _ _ _ T115 (mkF m 384 #[.val (.int p0), .val (.int p1), .val (.int p2), .val (.int p3), .val (.int p4), .val (.int pa), .val (.int pb), .val (.int pa), .val (.int pe), .val (.ref b84), .val (.ref bS), .val (.ref bD), .val (.int (1 : Int32)), .val (.int (0 : Int32)), .val (.int (2 : Int32)), .val (.int (1 : Int32))] [(.double (FP.l2d (p4.toInt64))), (.double (FP.l2d ((0 : Int64) + (p4.toInt64))))])
      refine Done.go (fun _ kt_ => XS.dcmpS X115h.here hx rfl (hb hby at_384) rfl (dcmpV_w (own_leB (own_leA own_le0 (by decide) p4) (by decide)) (own_leB (own_leG p4) (by decide)) _) kt_) ?_
      show Done p e s below _ _ _ T115 (mkF m 385 #[.val (.int p0), .val (.int p1), .val (.int p2), .val (.int p3), .val (.int p4), .val (.int pa), .val (.int pb), .val (.int pa), .val (.int pe), .val (.ref b84), .val (.ref bS), .val (.ref bD), .val (.int (1 : Int32)), .val (.int (0 : Int32)), .val (.int (2 : Int32)), .val (.int (1 : Int32))] [(.int (lcmpW ((0 : Int64) + (p4.toInt64)) (p4.toInt64)))])
      refine Done.go (fun _ kt_ => XS.ifNo X115h.here hx rfl (hb hby at_385) rfl ((if0 _ _).trans (teq ((lw_eq _ _).mpr (Int64.zero_add _))).2) kt_) ?_
      show Done p e s below _ _ _ T115 (mkF m 388 #[.val (.int p0), .val (.int p1), .val (.int p2), .val (.int p3), .val (.int p4), .val (.int pa), .val (.int pb), .val (.int pa), .val (.int pe), .val (.ref b84), .val (.ref bS), .val (.ref bD), .val (.int (1 : Int32)), .val (.int (0 : Int32)), .val (.int (2 : Int32)), .val (.int (1 : Int32))] [])
      refine Done.go (fun _ kt_ => XS.iconst X115h.here hx rfl (hb hby at_388) kt_) ?_
      show Done p e s below _ _ _ T115 (mkF m 389 #[.val (.int p0), .val (.int p1), .val (.int p2), .val (.int p3), .val (.int p4), .val (.int pa), .val (.int pb), .val (.int pa), .val (.int pe), .val (.ref b84), .val (.ref bS), .val (.ref bD), .val (.int (1 : Int32)), .val (.int (0 : Int32)), .val (.int (2 : Int32)), .val (.int (1 : Int32))] [(.int (1 : Int32))])
      refine Done.go (fun _ kt_ => XS.goto X115h.here hx rfl (pc0 := 389) (pc' := 393) rfl (hb hby at_389) (by decide) (by decide) kt_) ?_
      show Done p e s below _ _ _ T115 (mkF m 393 #[.val (.int p0), .val (.int p1), .val (.int p2), .val (.int p3), .val (.int p4), .val (.int pa), .val (.int pb), .val (.int pa), .val (.int pe), .val (.ref b84), .val (.ref bS), .val (.ref bD), .val (.int (1 : Int32)), .val (.int (0 : Int32)), .val (.int (2 : Int32)), .val (.int (1 : Int32))] [(.int (1 : Int32))])
      refine Done.go (fun _ kt_ => XS.istore X115h.here hx rfl (hb hby at_393) rfl (l' := #[.val (.int p0), .val (.int p1), .val (.int p2), .val (.int p3), .val (.int p4), .val (.int pa), .val (.int pb), .val (.int pa), .val (.int pe), .val (.ref b84), .val (.ref bS), .val (.ref bD), .val (.int (1 : Int32)), .val (.int (0 : Int32)), .val (.int (2 : Int32)), .val (.int (1 : Int32))]) rfl kt_) ?_
      show Done p e s below _ _ _ T115 (mkF m 395 #[.val (.int p0), .val (.int p1), .val (.int p2), .val (.int p3), .val (.int p4), .val (.int pa), .val (.int pb), .val (.int pa), .val (.int pe), .val (.ref b84), .val (.ref bS), .val (.ref bD), .val (.int (1 : Int32)), .val (.int (0 : Int32)), .val (.int (2 : Int32)), .val (.int (1 : Int32))] [])
      refine Done.go (fun _ kt_ => XS.iload X115h.here hx rfl (hb hby at_395) rfl kt_) ?_
      show Done p e s below _ _ _ T115 (mkF m 397 #[.val (.int p0), .val (.int p1), .val (.int p2), .val (.int p3), .val (.int p4), .val (.int pa), .val (.int pb), .val (.int pa), .val (.int pe), .val (.ref b84), .val (.ref bS), .val (.ref bD), .val (.int (1 : Int32)), .val (.int (0 : Int32)), .val (.int (2 : Int32)), .val (.int (1 : Int32))] [(.int (1 : Int32))])
      refine Done.retN X115h hx hlk (t := .boolean) hrt (by simp) (z' := (1 : Int32)) rfl (hb hby at_397) ?_ (by first | decide | omega) (by first | decide | omega)
      rw [e115]
      exact ⟨rfl, N115h⟩
    · skip
      have n_ACc : ¬ A = Cc := hcs
      have n_CcA : ¬ Cc = A := fun q => hcs q.symm
      have i_papc : ¬ pa = pc := own_neN hA hCc hcs
      have i_pcpa : ¬ pc = pa := fun q => i_papc q.symm
      clear hcs
      by_cases hcs : B = Cc
      · skip
        have hq1 : pb = pc := own_eqN hB hCc hcs
        subst hq1
        subst hcs
        show Done p e s below _ _ _ T107 (mkF m 74 #[.val (.int p0), .val (.int p1), .val (.int p2), .val (.int p3), .val (.int p4), .val (.int pa), .val (.int pb), .val (.int pb), .val (.int pe), .val (.ref b84), .val (.ref bS), .val (.ref bD), .unset, .unset, .unset, .unset] [])
        refine Done.go (fun _ kt_ => XS.aload X107h.here hx rfl (hb hby at_74) rfl rfl kt_) ?_
        show Done p e s below _ _ _ T107 (mkF m 76 #[.val (.int p0), .val (.int p1), .val (.int p2), .val (.int p3), .val (.int p4), .val (.int pa), .val (.int pb), .val (.int pb), .val (.int pe), .val (.ref b84), .val (.ref bS), .val (.ref bD), .unset, .unset, .unset, .unset] [(.ref b84)])
        refine Done.go (fun _ kt_ => XS.iload X107h.here hx rfl (hb hby at_76) rfl kt_) ?_
        show Done p e s below _ _ _ T107 (mkF m 78 #[.val (.int p0), .val (.int p1), .val (.int p2), .val (.int p3), .val (.int p4), .val (.int pa), .val (.int pb), .val (.int pb), .val (.int pe), .val (.ref b84), .val (.ref bS), .val (.ref bD), .unset, .unset, .unset, .unset] [(.int pb), (.ref b84)])
        refine Done.go (fun _ kt_ => XS.iloadN X107h.here hx rfl (hb hby at_78) rfl kt_) ?_
        show Done p e s below _ _ _ T107 (mkF m 79 #[.val (.int p0), .val (.int p1), .val (.int p2), .val (.int p3), .val (.int p4), .val (.int pa), .val (.int pb), .val (.int pb), .val (.int pe), .val (.ref b84), .val (.ref bS), .val (.ref bD), .unset, .unset, .unset, .unset] [(.int p3), (.int pb), (.ref b84)])
        refine Done.go (fun _ kt_ => XS.i2dS X107h.here hx rfl (hb hby at_79) rfl (i2d_w p3) kt_) ?_
        show Done p e s below _ _ _ T107 (mkF m 80 #[.val (.int p0), .val (.int p1), .val (.int p2), .val (.int p3), .val (.int p4), .val (.int pa), .val (.int pb), .val (.int pb), .val (.int pe), .val (.ref b84), .val (.ref bS), .val (.ref bD), .unset, .unset, .unset, .unset] [(.double (FP.l2d (p3.toInt64))), (.int pb), (.ref b84)])
        have hrd : (own_u (own_u (fun _ => (0 : Int64)) A (0 + (p1.toInt64))) B (0 + (p2.toInt64))) B = ((0 : Int64) + (p2.toInt64)) := by simp [own_u, n_AB, n_BA, n_ACc, n_CcA]
        obtain ⟨cq116, kq116, q116a, q116b, q116c⟩ := isOf hZ rfl E107
        obtain ⟨v116, T116, Lc116, X116, hQ116, st116⟩ := own_backV (X107h.virtualBack hx (y := (⟨"com/example/pivotwise/pivotwise/retrieval/Scores", "add", "(ID)V"⟩ : MethodName)) (z := (⟨"com/example/pivotwise/pivotwise/retrieval/Scores", "add", "(ID)V"⟩ : MethodName)) hown (mvT hZ (hw _ (List.mem_of_getElem? (i := 36) rfl))) (mvT hZ (hw _ (List.mem_of_getElem? (i := 37) rfl))) (notFace_of_selects (args := #[]) (mvT hZ (hw _ (List.mem_of_getElem? (i := 39) rfl)))) (mvT hZ (hw _ (List.mem_of_getElem? (i := 39) rfl))) (mvT hZ (hw _ (List.mem_of_getElem? (i := 38) rfl))) (by decide) (backOf (W := 0) (rm6o l Z a0 hw [] b84 bD bF bS pb (p3.toInt64) (own_u (own_u (fun _ => (0 : Int64)) A (0 + (p1.toInt64))) B (0 + (p2.toInt64))) (own_u (own_u (fun _ => (0 : Int32)) A (1 : Int32)) B (1 : Int32)) (own_u (own_u (fun _ => (0 : Int32)) 0 pa) 1 pb) (1 : Int32) (2 : Int32) B T107.heap n0 Z107 ⟨E107, Fscores107, FscoredFor107, Fscored107, Fquery107, Fcount107, VD107, VF107, VS107⟩ hds hgs hB hB4 (own_leB (own_leG _) (by decide)) (by simp [own_u, n_AB, n_BA, n_ACc, n_CcA]) (by rw [hrd]; exact (own_leB (own_leA own_le0 (by decide) p2) (by decide)))) hZ (hw _ (List.mem_of_getElem? (i := 40) rfl)) (hw _ (List.mem_of_getElem? (i := 2) rfl)) (by decide) (by decide)) q116a q116c (g := (mkF m 80 #[.val (.int p0), .val (.int p1), .val (.int p2), .val (.int p3), .val (.int p4), .val (.int pa), .val (.int pb), .val (.int pb), .val (.int pe), .val (.ref b84), .val (.ref bS), .val (.ref bD), .unset, .unset, .unset, .unset] [(.double (FP.l2d (p3.toInt64))), (.int pb), (.ref b84)])) rfl (by rw [hml]; rfl) (Steps.refl _) (argsL := [(.int pb), (.double (FP.l2d (p3.toInt64)))]) (rest := []) (lenOf own_pd4 rfl) rfl (by show 2 * 0 + _ ≤ _; exact Nat.le_of_eq rfl) (hb hby at_80) (fun _ _ => ⟨rfl, rfl, (by first | decide | omega : 4 + 0 ≤ _), (by first | decide | omega : 17 + 0 ≤ _)⟩))
        obtain ⟨rfl, N116q, hs116, P116⟩ := hQ116
        refine Done.go st116 ?_
        clear st116
        have N116 := Fr.app N107h N116q
        clear N116q
        rw [hrd] at P116; clear hrd
        have Z116 : n0 ≤ T116.heap.size := Nat.le_trans Z107 hs116
        obtain ⟨Lh116, X116h, N116h⟩ : ∃ L, Stand p l e room_1 s m #[(.int p0), (.int p1), (.int p2), (.int p3), (.int p4)] below meth c T116 L 4 17 ∧ Fr n0 L := ⟨_, X116, N116⟩
        clear X116 N116 X107h N107h Z107
        obtain ⟨E116, Fscores116, FscoredFor116, Fscored116, Fquery116, Fcount116, VD116, VF116, VS116⟩ := id P116
        show Done p e s below _ _ _ T116 (mkF m 83 #[.val (.int p0), .val (.int p1), .val (.int p2), .val (.int p3), .val (.int p4), .val (.int pa), .val (.int pb), .val (.int pb), .val (.int pe), .val (.ref b84), .val (.ref bS), .val (.ref bD), .unset, .unset, .unset, .unset] [])
        refine Done.go (fun _ kt_ => XS.iload X116h.here hx rfl (hb hby at_83) rfl kt_) ?_
        show Done p e s below _ _ _ T116 (mkF m 85 #[.val (.int p0), .val (.int p1), .val (.int p2), .val (.int p3), .val (.int p4), .val (.int pa), .val (.int pb), .val (.int pb), .val (.int pe), .val (.ref b84), .val (.ref bS), .val (.ref bD), .unset, .unset, .unset, .unset] [(.int pb)])
        refine Done.go (fun _ kt_ => XS.iload X116h.here hx rfl (hb hby at_85) rfl kt_) ?_
        show Done p e s below _ _ _ T116 (mkF m 87 #[.val (.int p0), .val (.int p1), .val (.int p2), .val (.int p3), .val (.int p4), .val (.int pa), .val (.int pb), .val (.int pb), .val (.int pe), .val (.ref b84), .val (.ref bS), .val (.ref bD), .unset, .unset, .unset, .unset] [(.int pa), (.int pb)])
        refine Done.go (fun _ kt_ => XS.icmpNo X116h.here hx rfl (hb hby at_87) rfl (feq i_pbpa).1 kt_) ?_
        show Done p e s below _ _ _ T116 (mkF m 90 #[.val (.int p0), .val (.int p1), .val (.int p2), .val (.int p3), .val (.int p4), .val (.int pa), .val (.int pb), .val (.int pb), .val (.int pe), .val (.ref b84), .val (.ref bS), .val (.ref bD), .unset, .unset, .unset, .unset] [])
        refine Done.go (fun _ kt_ => XS.iconst X116h.here hx rfl (hb hby at_90) kt_) ?_
        show Done p e s below _ _ _ T116 (mkF m 91 #[.val (.int p0), .val (.int p1), .val (.int p2), .val (.int p3), .val (.int p4), .val (.int pa), .val (.int pb), .val (.int pb), .val (.int pe), .val (.ref b84), .val (.ref bS), .val (.ref bD), .unset, .unset, .unset, .unset] [(.int (1 : Int32))])
        refine Done.go (fun _ kt_ => XS.goto X116h.here hx rfl (pc0 := 91) (pc' := 95) rfl (hb hby at_91) (by decide) (by decide) kt_) ?_
        show Done p e s below _ _ _ T116 (mkF m 95 #[.val (.int p0), .val (.int p1), .val (.int p2), .val (.int p3), .val (.int p4), .val (.int pa), .val (.int pb), .val (.int pb), .val (.int pe), .val (.ref b84), .val (.ref bS), .val (.ref bD), .unset, .unset, .unset, .unset] [(.int (1 : Int32))])
        refine Done.go (fun _ kt_ => XS.istore X116h.here hx rfl (hb hby at_95) rfl (l' := #[.val (.int p0), .val (.int p1), .val (.int p2), .val (.int p3), .val (.int p4), .val (.int pa), .val (.int pb), .val (.int pb), .val (.int pe), .val (.ref b84), .val (.ref bS), .val (.ref bD), .val (.int (1 : Int32)), .unset, .unset, .unset]) rfl kt_) ?_
        show Done p e s below _ _ _ T116 (mkF m 97 #[.val (.int p0), .val (.int p1), .val (.int p2), .val (.int p3), .val (.int p4), .val (.int pa), .val (.int pb), .val (.int pb), .val (.int pe), .val (.ref b84), .val (.ref bS), .val (.ref bD), .val (.int (1 : Int32)), .unset, .unset, .unset] [])
        refine Done.go (fun _ kt_ => XS.iload X116h.here hx rfl (hb hby at_97) rfl kt_) ?_
        show Done p e s below _ _ _ T116 (mkF m 99 #[.val (.int p0), .val (.int p1), .val (.int p2), .val (.int p3), .val (.int p4), .val (.int pa), .val (.int pb), .val (.int pb), .val (.int pe), .val (.ref b84), .val (.ref bS), .val (.ref bD), .val (.int (1 : Int32)), .unset, .unset, .unset] [(.int pb)])
        refine Done.go (fun _ kt_ => XS.iload X116h.here hx rfl (hb hby at_99) rfl kt_) ?_
        show Done p e s below _ _ _ T116 (mkF m 101 #[.val (.int p0), .val (.int p1), .val (.int p2), .val (.int p3), .val (.int p4), .val (.int pa), .val (.int pb), .val (.int pb), .val (.int pe), .val (.ref b84), .val (.ref bS), .val (.ref bD), .val (.int (1 : Int32)), .unset, .unset, .unset] [(.int pa), (.int pb)])
        refine Done.go (fun _ kt_ => XS.icmpNo X116h.here hx rfl (hb hby at_101) rfl (feq i_pbpa).1 kt_) ?_
        show Done p e s below _ _ _ T116 (mkF m 104 #[.val (.int p0), .val (.int p1), .val (.int p2), .val (.int p3), .val (.int p4), .val (.int pa), .val (.int pb), .val (.int pb), .val (.int pe), .val (.ref b84), .val (.ref bS), .val (.ref bD), .val (.int (1 : Int32)), .unset, .unset, .unset] [])
        refine Done.go (fun _ kt_ => XS.iload X116h.here hx rfl (hb hby at_104) rfl kt_) ?_
        show Done p e s below _ _ _ T116 (mkF m 106 #[.val (.int p0), .val (.int p1), .val (.int p2), .val (.int p3), .val (.int p4), .val (.int pa), .val (.int pb), .val (.int pb), .val (.int pe), .val (.ref b84), .val (.ref bS), .val (.ref bD), .val (.int (1 : Int32)), .unset, .unset, .unset] [(.int pb)])
        refine Done.go (fun _ kt_ => XS.iload X116h.here hx rfl (hb hby at_106) rfl kt_) ?_
        show Done p e s below _ _ _ T116 (mkF m 108 #[.val (.int p0), .val (.int p1), .val (.int p2), .val (.int p3), .val (.int p4), .val (.int pa), .val (.int pb), .val (.int pb), .val (.int pe), .val (.ref b84), .val (.ref bS), .val (.ref bD), .val (.int (1 : Int32)), .unset, .unset, .unset] [(.int pb), (.int pb)])
        refine Done.go (fun _ kt_ => XS.icmpYes X116h.here hx rfl (pc0 := 108) (pc' := 115) rfl (hb hby at_108) rfl (teq rfl).1 (by decide) (by decide) kt_) ?_
        show Done p e s below _ _ _ T116 (mkF m 115 #[.val (.int p0), .val (.int p1), .val (.int p2), .val (.int p3), .val (.int p4), .val (.int pa), .val (.int pb), .val (.int pb), .val (.int pe), .val (.ref b84), .val (.ref bS), .val (.ref bD), .val (.int (1 : Int32)), .unset, .unset, .unset] [])
        refine Done.go (fun _ kt_ => XS.iconst X116h.here hx rfl (hb hby at_115) kt_) ?_
        show Done p e s below _ _ _ T116 (mkF m 116 #[.val (.int p0), .val (.int p1), .val (.int p2), .val (.int p3), .val (.int p4), .val (.int pa), .val (.int pb), .val (.int pb), .val (.int pe), .val (.ref b84), .val (.ref bS), .val (.ref bD), .val (.int (1 : Int32)), .unset, .unset, .unset] [(.int (0 : Int32))])
        refine Done.go (fun _ kt_ => XS.istore X116h.here hx rfl (hb hby at_116) rfl (l' := #[.val (.int p0), .val (.int p1), .val (.int p2), .val (.int p3), .val (.int p4), .val (.int pa), .val (.int pb), .val (.int pb), .val (.int pe), .val (.ref b84), .val (.ref bS), .val (.ref bD), .val (.int (1 : Int32)), .val (.int (0 : Int32)), .unset, .unset]) rfl kt_) ?_
        show Done p e s below _ _ _ T116 (mkF m 118 #[.val (.int p0), .val (.int p1), .val (.int p2), .val (.int p3), .val (.int p4), .val (.int pa), .val (.int pb), .val (.int pb), .val (.int pe), .val (.ref b84), .val (.ref bS), .val (.ref bD), .val (.int (1 : Int32)), .val (.int (0 : Int32)), .unset, .unset] [])
        refine Done.go (fun _ kt_ => XS.iconst X116h.here hx rfl (hb hby at_118) kt_) ?_
        show Done p e s below _ _ _ T116 (mkF m 119 #[.val (.int p0), .val (.int p1), .val (.int p2), .val (.int p3), .val (.int p4), .val (.int pa), .val (.int pb), .val (.int pb), .val (.int pe), .val (.ref b84), .val (.ref bS), .val (.ref bD), .val (.int (1 : Int32)), .val (.int (0 : Int32)), .unset, .unset] [(.int (1 : Int32))])
        refine Done.go (fun _ kt_ => XS.iload X116h.here hx rfl (hb hby at_119) rfl kt_) ?_
        show Done p e s below _ _ _ T116 (mkF m 121 #[.val (.int p0), .val (.int p1), .val (.int p2), .val (.int p3), .val (.int p4), .val (.int pa), .val (.int pb), .val (.int pb), .val (.int pe), .val (.ref b84), .val (.ref bS), .val (.ref bD), .val (.int (1 : Int32)), .val (.int (0 : Int32)), .unset, .unset] [(.int (1 : Int32)), (.int (1 : Int32))])
        refine Done.go (fun _ kt_ => XS.ifNo X116h.here hx rfl (hb hby at_121) rfl ((if0 _ _).trans (feq (by decide)).1) kt_) ?_
        show Done p e s below _ _ _ T116 (mkF m 124 #[.val (.int p0), .val (.int p1), .val (.int p2), .val (.int p3), .val (.int p4), .val (.int pa), .val (.int pb), .val (.int pb), .val (.int pe), .val (.ref b84), .val (.ref bS), .val (.ref bD), .val (.int (1 : Int32)), .val (.int (0 : Int32)), .unset, .unset] [(.int (1 : Int32))])
        refine Done.go (fun _ kt_ => XS.iconst X116h.here hx rfl (hb hby at_124) kt_) ?_
        show Done p e s below _ _ _ T116 (mkF m 125 #[.val (.int p0), .val (.int p1), .val (.int p2), .val (.int p3), .val (.int p4), .val (.int pa), .val (.int pb), .val (.int pb), .val (.int pe), .val (.ref b84), .val (.ref bS), .val (.ref bD), .val (.int (1 : Int32)), .val (.int (0 : Int32)), .unset, .unset] [(.int (1 : Int32)), (.int (1 : Int32))])
        refine Done.go (fun _ kt_ => XS.goto X116h.here hx rfl (pc0 := 125) (pc' := 129) rfl (hb hby at_125) (by decide) (by decide) kt_) ?_
        show Done p e s below _ _ _ T116 (mkF m 129 #[.val (.int p0), .val (.int p1), .val (.int p2), .val (.int p3), .val (.int p4), .val (.int pa), .val (.int pb), .val (.int pb), .val (.int pe), .val (.ref b84), .val (.ref bS), .val (.ref bD), .val (.int (1 : Int32)), .val (.int (0 : Int32)), .unset, .unset] [(.int (1 : Int32)), (.int (1 : Int32))])
        refine Done.go (fun _ kt_ => XS.iadd X116h.here hx rfl (hb hby at_129) rfl kt_) ?_
        show Done p e s below _ _ _ T116 (mkF m 130 #[.val (.int p0), .val (.int p1), .val (.int p2), .val (.int p3), .val (.int p4), .val (.int pa), .val (.int pb), .val (.int pb), .val (.int pe), .val (.ref b84), .val (.ref bS), .val (.ref bD), .val (.int (1 : Int32)), .val (.int (0 : Int32)), .unset, .unset] [(.int ((1 : Int32) + (1 : Int32)))])
        rw [show ((1 : Int32) + (1 : Int32)) = (2 : Int32) from by decide]
        show Done p e s below _ _ _ T116 (mkF m 130 #[.val (.int p0), .val (.int p1), .val (.int p2), .val (.int p3), .val (.int p4), .val (.int pa), .val (.int pb), .val (.int pb), .val (.int pe), .val (.ref b84), .val (.ref bS), .val (.ref bD), .val (.int (1 : Int32)), .val (.int (0 : Int32)), .unset, .unset] [(.int (2 : Int32))])
        refine Done.go (fun _ kt_ => XS.iload X116h.here hx rfl (hb hby at_130) rfl kt_) ?_
        show Done p e s below _ _ _ T116 (mkF m 132 #[.val (.int p0), .val (.int p1), .val (.int p2), .val (.int p3), .val (.int p4), .val (.int pa), .val (.int pb), .val (.int pb), .val (.int pe), .val (.ref b84), .val (.ref bS), .val (.ref bD), .val (.int (1 : Int32)), .val (.int (0 : Int32)), .unset, .unset] [(.int (0 : Int32)), (.int (2 : Int32))])
        refine Done.go (fun _ kt_ => XS.ifYes X116h.here hx rfl (pc0 := 132) (pc' := 139) rfl (hb hby at_132) rfl ((if0 _ _).trans (teq (by decide)).1) (by decide) (by decide) kt_) ?_
        show Done p e s below _ _ _ T116 (mkF m 139 #[.val (.int p0), .val (.int p1), .val (.int p2), .val (.int p3), .val (.int p4), .val (.int pa), .val (.int pb), .val (.int pb), .val (.int pe), .val (.ref b84), .val (.ref bS), .val (.ref bD), .val (.int (1 : Int32)), .val (.int (0 : Int32)), .unset, .unset] [(.int (2 : Int32))])
        refine Done.go (fun _ kt_ => XS.iconst X116h.here hx rfl (hb hby at_139) kt_) ?_
        show Done p e s below _ _ _ T116 (mkF m 140 #[.val (.int p0), .val (.int p1), .val (.int p2), .val (.int p3), .val (.int p4), .val (.int pa), .val (.int pb), .val (.int pb), .val (.int pe), .val (.ref b84), .val (.ref bS), .val (.ref bD), .val (.int (1 : Int32)), .val (.int (0 : Int32)), .unset, .unset] [(.int (0 : Int32)), (.int (2 : Int32))])
        refine Done.go (fun _ kt_ => XS.iadd X116h.here hx rfl (hb hby at_140) rfl kt_) ?_
        show Done p e s below _ _ _ T116 (mkF m 141 #[.val (.int p0), .val (.int p1), .val (.int p2), .val (.int p3), .val (.int p4), .val (.int pa), .val (.int pb), .val (.int pb), .val (.int pe), .val (.ref b84), .val (.ref bS), .val (.ref bD), .val (.int (1 : Int32)), .val (.int (0 : Int32)), .unset, .unset] [(.int ((2 : Int32) + (0 : Int32)))])
        rw [show ((2 : Int32) + (0 : Int32)) = (2 : Int32) from by decide]
        show Done p e s below _ _ _ T116 (mkF m 141 #[.val (.int p0), .val (.int p1), .val (.int p2), .val (.int p3), .val (.int p4), .val (.int pa), .val (.int pb), .val (.int pb), .val (.int pe), .val (.ref b84), .val (.ref bS), .val (.ref bD), .val (.int (1 : Int32)), .val (.int (0 : Int32)), .unset, .unset] [(.int (2 : Int32))])
        refine Done.go (fun _ kt_ => XS.istore X116h.here hx rfl (hb hby at_141) rfl (l' := #[.val (.int p0), .val (.int p1), .val (.int p2), .val (.int p3), .val (.int p4), .val (.int pa), .val (.int pb), .val (.int pb), .val (.int pe), .val (.ref b84), .val (.ref bS), .val (.ref bD), .val (.int (1 : Int32)), .val (.int (0 : Int32)), .val (.int (2 : Int32)), .unset]) rfl kt_) ?_
        show Done p e s below _ _ _ T116 (mkF m 143 #[.val (.int p0), .val (.int p1), .val (.int p2), .val (.int p3), .val (.int p4), .val (.int pa), .val (.int pb), .val (.int pb), .val (.int pe), .val (.ref b84), .val (.ref bS), .val (.ref bD), .val (.int (1 : Int32)), .val (.int (0 : Int32)), .val (.int (2 : Int32)), .unset] [])
        refine Done.go (fun _ kt_ => XS.aload X116h.here hx rfl (hb hby at_143) rfl rfl kt_) ?_
        show Done p e s below _ _ _ T116 (mkF m 145 #[.val (.int p0), .val (.int p1), .val (.int p2), .val (.int p3), .val (.int p4), .val (.int pa), .val (.int pb), .val (.int pb), .val (.int pe), .val (.ref b84), .val (.ref bS), .val (.ref bD), .val (.int (1 : Int32)), .val (.int (0 : Int32)), .val (.int (2 : Int32)), .unset] [(.ref b84)])
        obtain ⟨cq117, kq117, q117a, q117b, q117c⟩ := isOf hZ rfl E116
        obtain ⟨v117, T117, Lc117, X117, hQ117, st117⟩ := own_backV (X116h.virtualBack hx (y := (⟨"com/example/pivotwise/pivotwise/retrieval/Scores", "count", "()I"⟩ : MethodName)) (z := (⟨"com/example/pivotwise/pivotwise/retrieval/Scores", "count", "()I"⟩ : MethodName)) hown (mvT hZ (hw _ (List.mem_of_getElem? (i := 41) rfl))) (mvT hZ (hw _ (List.mem_of_getElem? (i := 42) rfl))) (notFace_of_selects (args := #[]) (mvT hZ (hw _ (List.mem_of_getElem? (i := 44) rfl)))) (mvT hZ (hw _ (List.mem_of_getElem? (i := 44) rfl))) (mvT hZ (hw _ (List.mem_of_getElem? (i := 43) rfl))) (by decide) (backOf (W := 0) (rm7 l Z a0 hw [] b84 (2 : Int32) T116.heap n0 Z116 Fcount116) hZ (hw _ (List.mem_of_getElem? (i := 45) rfl)) (hw _ (List.mem_of_getElem? (i := 2) rfl)) (by decide) (by decide)) q117a q117c (g := (mkF m 145 #[.val (.int p0), .val (.int p1), .val (.int p2), .val (.int p3), .val (.int p4), .val (.int pa), .val (.int pb), .val (.int pb), .val (.int pe), .val (.ref b84), .val (.ref bS), .val (.ref bD), .val (.int (1 : Int32)), .val (.int (0 : Int32)), .val (.int (2 : Int32)), .unset] [(.ref b84)])) rfl (by rw [hml]; rfl) (Steps.refl _) (argsL := []) (rest := []) (lenOf own_pd5 rfl) rfl (by show 2 * 0 + _ ≤ _; exact Nat.le_of_eq rfl) (hb hby at_145) (fun _ _ => ⟨rfl, rfl, (by first | decide | omega : 4 + 0 ≤ _), (by first | decide | omega : 17 + 0 ≤ _)⟩))
        obtain ⟨rfl, N117q, e117⟩ := hQ117
        refine Done.go st117 ?_
        clear st117
        have N117 := Fr.app N116h N117q
        clear N117q
        obtain ⟨Lh117, X117h, N117h⟩ : ∃ L, Stand p l e room_1 s m #[(.int p0), (.int p1), (.int p2), (.int p3), (.int p4)] below meth c T117 L 4 17 ∧ Fr n0 L := ⟨_, X117, N117⟩
        clear X117 N117 X116h N116h
        show Done p e s below _ _ _ T117 (mkF m 148 #[.val (.int p0), .val (.int p1), .val (.int p2), .val (.int p3), .val (.int p4), .val (.int pa), .val (.int pb), .val (.int pb), .val (.int pe), .val (.ref b84), .val (.ref bS), .val (.ref bD), .val (.int (1 : Int32)), .val (.int (0 : Int32)), .val (.int (2 : Int32)), .unset] [(.int (2 : Int32))])
        refine Done.go (fun _ kt_ => XS.iload X117h.here hx rfl (hb hby at_148) rfl kt_) ?_
        show Done p e s below _ _ _ T117 (mkF m 150 #[.val (.int p0), .val (.int p1), .val (.int p2), .val (.int p3), .val (.int p4), .val (.int pa), .val (.int pb), .val (.int pb), .val (.int pe), .val (.ref b84), .val (.ref bS), .val (.ref bD), .val (.int (1 : Int32)), .val (.int (0 : Int32)), .val (.int (2 : Int32)), .unset] [(.int (2 : Int32)), (.int (2 : Int32))])
        refine Done.go (fun _ kt_ => XS.icmpNo X117h.here hx rfl (hb hby at_150) rfl (teq (by decide)).2 kt_) ?_
        show Done p e s below _ _ _ T117 (mkF m 153 #[.val (.int p0), .val (.int p1), .val (.int p2), .val (.int p3), .val (.int p4), .val (.int pa), .val (.int pb), .val (.int pb), .val (.int pe), .val (.ref b84), .val (.ref bS), .val (.ref bD), .val (.int (1 : Int32)), .val (.int (0 : Int32)), .val (.int (2 : Int32)), .unset] [])
        refine Done.go (fun _ kt_ => XS.aload X117h.here hx rfl (hb hby at_153) rfl rfl kt_) ?_
        show Done p e s below _ _ _ T117 (mkF m 155 #[.val (.int p0), .val (.int p1), .val (.int p2), .val (.int p3), .val (.int p4), .val (.int pa), .val (.int pb), .val (.int pb), .val (.int pe), .val (.ref b84), .val (.ref bS), .val (.ref bD), .val (.int (1 : Int32)), .val (.int (0 : Int32)), .val (.int (2 : Int32)), .unset] [(.ref bS)])
        refine Done.go (fun _ kt_ => XS.iconst X117h.here hx rfl (hb hby at_155) kt_) ?_
        show Done p e s below _ _ _ T117 (mkF m 156 #[.val (.int p0), .val (.int p1), .val (.int p2), .val (.int p3), .val (.int p4), .val (.int pa), .val (.int pb), .val (.int pb), .val (.int pe), .val (.ref b84), .val (.ref bS), .val (.ref bD), .val (.int (1 : Int32)), .val (.int (0 : Int32)), .val (.int (2 : Int32)), .unset] [(.int (0 : Int32)), (.ref bS)])
        refine Done.ldI X117h hx hZ e117 VS116 (j := (0 : Int32)) (w := pa) 0 (by decide) rfl (by decide) rfl (hb hby at_156) ?_
        show Done p e s below _ _ _ T117 (mkF m 157 #[.val (.int p0), .val (.int p1), .val (.int p2), .val (.int p3), .val (.int p4), .val (.int pa), .val (.int pb), .val (.int pb), .val (.int pe), .val (.ref b84), .val (.ref bS), .val (.ref bD), .val (.int (1 : Int32)), .val (.int (0 : Int32)), .val (.int (2 : Int32)), .unset] [(.int pa)])
        refine Done.go (fun _ kt_ => XS.iload X117h.here hx rfl (hb hby at_157) rfl kt_) ?_
        show Done p e s below _ _ _ T117 (mkF m 159 #[.val (.int p0), .val (.int p1), .val (.int p2), .val (.int p3), .val (.int p4), .val (.int pa), .val (.int pb), .val (.int pb), .val (.int pe), .val (.ref b84), .val (.ref bS), .val (.ref bD), .val (.int (1 : Int32)), .val (.int (0 : Int32)), .val (.int (2 : Int32)), .unset] [(.int pa), (.int pa)])
        refine Done.go (fun _ kt_ => XS.icmpNo X117h.here hx rfl (hb hby at_159) rfl (teq rfl).2 kt_) ?_
        show Done p e s below _ _ _ T117 (mkF m 162 #[.val (.int p0), .val (.int p1), .val (.int p2), .val (.int p3), .val (.int p4), .val (.int pa), .val (.int pb), .val (.int pb), .val (.int pe), .val (.ref b84), .val (.ref bS), .val (.ref bD), .val (.int (1 : Int32)), .val (.int (0 : Int32)), .val (.int (2 : Int32)), .unset] [])
        refine Done.go (fun _ kt_ => XS.iconst X117h.here hx rfl (hb hby at_162) kt_) ?_
        show Done p e s below _ _ _ T117 (mkF m 163 #[.val (.int p0), .val (.int p1), .val (.int p2), .val (.int p3), .val (.int p4), .val (.int pa), .val (.int pb), .val (.int pb), .val (.int pe), .val (.ref b84), .val (.ref bS), .val (.ref bD), .val (.int (1 : Int32)), .val (.int (0 : Int32)), .val (.int (2 : Int32)), .unset] [(.int (1 : Int32))])
        refine Done.go (fun _ kt_ => XS.goto X117h.here hx rfl (pc0 := 163) (pc' := 167) rfl (hb hby at_163) (by decide) (by decide) kt_) ?_
        show Done p e s below _ _ _ T117 (mkF m 167 #[.val (.int p0), .val (.int p1), .val (.int p2), .val (.int p3), .val (.int p4), .val (.int pa), .val (.int pb), .val (.int pb), .val (.int pe), .val (.ref b84), .val (.ref bS), .val (.ref bD), .val (.int (1 : Int32)), .val (.int (0 : Int32)), .val (.int (2 : Int32)), .unset] [(.int (1 : Int32))])
        refine Done.go (fun _ kt_ => XS.istore X117h.here hx rfl (hb hby at_167) rfl (l' := #[.val (.int p0), .val (.int p1), .val (.int p2), .val (.int p3), .val (.int p4), .val (.int pa), .val (.int pb), .val (.int pb), .val (.int pe), .val (.ref b84), .val (.ref bS), .val (.ref bD), .val (.int (1 : Int32)), .val (.int (0 : Int32)), .val (.int (2 : Int32)), .val (.int (1 : Int32))]) rfl kt_) ?_
        show Done p e s below _ _ _ T117 (mkF m 169 #[.val (.int p0), .val (.int p1), .val (.int p2), .val (.int p3), .val (.int p4), .val (.int pa), .val (.int pb), .val (.int pb), .val (.int pe), .val (.ref b84), .val (.ref bS), .val (.ref bD), .val (.int (1 : Int32)), .val (.int (0 : Int32)), .val (.int (2 : Int32)), .val (.int (1 : Int32))] [])
        refine Done.go (fun _ kt_ => XS.iload X117h.here hx rfl (hb hby at_169) rfl kt_) ?_
        show Done p e s below _ _ _ T117 (mkF m 171 #[.val (.int p0), .val (.int p1), .val (.int p2), .val (.int p3), .val (.int p4), .val (.int pa), .val (.int pb), .val (.int pb), .val (.int pe), .val (.ref b84), .val (.ref bS), .val (.ref bD), .val (.int (1 : Int32)), .val (.int (0 : Int32)), .val (.int (2 : Int32)), .val (.int (1 : Int32))] [(.int (2 : Int32))])
        refine Done.go (fun _ kt_ => XS.iconst X117h.here hx rfl (hb hby at_171) kt_) ?_
        show Done p e s below _ _ _ T117 (mkF m 172 #[.val (.int p0), .val (.int p1), .val (.int p2), .val (.int p3), .val (.int p4), .val (.int pa), .val (.int pb), .val (.int pb), .val (.int pe), .val (.ref b84), .val (.ref bS), .val (.ref bD), .val (.int (1 : Int32)), .val (.int (0 : Int32)), .val (.int (2 : Int32)), .val (.int (1 : Int32))] [(.int (2 : Int32)), (.int (2 : Int32))])
        refine Done.go (fun _ kt_ => XS.icmpNo X117h.here hx rfl (hb hby at_172) rfl (flt (by decide)).1 kt_) ?_
        show Done p e s below _ _ _ T117 (mkF m 175 #[.val (.int p0), .val (.int p1), .val (.int p2), .val (.int p3), .val (.int p4), .val (.int pa), .val (.int pb), .val (.int pb), .val (.int pe), .val (.ref b84), .val (.ref bS), .val (.ref bD), .val (.int (1 : Int32)), .val (.int (0 : Int32)), .val (.int (2 : Int32)), .val (.int (1 : Int32))] [])
        refine Done.go (fun _ kt_ => XS.iload X117h.here hx rfl (hb hby at_175) rfl kt_) ?_
        show Done p e s below _ _ _ T117 (mkF m 177 #[.val (.int p0), .val (.int p1), .val (.int p2), .val (.int p3), .val (.int p4), .val (.int pa), .val (.int pb), .val (.int pb), .val (.int pe), .val (.ref b84), .val (.ref bS), .val (.ref bD), .val (.int (1 : Int32)), .val (.int (0 : Int32)), .val (.int (2 : Int32)), .val (.int (1 : Int32))] [(.int (1 : Int32))])
        refine Done.go (fun _ kt_ => XS.ifNo X117h.here hx rfl (hb hby at_177) rfl ((if0 _ _).trans (feq (by decide)).1) kt_) ?_
        show Done p e s below _ _ _ T117 (mkF m 180 #[.val (.int p0), .val (.int p1), .val (.int p2), .val (.int p3), .val (.int p4), .val (.int pa), .val (.int pb), .val (.int pb), .val (.int pe), .val (.ref b84), .val (.ref bS), .val (.ref bD), .val (.int (1 : Int32)), .val (.int (0 : Int32)), .val (.int (2 : Int32)), .val (.int (1 : Int32))] [])
        refine Done.go (fun _ kt_ => XS.aload X117h.here hx rfl (hb hby at_180) rfl rfl kt_) ?_
        show Done p e s below _ _ _ T117 (mkF m 182 #[.val (.int p0), .val (.int p1), .val (.int p2), .val (.int p3), .val (.int p4), .val (.int pa), .val (.int pb), .val (.int pb), .val (.int pe), .val (.ref b84), .val (.ref bS), .val (.ref bD), .val (.int (1 : Int32)), .val (.int (0 : Int32)), .val (.int (2 : Int32)), .val (.int (1 : Int32))] [(.ref bS)])
        refine Done.go (fun _ kt_ => XS.iconst X117h.here hx rfl (hb hby at_182) kt_) ?_
        show Done p e s below _ _ _ T117 (mkF m 183 #[.val (.int p0), .val (.int p1), .val (.int p2), .val (.int p3), .val (.int p4), .val (.int pa), .val (.int pb), .val (.int pb), .val (.int pe), .val (.ref b84), .val (.ref bS), .val (.ref bD), .val (.int (1 : Int32)), .val (.int (0 : Int32)), .val (.int (2 : Int32)), .val (.int (1 : Int32))] [(.int (1 : Int32)), (.ref bS)])
        refine Done.ldI X117h hx hZ e117 VS116 (j := (1 : Int32)) (w := pb) 1 (by decide) rfl (by decide) rfl (hb hby at_183) ?_
        show Done p e s below _ _ _ T117 (mkF m 184 #[.val (.int p0), .val (.int p1), .val (.int p2), .val (.int p3), .val (.int p4), .val (.int pa), .val (.int pb), .val (.int pb), .val (.int pe), .val (.ref b84), .val (.ref bS), .val (.ref bD), .val (.int (1 : Int32)), .val (.int (0 : Int32)), .val (.int (2 : Int32)), .val (.int (1 : Int32))] [(.int pb)])
        refine Done.go (fun _ kt_ => XS.iload X117h.here hx rfl (hb hby at_184) rfl kt_) ?_
        show Done p e s below _ _ _ T117 (mkF m 186 #[.val (.int p0), .val (.int p1), .val (.int p2), .val (.int p3), .val (.int p4), .val (.int pa), .val (.int pb), .val (.int pb), .val (.int pe), .val (.ref b84), .val (.ref bS), .val (.ref bD), .val (.int (1 : Int32)), .val (.int (0 : Int32)), .val (.int (2 : Int32)), .val (.int (1 : Int32))] [(.int (1 : Int32)), (.int pb)])
        refine Done.go (fun _ kt_ => XS.ifNo X117h.here hx rfl (hb hby at_186) rfl ((if0 _ _).trans (feq (by decide)).1) kt_) ?_
        show Done p e s below _ _ _ T117 (mkF m 189 #[.val (.int p0), .val (.int p1), .val (.int p2), .val (.int p3), .val (.int p4), .val (.int pa), .val (.int pb), .val (.int pb), .val (.int pe), .val (.ref b84), .val (.ref bS), .val (.ref bD), .val (.int (1 : Int32)), .val (.int (0 : Int32)), .val (.int (2 : Int32)), .val (.int (1 : Int32))] [(.int pb)])
        refine Done.go (fun _ kt_ => XS.iload X117h.here hx rfl (hb hby at_189) rfl kt_) ?_
        show Done p e s below _ _ _ T117 (mkF m 191 #[.val (.int p0), .val (.int p1), .val (.int p2), .val (.int p3), .val (.int p4), .val (.int pa), .val (.int pb), .val (.int pb), .val (.int pe), .val (.ref b84), .val (.ref bS), .val (.ref bD), .val (.int (1 : Int32)), .val (.int (0 : Int32)), .val (.int (2 : Int32)), .val (.int (1 : Int32))] [(.int pb), (.int pb)])
        refine Done.go (fun _ kt_ => XS.goto X117h.here hx rfl (pc0 := 191) (pc' := 196) rfl (hb hby at_191) (by decide) (by decide) kt_) ?_
        show Done p e s below _ _ _ T117 (mkF m 196 #[.val (.int p0), .val (.int p1), .val (.int p2), .val (.int p3), .val (.int p4), .val (.int pa), .val (.int pb), .val (.int pb), .val (.int pe), .val (.ref b84), .val (.ref bS), .val (.ref bD), .val (.int (1 : Int32)), .val (.int (0 : Int32)), .val (.int (2 : Int32)), .val (.int (1 : Int32))] [(.int pb), (.int pb)])
        refine Done.go (fun _ kt_ => XS.icmpNo X117h.here hx rfl (hb hby at_196) rfl (teq rfl).2 kt_) ?_
        show Done p e s below _ _ _ T117 (mkF m 199 #[.val (.int p0), .val (.int p1), .val (.int p2), .val (.int p3), .val (.int p4), .val (.int pa), .val (.int pb), .val (.int pb), .val (.int pe), .val (.ref b84), .val (.ref bS), .val (.ref bD), .val (.int (1 : Int32)), .val (.int (0 : Int32)), .val (.int (2 : Int32)), .val (.int (1 : Int32))] [])
        refine Done.go (fun _ kt_ => XS.iconst X117h.here hx rfl (hb hby at_199) kt_) ?_
        show Done p e s below _ _ _ T117 (mkF m 200 #[.val (.int p0), .val (.int p1), .val (.int p2), .val (.int p3), .val (.int p4), .val (.int pa), .val (.int pb), .val (.int pb), .val (.int pe), .val (.ref b84), .val (.ref bS), .val (.ref bD), .val (.int (1 : Int32)), .val (.int (0 : Int32)), .val (.int (2 : Int32)), .val (.int (1 : Int32))] [(.int (1 : Int32))])
        refine Done.go (fun _ kt_ => XS.goto X117h.here hx rfl (pc0 := 200) (pc' := 204) rfl (hb hby at_200) (by decide) (by decide) kt_) ?_
        show Done p e s below _ _ _ T117 (mkF m 204 #[.val (.int p0), .val (.int p1), .val (.int p2), .val (.int p3), .val (.int p4), .val (.int pa), .val (.int pb), .val (.int pb), .val (.int pe), .val (.ref b84), .val (.ref bS), .val (.ref bD), .val (.int (1 : Int32)), .val (.int (0 : Int32)), .val (.int (2 : Int32)), .val (.int (1 : Int32))] [(.int (1 : Int32))])
        refine Done.go (fun _ kt_ => XS.istore X117h.here hx rfl (hb hby at_204) rfl (l' := #[.val (.int p0), .val (.int p1), .val (.int p2), .val (.int p3), .val (.int p4), .val (.int pa), .val (.int pb), .val (.int pb), .val (.int pe), .val (.ref b84), .val (.ref bS), .val (.ref bD), .val (.int (1 : Int32)), .val (.int (0 : Int32)), .val (.int (2 : Int32)), .val (.int (1 : Int32))]) rfl kt_) ?_
        show Done p e s below _ _ _ T117 (mkF m 206 #[.val (.int p0), .val (.int p1), .val (.int p2), .val (.int p3), .val (.int p4), .val (.int pa), .val (.int pb), .val (.int pb), .val (.int pe), .val (.ref b84), .val (.ref bS), .val (.ref bD), .val (.int (1 : Int32)), .val (.int (0 : Int32)), .val (.int (2 : Int32)), .val (.int (1 : Int32))] [])
        refine Done.go (fun _ kt_ => XS.iload X117h.here hx rfl (hb hby at_206) rfl kt_) ?_
        show Done p e s below _ _ _ T117 (mkF m 208 #[.val (.int p0), .val (.int p1), .val (.int p2), .val (.int p3), .val (.int p4), .val (.int pa), .val (.int pb), .val (.int pb), .val (.int pe), .val (.ref b84), .val (.ref bS), .val (.ref bD), .val (.int (1 : Int32)), .val (.int (0 : Int32)), .val (.int (2 : Int32)), .val (.int (1 : Int32))] [(.int (2 : Int32))])
        refine Done.go (fun _ kt_ => XS.iconst X117h.here hx rfl (hb hby at_208) kt_) ?_
        show Done p e s below _ _ _ T117 (mkF m 209 #[.val (.int p0), .val (.int p1), .val (.int p2), .val (.int p3), .val (.int p4), .val (.int pa), .val (.int pb), .val (.int pb), .val (.int pe), .val (.ref b84), .val (.ref bS), .val (.ref bD), .val (.int (1 : Int32)), .val (.int (0 : Int32)), .val (.int (2 : Int32)), .val (.int (1 : Int32))] [(.int (3 : Int32)), (.int (2 : Int32))])
        refine Done.go (fun _ kt_ => XS.icmpYes X117h.here hx rfl (pc0 := 209) (pc' := 233) rfl (hb hby at_209) rfl (feq (by decide)).2 (by decide) (by decide) kt_) ?_
        show Done p e s below _ _ _ T117 (mkF m 233 #[.val (.int p0), .val (.int p1), .val (.int p2), .val (.int p3), .val (.int p4), .val (.int pa), .val (.int pb), .val (.int pb), .val (.int pe), .val (.ref b84), .val (.ref bS), .val (.ref bD), .val (.int (1 : Int32)), .val (.int (0 : Int32)), .val (.int (2 : Int32)), .val (.int (1 : Int32))] [])
        refine Done.go (fun _ kt_ => XS.iload X117h.here hx rfl (hb hby at_233) rfl kt_) ?_
        show Done p e s below _ _ _ T117 (mkF m 235 #[.val (.int p0), .val (.int p1), .val (.int p2), .val (.int p3), .val (.int p4), .val (.int pa), .val (.int pb), .val (.int pb), .val (.int pe), .val (.ref b84), .val (.ref bS), .val (.ref bD), .val (.int (1 : Int32)), .val (.int (0 : Int32)), .val (.int (2 : Int32)), .val (.int (1 : Int32))] [(.int (1 : Int32))])
        refine Done.go (fun _ kt_ => XS.ifNo X117h.here hx rfl (hb hby at_235) rfl ((if0 _ _).trans (feq (by decide)).1) kt_) ?_
        show Done p e s below _ _ _ T117 (mkF m 238 #[.val (.int p0), .val (.int p1), .val (.int p2), .val (.int p3), .val (.int p4), .val (.int pa), .val (.int pb), .val (.int pb), .val (.int pe), .val (.ref b84), .val (.ref bS), .val (.ref bD), .val (.int (1 : Int32)), .val (.int (0 : Int32)), .val (.int (2 : Int32)), .val (.int (1 : Int32))] [])
        refine Done.go (fun _ kt_ => XS.aload X117h.here hx rfl (hb hby at_238) rfl rfl kt_) ?_
        show Done p e s below _ _ _ T117 (mkF m 240 #[.val (.int p0), .val (.int p1), .val (.int p2), .val (.int p3), .val (.int p4), .val (.int pa), .val (.int pb), .val (.int pb), .val (.int pe), .val (.ref b84), .val (.ref bS), .val (.ref bD), .val (.int (1 : Int32)), .val (.int (0 : Int32)), .val (.int (2 : Int32)), .val (.int (1 : Int32))] [(.ref bD)])
        refine Done.go (fun _ kt_ => XS.iload X117h.here hx rfl (hb hby at_240) rfl kt_) ?_
        show Done p e s below _ _ _ T117 (mkF m 242 #[.val (.int p0), .val (.int p1), .val (.int p2), .val (.int p3), .val (.int p4), .val (.int pa), .val (.int pb), .val (.int pb), .val (.int pe), .val (.ref b84), .val (.ref bS), .val (.ref bD), .val (.int (1 : Int32)), .val (.int (0 : Int32)), .val (.int (2 : Int32)), .val (.int (1 : Int32))] [(.int pa), (.ref bD)])
        refine Done.ldD X117h hx hZ e117 VD116 (j := pa) (y := ((0 : Int64) + (p1.toInt64))) A (own_ix hA).1 (own_ix hA).2 hA4 (by simp [own_u, n_AB, n_BA, n_ACc, n_CcA]) (hb hby at_242) ?_
        show Done p e s below _ _ _ T117 (mkF m 243 #[.val (.int p0), .val (.int p1), .val (.int p2), .val (.int p3), .val (.int p4), .val (.int pa), .val (.int pb), .val (.int pb), .val (.int pe), .val (.ref b84), .val (.ref bS), .val (.ref bD), .val (.int (1 : Int32)), .val (.int (0 : Int32)), .val (.int (2 : Int32)), .val (.int (1 : Int32))] [(.double (FP.l2d ((0 : Int64) + (p1.toInt64))))])
        refine Done.go (fun _ kt_ => XS.iload X117h.here hx rfl (hb hby at_243) rfl kt_) ?_
        show Done p e s below _ _ _ T117 (mkF m 245 #[.val (.int p0), .val (.int p1), .val (.int p2), .val (.int p3), .val (.int p4), .val (.int pa), .val (.int pb), .val (.int pb), .val (.int pe), .val (.ref b84), .val (.ref bS), .val (.ref bD), .val (.int (1 : Int32)), .val (.int (0 : Int32)), .val (.int (2 : Int32)), .val (.int (1 : Int32))] [(.int pa), (.double (FP.l2d ((0 : Int64) + (p1.toInt64))))])
        refine Done.go (fun _ kt_ => XS.iload X117h.here hx rfl (hb hby at_245) rfl kt_) ?_
        show Done p e s below _ _ _ T117 (mkF m 247 #[.val (.int p0), .val (.int p1), .val (.int p2), .val (.int p3), .val (.int p4), .val (.int pa), .val (.int pb), .val (.int pb), .val (.int pe), .val (.ref b84), .val (.ref bS), .val (.ref bD), .val (.int (1 : Int32)), .val (.int (0 : Int32)), .val (.int (2 : Int32)), .val (.int (1 : Int32))] [(.int pa), (.int pa), (.double (FP.l2d ((0 : Int64) + (p1.toInt64))))])
        refine Done.go (fun _ kt_ => XS.iload X117h.here hx rfl (hb hby at_247) rfl kt_) ?_
        show Done p e s below _ _ _ T117 (mkF m 249 #[.val (.int p0), .val (.int p1), .val (.int p2), .val (.int p3), .val (.int p4), .val (.int pa), .val (.int pb), .val (.int pb), .val (.int pe), .val (.ref b84), .val (.ref bS), .val (.ref bD), .val (.int (1 : Int32)), .val (.int (0 : Int32)), .val (.int (2 : Int32)), .val (.int (1 : Int32))] [(.int pb), (.int pa), (.int pa), (.double (FP.l2d ((0 : Int64) + (p1.toInt64))))])
        refine Done.go (fun _ kt_ => XS.iload X117h.here hx rfl (hb hby at_249) rfl kt_) ?_
        show Done p e s below _ _ _ T117 (mkF m 251 #[.val (.int p0), .val (.int p1), .val (.int p2), .val (.int p3), .val (.int p4), .val (.int pa), .val (.int pb), .val (.int pb), .val (.int pe), .val (.ref b84), .val (.ref bS), .val (.ref bD), .val (.int (1 : Int32)), .val (.int (0 : Int32)), .val (.int (2 : Int32)), .val (.int (1 : Int32))] [(.int pb), (.int pb), (.int pa), (.int pa), (.double (FP.l2d ((0 : Int64) + (p1.toInt64))))])
        refine Done.go (fun _ kt_ => XS.iloadN X117h.here hx rfl (hb hby at_251) rfl kt_) ?_
        show Done p e s below _ _ _ T117 (mkF m 252 #[.val (.int p0), .val (.int p1), .val (.int p2), .val (.int p3), .val (.int p4), .val (.int pa), .val (.int pb), .val (.int pb), .val (.int pe), .val (.ref b84), .val (.ref bS), .val (.ref bD), .val (.int (1 : Int32)), .val (.int (0 : Int32)), .val (.int (2 : Int32)), .val (.int (1 : Int32))] [(.int p1), (.int pb), (.int pb), (.int pa), (.int pa), (.double (FP.l2d ((0 : Int64) + (p1.toInt64))))])
        refine Done.go (fun _ kt_ => XS.iloadN X117h.here hx rfl (hb hby at_252) rfl kt_) ?_
        show Done p e s below _ _ _ T117 (mkF m 253 #[.val (.int p0), .val (.int p1), .val (.int p2), .val (.int p3), .val (.int p4), .val (.int pa), .val (.int pb), .val (.int pb), .val (.int pe), .val (.ref b84), .val (.ref bS), .val (.ref bD), .val (.int (1 : Int32)), .val (.int (0 : Int32)), .val (.int (2 : Int32)), .val (.int (1 : Int32))] [(.int p2), (.int p1), (.int pb), (.int pb), (.int pa), (.int pa), (.double (FP.l2d ((0 : Int64) + (p1.toInt64))))])
        refine Done.go (fun _ kt_ => XS.iloadN X117h.here hx rfl (hb hby at_253) rfl kt_) ?_
        show Done p e s below _ _ _ T117 (mkF m 254 #[.val (.int p0), .val (.int p1), .val (.int p2), .val (.int p3), .val (.int p4), .val (.int pa), .val (.int pb), .val (.int pb), .val (.int pe), .val (.ref b84), .val (.ref bS), .val (.ref bD), .val (.int (1 : Int32)), .val (.int (0 : Int32)), .val (.int (2 : Int32)), .val (.int (1 : Int32))] [(.int p3), (.int p2), (.int p1), (.int pb), (.int pb), (.int pa), (.int pa), (.double (FP.l2d ((0 : Int64) + (p1.toInt64))))])
        obtain ⟨v118, T118, Lc118, X118, hQ118, st118⟩ := own_backG (Jvm.LawKit.callS X117h hx (y := (⟨"com/example/pivotwise/pivotwise/retrieval/ScoresAddPinLaw", "sum", "(IIIIIII)D"⟩ : MethodName)) hown (mvT hZ (hw _ (List.mem_of_getElem? (i := 46) rfl))) (mvT hZ (hw _ (List.mem_of_getElem? (i := 47) rfl))) (mvT hZ (hw _ (List.mem_of_getElem? (i := 48) rfl))) (mvT hZ (hw _ (List.mem_of_getElem? (i := 49) rfl))) (by decide) (backOf (W := 2) (rm8 l Z a0 hw [] pa pa pb pb p1 p2 p3 T116.heap n0 Z116) hZ (hw _ (List.mem_of_getElem? (i := 49) rfl)) (hw _ (List.mem_of_getElem? (i := 48) rfl)) (by decide) (by decide)) (g := (mkF m 254 #[.val (.int p0), .val (.int p1), .val (.int p2), .val (.int p3), .val (.int p4), .val (.int pa), .val (.int pb), .val (.int pb), .val (.int pe), .val (.ref b84), .val (.ref bS), .val (.ref bD), .val (.int (1 : Int32)), .val (.int (0 : Int32)), .val (.int (2 : Int32)), .val (.int (1 : Int32))] [(.int p3), (.int p2), (.int p1), (.int pb), (.int pb), (.int pa), (.int pa), (.double (FP.l2d ((0 : Int64) + (p1.toInt64))))])) rfl (by rw [hml]; rfl) (argsL := [(.int pa), (.int pa), (.int pb), (.int pb), (.int p1), (.int p2), (.int p3)]) (rest := [(.double (FP.l2d ((0 : Int64) + (p1.toInt64))))]) (lenOf own_pd6 rfl) rfl (by show 2 * 0 + _ ≤ _; exact Nat.le_of_eq rfl) (hb hby at_254) (fun _ _ => ⟨rfl, e117, (by first | decide | omega : 4 + 0 ≤ _), (by first | decide | omega : 17 + 0 ≤ _)⟩))
        obtain ⟨rfl, N118q, e118⟩ := hQ118
        refine Done.go st118 ?_
        clear st118
        have N118 := Fr.app N117h N118q
        clear N118q
        obtain ⟨Lh118, X118h, N118h⟩ : ∃ L, Stand p l e room_1 s m #[(.int p0), (.int p1), (.int p2), (.int p3), (.int p4)] below meth c T118 L 4 17 ∧ Fr n0 L := ⟨_, X118, N118⟩
        clear X118 N118 X117h e117 N117h
        show Done p e s below _ _ _ T118 (mkF m 257 #[.val (.int p0), .val (.int p1), .val (.int p2), .val (.int p3), .val (.int p4), .val (.int pa), .val (.int pb), .val (.int pb), .val (.int pe), .val (.ref b84), .val (.ref bS), .val (.ref bD), .val (.int (1 : Int32)), .val (.int (0 : Int32)), .val (.int (2 : Int32)), .val (.int (1 : Int32))] [(.double (FP.l2d (own_sum pa pa pb pb p1 p2 p3))), (.double (FP.l2d ((0 : Int64) + (p1.toInt64))))])
        refine Done.go (fun _ kt_ => XS.dcmpS X118h.here hx rfl (hb hby at_257) rfl (dcmpV_w (own_leB (own_leA own_le0 (by decide) p1) (by decide)) (own_leB (own_leT _ _ _ _ _ _ _) (by decide)) _) kt_) ?_
        show Done p e s below _ _ _ T118 (mkF m 258 #[.val (.int p0), .val (.int p1), .val (.int p2), .val (.int p3), .val (.int p4), .val (.int pa), .val (.int pb), .val (.int pb), .val (.int pe), .val (.ref b84), .val (.ref bS), .val (.ref bD), .val (.int (1 : Int32)), .val (.int (0 : Int32)), .val (.int (2 : Int32)), .val (.int (1 : Int32))] [(.int (lcmpW ((0 : Int64) + (p1.toInt64)) (own_sum pa pa pb pb p1 p2 p3)))])
        refine Done.go (fun _ kt_ => XS.ifNo X118h.here hx rfl (hb hby at_258) rfl ((if0 _ _).trans (teq ((lw_eq _ _).mpr (by simp only [own_sum, own_s1, i_papb, i_pbpa, i_papc, i_pcpa, if_true, if_false]))).2) kt_) ?_
        show Done p e s below _ _ _ T118 (mkF m 261 #[.val (.int p0), .val (.int p1), .val (.int p2), .val (.int p3), .val (.int p4), .val (.int pa), .val (.int pb), .val (.int pb), .val (.int pe), .val (.ref b84), .val (.ref bS), .val (.ref bD), .val (.int (1 : Int32)), .val (.int (0 : Int32)), .val (.int (2 : Int32)), .val (.int (1 : Int32))] [])
        refine Done.go (fun _ kt_ => XS.iconst X118h.here hx rfl (hb hby at_261) kt_) ?_
        show Done p e s below _ _ _ T118 (mkF m 262 #[.val (.int p0), .val (.int p1), .val (.int p2), .val (.int p3), .val (.int p4), .val (.int pa), .val (.int pb), .val (.int pb), .val (.int pe), .val (.ref b84), .val (.ref bS), .val (.ref bD), .val (.int (1 : Int32)), .val (.int (0 : Int32)), .val (.int (2 : Int32)), .val (.int (1 : Int32))] [(.int (1 : Int32))])
        refine Done.go (fun _ kt_ => XS.goto X118h.here hx rfl (pc0 := 262) (pc' := 266) rfl (hb hby at_262) (by decide) (by decide) kt_) ?_
        show Done p e s below _ _ _ T118 (mkF m 266 #[.val (.int p0), .val (.int p1), .val (.int p2), .val (.int p3), .val (.int p4), .val (.int pa), .val (.int pb), .val (.int pb), .val (.int pe), .val (.ref b84), .val (.ref bS), .val (.ref bD), .val (.int (1 : Int32)), .val (.int (0 : Int32)), .val (.int (2 : Int32)), .val (.int (1 : Int32))] [(.int (1 : Int32))])
        refine Done.go (fun _ kt_ => XS.istore X118h.here hx rfl (hb hby at_266) rfl (l' := #[.val (.int p0), .val (.int p1), .val (.int p2), .val (.int p3), .val (.int p4), .val (.int pa), .val (.int pb), .val (.int pb), .val (.int pe), .val (.ref b84), .val (.ref bS), .val (.ref bD), .val (.int (1 : Int32)), .val (.int (0 : Int32)), .val (.int (2 : Int32)), .val (.int (1 : Int32))]) rfl kt_) ?_
        show Done p e s below _ _ _ T118 (mkF m 268 #[.val (.int p0), .val (.int p1), .val (.int p2), .val (.int p3), .val (.int p4), .val (.int pa), .val (.int pb), .val (.int pb), .val (.int pe), .val (.ref b84), .val (.ref bS), .val (.ref bD), .val (.int (1 : Int32)), .val (.int (0 : Int32)), .val (.int (2 : Int32)), .val (.int (1 : Int32))] [])
        refine Done.go (fun _ kt_ => XS.iload X118h.here hx rfl (hb hby at_268) rfl kt_) ?_
        show Done p e s below _ _ _ T118 (mkF m 270 #[.val (.int p0), .val (.int p1), .val (.int p2), .val (.int p3), .val (.int p4), .val (.int pa), .val (.int pb), .val (.int pb), .val (.int pe), .val (.ref b84), .val (.ref bS), .val (.ref bD), .val (.int (1 : Int32)), .val (.int (0 : Int32)), .val (.int (2 : Int32)), .val (.int (1 : Int32))] [(.int (1 : Int32))])
        refine Done.go (fun _ kt_ => XS.ifNo X118h.here hx rfl (hb hby at_270) rfl ((if0 _ _).trans (feq (by decide)).1) kt_) ?_
        show Done p e s below _ _ _ T118 (mkF m 273 #[.val (.int p0), .val (.int p1), .val (.int p2), .val (.int p3), .val (.int p4), .val (.int pa), .val (.int pb), .val (.int pb), .val (.int pe), .val (.ref b84), .val (.ref bS), .val (.ref bD), .val (.int (1 : Int32)), .val (.int (0 : Int32)), .val (.int (2 : Int32)), .val (.int (1 : Int32))] [])
        refine Done.go (fun _ kt_ => XS.aload X118h.here hx rfl (hb hby at_273) rfl rfl kt_) ?_
        show Done p e s below _ _ _ T118 (mkF m 275 #[.val (.int p0), .val (.int p1), .val (.int p2), .val (.int p3), .val (.int p4), .val (.int pa), .val (.int pb), .val (.int pb), .val (.int pe), .val (.ref b84), .val (.ref bS), .val (.ref bD), .val (.int (1 : Int32)), .val (.int (0 : Int32)), .val (.int (2 : Int32)), .val (.int (1 : Int32))] [(.ref bD)])
        refine Done.go (fun _ kt_ => XS.iload X118h.here hx rfl (hb hby at_275) rfl kt_) ?_
        show Done p e s below _ _ _ T118 (mkF m 277 #[.val (.int p0), .val (.int p1), .val (.int p2), .val (.int p3), .val (.int p4), .val (.int pa), .val (.int pb), .val (.int pb), .val (.int pe), .val (.ref b84), .val (.ref bS), .val (.ref bD), .val (.int (1 : Int32)), .val (.int (0 : Int32)), .val (.int (2 : Int32)), .val (.int (1 : Int32))] [(.int pb), (.ref bD)])
        refine Done.ldD X118h hx hZ e118 VD116 (j := pb) (y := (((0 : Int64) + (p2.toInt64)) + (p3.toInt64))) B (own_ix hB).1 (own_ix hB).2 hB4 (by simp [own_u, n_AB, n_BA, n_ACc, n_CcA]) (hb hby at_277) ?_
        show Done p e s below _ _ _ T118 (mkF m 278 #[.val (.int p0), .val (.int p1), .val (.int p2), .val (.int p3), .val (.int p4), .val (.int pa), .val (.int pb), .val (.int pb), .val (.int pe), .val (.ref b84), .val (.ref bS), .val (.ref bD), .val (.int (1 : Int32)), .val (.int (0 : Int32)), .val (.int (2 : Int32)), .val (.int (1 : Int32))] [(.double (FP.l2d (((0 : Int64) + (p2.toInt64)) + (p3.toInt64))))])
        refine Done.go (fun _ kt_ => XS.iload X118h.here hx rfl (hb hby at_278) rfl kt_) ?_
        show Done p e s below _ _ _ T118 (mkF m 280 #[.val (.int p0), .val (.int p1), .val (.int p2), .val (.int p3), .val (.int p4), .val (.int pa), .val (.int pb), .val (.int pb), .val (.int pe), .val (.ref b84), .val (.ref bS), .val (.ref bD), .val (.int (1 : Int32)), .val (.int (0 : Int32)), .val (.int (2 : Int32)), .val (.int (1 : Int32))] [(.int pb), (.double (FP.l2d (((0 : Int64) + (p2.toInt64)) + (p3.toInt64))))])
        refine Done.go (fun _ kt_ => XS.iload X118h.here hx rfl (hb hby at_280) rfl kt_) ?_
        show Done p e s below _ _ _ T118 (mkF m 282 #[.val (.int p0), .val (.int p1), .val (.int p2), .val (.int p3), .val (.int p4), .val (.int pa), .val (.int pb), .val (.int pb), .val (.int pe), .val (.ref b84), .val (.ref bS), .val (.ref bD), .val (.int (1 : Int32)), .val (.int (0 : Int32)), .val (.int (2 : Int32)), .val (.int (1 : Int32))] [(.int pa), (.int pb), (.double (FP.l2d (((0 : Int64) + (p2.toInt64)) + (p3.toInt64))))])
        refine Done.go (fun _ kt_ => XS.iload X118h.here hx rfl (hb hby at_282) rfl kt_) ?_
        show Done p e s below _ _ _ T118 (mkF m 284 #[.val (.int p0), .val (.int p1), .val (.int p2), .val (.int p3), .val (.int p4), .val (.int pa), .val (.int pb), .val (.int pb), .val (.int pe), .val (.ref b84), .val (.ref bS), .val (.ref bD), .val (.int (1 : Int32)), .val (.int (0 : Int32)), .val (.int (2 : Int32)), .val (.int (1 : Int32))] [(.int pb), (.int pa), (.int pb), (.double (FP.l2d (((0 : Int64) + (p2.toInt64)) + (p3.toInt64))))])
        refine Done.go (fun _ kt_ => XS.iload X118h.here hx rfl (hb hby at_284) rfl kt_) ?_
        show Done p e s below _ _ _ T118 (mkF m 286 #[.val (.int p0), .val (.int p1), .val (.int p2), .val (.int p3), .val (.int p4), .val (.int pa), .val (.int pb), .val (.int pb), .val (.int pe), .val (.ref b84), .val (.ref bS), .val (.ref bD), .val (.int (1 : Int32)), .val (.int (0 : Int32)), .val (.int (2 : Int32)), .val (.int (1 : Int32))] [(.int pb), (.int pb), (.int pa), (.int pb), (.double (FP.l2d (((0 : Int64) + (p2.toInt64)) + (p3.toInt64))))])
        refine Done.go (fun _ kt_ => XS.iloadN X118h.here hx rfl (hb hby at_286) rfl kt_) ?_
        show Done p e s below _ _ _ T118 (mkF m 287 #[.val (.int p0), .val (.int p1), .val (.int p2), .val (.int p3), .val (.int p4), .val (.int pa), .val (.int pb), .val (.int pb), .val (.int pe), .val (.ref b84), .val (.ref bS), .val (.ref bD), .val (.int (1 : Int32)), .val (.int (0 : Int32)), .val (.int (2 : Int32)), .val (.int (1 : Int32))] [(.int p1), (.int pb), (.int pb), (.int pa), (.int pb), (.double (FP.l2d (((0 : Int64) + (p2.toInt64)) + (p3.toInt64))))])
        refine Done.go (fun _ kt_ => XS.iloadN X118h.here hx rfl (hb hby at_287) rfl kt_) ?_
        show Done p e s below _ _ _ T118 (mkF m 288 #[.val (.int p0), .val (.int p1), .val (.int p2), .val (.int p3), .val (.int p4), .val (.int pa), .val (.int pb), .val (.int pb), .val (.int pe), .val (.ref b84), .val (.ref bS), .val (.ref bD), .val (.int (1 : Int32)), .val (.int (0 : Int32)), .val (.int (2 : Int32)), .val (.int (1 : Int32))] [(.int p2), (.int p1), (.int pb), (.int pb), (.int pa), (.int pb), (.double (FP.l2d (((0 : Int64) + (p2.toInt64)) + (p3.toInt64))))])
        refine Done.go (fun _ kt_ => XS.iloadN X118h.here hx rfl (hb hby at_288) rfl kt_) ?_
        show Done p e s below _ _ _ T118 (mkF m 289 #[.val (.int p0), .val (.int p1), .val (.int p2), .val (.int p3), .val (.int p4), .val (.int pa), .val (.int pb), .val (.int pb), .val (.int pe), .val (.ref b84), .val (.ref bS), .val (.ref bD), .val (.int (1 : Int32)), .val (.int (0 : Int32)), .val (.int (2 : Int32)), .val (.int (1 : Int32))] [(.int p3), (.int p2), (.int p1), (.int pb), (.int pb), (.int pa), (.int pb), (.double (FP.l2d (((0 : Int64) + (p2.toInt64)) + (p3.toInt64))))])
        obtain ⟨v119, T119, Lc119, X119, hQ119, st119⟩ := own_backG (Jvm.LawKit.callS X118h hx (y := (⟨"com/example/pivotwise/pivotwise/retrieval/ScoresAddPinLaw", "sum", "(IIIIIII)D"⟩ : MethodName)) hown (mvT hZ (hw _ (List.mem_of_getElem? (i := 46) rfl))) (mvT hZ (hw _ (List.mem_of_getElem? (i := 47) rfl))) (mvT hZ (hw _ (List.mem_of_getElem? (i := 48) rfl))) (mvT hZ (hw _ (List.mem_of_getElem? (i := 49) rfl))) (by decide) (backOf (W := 2) (rm8 l Z a0 hw [] pb pa pb pb p1 p2 p3 T116.heap n0 Z116) hZ (hw _ (List.mem_of_getElem? (i := 49) rfl)) (hw _ (List.mem_of_getElem? (i := 48) rfl)) (by decide) (by decide)) (g := (mkF m 289 #[.val (.int p0), .val (.int p1), .val (.int p2), .val (.int p3), .val (.int p4), .val (.int pa), .val (.int pb), .val (.int pb), .val (.int pe), .val (.ref b84), .val (.ref bS), .val (.ref bD), .val (.int (1 : Int32)), .val (.int (0 : Int32)), .val (.int (2 : Int32)), .val (.int (1 : Int32))] [(.int p3), (.int p2), (.int p1), (.int pb), (.int pb), (.int pa), (.int pb), (.double (FP.l2d (((0 : Int64) + (p2.toInt64)) + (p3.toInt64))))])) rfl (by rw [hml]; rfl) (argsL := [(.int pb), (.int pa), (.int pb), (.int pb), (.int p1), (.int p2), (.int p3)]) (rest := [(.double (FP.l2d (((0 : Int64) + (p2.toInt64)) + (p3.toInt64))))]) (lenOf own_pd6 rfl) rfl (by show 2 * 0 + _ ≤ _; exact Nat.le_of_eq rfl) (hb hby at_289) (fun _ _ => ⟨rfl, e118, (by first | decide | omega : 4 + 0 ≤ _), (by first | decide | omega : 17 + 0 ≤ _)⟩))
        obtain ⟨rfl, N119q, e119⟩ := hQ119
        refine Done.go st119 ?_
        clear st119
        have N119 := Fr.app N118h N119q
        clear N119q
        obtain ⟨Lh119, X119h, N119h⟩ : ∃ L, Stand p l e room_1 s m #[(.int p0), (.int p1), (.int p2), (.int p3), (.int p4)] below meth c T119 L 4 17 ∧ Fr n0 L := ⟨_, X119, N119⟩
        clear X119 N119 X118h e118 N118h
        show Done p e s below _ _ _ T119 (mkF m 292 #[.val (.int p0), .val (.int p1), .val (.int p2), .val (.int p3), .val (.int p4), .val (.int pa), .val (.int pb), .val (.int pb), .val (.int pe), .val (.ref b84), .val (.ref bS), .val (.ref bD), .val (.int (1 : Int32)), .val (.int (0 : Int32)), .val (.int (2 : Int32)), .val (.int (1 : Int32))] [(.double (FP.l2d (own_sum pb pa pb pb p1 p2 p3))), (.double (FP.l2d (((0 : Int64) + (p2.toInt64)) + (p3.toInt64))))])
        refine Done.go (fun _ kt_ => XS.dcmpS X119h.here hx rfl (hb hby at_292) rfl (dcmpV_w (own_leB (own_leA (own_leA own_le0 (by decide) p2) (by decide) p3) (by decide)) (own_leB (own_leT _ _ _ _ _ _ _) (by decide)) _) kt_) ?_
        show Done p e s below _ _ _ T119 (mkF m 293 #[.val (.int p0), .val (.int p1), .val (.int p2), .val (.int p3), .val (.int p4), .val (.int pa), .val (.int pb), .val (.int pb), .val (.int pe), .val (.ref b84), .val (.ref bS), .val (.ref bD), .val (.int (1 : Int32)), .val (.int (0 : Int32)), .val (.int (2 : Int32)), .val (.int (1 : Int32))] [(.int (lcmpW (((0 : Int64) + (p2.toInt64)) + (p3.toInt64)) (own_sum pb pa pb pb p1 p2 p3)))])
        refine Done.go (fun _ kt_ => XS.ifNo X119h.here hx rfl (hb hby at_293) rfl ((if0 _ _).trans (teq ((lw_eq _ _).mpr (by simp only [own_sum, own_s1, i_papb, i_pbpa, i_papc, i_pcpa, if_true, if_false]))).2) kt_) ?_
        show Done p e s below _ _ _ T119 (mkF m 296 #[.val (.int p0), .val (.int p1), .val (.int p2), .val (.int p3), .val (.int p4), .val (.int pa), .val (.int pb), .val (.int pb), .val (.int pe), .val (.ref b84), .val (.ref bS), .val (.ref bD), .val (.int (1 : Int32)), .val (.int (0 : Int32)), .val (.int (2 : Int32)), .val (.int (1 : Int32))] [])
        refine Done.go (fun _ kt_ => XS.iconst X119h.here hx rfl (hb hby at_296) kt_) ?_
        show Done p e s below _ _ _ T119 (mkF m 297 #[.val (.int p0), .val (.int p1), .val (.int p2), .val (.int p3), .val (.int p4), .val (.int pa), .val (.int pb), .val (.int pb), .val (.int pe), .val (.ref b84), .val (.ref bS), .val (.ref bD), .val (.int (1 : Int32)), .val (.int (0 : Int32)), .val (.int (2 : Int32)), .val (.int (1 : Int32))] [(.int (1 : Int32))])
        refine Done.go (fun _ kt_ => XS.goto X119h.here hx rfl (pc0 := 297) (pc' := 301) rfl (hb hby at_297) (by decide) (by decide) kt_) ?_
        show Done p e s below _ _ _ T119 (mkF m 301 #[.val (.int p0), .val (.int p1), .val (.int p2), .val (.int p3), .val (.int p4), .val (.int pa), .val (.int pb), .val (.int pb), .val (.int pe), .val (.ref b84), .val (.ref bS), .val (.ref bD), .val (.int (1 : Int32)), .val (.int (0 : Int32)), .val (.int (2 : Int32)), .val (.int (1 : Int32))] [(.int (1 : Int32))])
        refine Done.go (fun _ kt_ => XS.istore X119h.here hx rfl (hb hby at_301) rfl (l' := #[.val (.int p0), .val (.int p1), .val (.int p2), .val (.int p3), .val (.int p4), .val (.int pa), .val (.int pb), .val (.int pb), .val (.int pe), .val (.ref b84), .val (.ref bS), .val (.ref bD), .val (.int (1 : Int32)), .val (.int (0 : Int32)), .val (.int (2 : Int32)), .val (.int (1 : Int32))]) rfl kt_) ?_
        show Done p e s below _ _ _ T119 (mkF m 303 #[.val (.int p0), .val (.int p1), .val (.int p2), .val (.int p3), .val (.int p4), .val (.int pa), .val (.int pb), .val (.int pb), .val (.int pe), .val (.ref b84), .val (.ref bS), .val (.ref bD), .val (.int (1 : Int32)), .val (.int (0 : Int32)), .val (.int (2 : Int32)), .val (.int (1 : Int32))] [])
        refine Done.go (fun _ kt_ => XS.iload X119h.here hx rfl (hb hby at_303) rfl kt_) ?_
        show Done p e s below _ _ _ T119 (mkF m 305 #[.val (.int p0), .val (.int p1), .val (.int p2), .val (.int p3), .val (.int p4), .val (.int pa), .val (.int pb), .val (.int pb), .val (.int pe), .val (.ref b84), .val (.ref bS), .val (.ref bD), .val (.int (1 : Int32)), .val (.int (0 : Int32)), .val (.int (2 : Int32)), .val (.int (1 : Int32))] [(.int (1 : Int32))])
        refine Done.go (fun _ kt_ => XS.ifNo X119h.here hx rfl (hb hby at_305) rfl ((if0 _ _).trans (feq (by decide)).1) kt_) ?_
        show Done p e s below _ _ _ T119 (mkF m 308 #[.val (.int p0), .val (.int p1), .val (.int p2), .val (.int p3), .val (.int p4), .val (.int pa), .val (.int pb), .val (.int pb), .val (.int pe), .val (.ref b84), .val (.ref bS), .val (.ref bD), .val (.int (1 : Int32)), .val (.int (0 : Int32)), .val (.int (2 : Int32)), .val (.int (1 : Int32))] [])
        refine Done.go (fun _ kt_ => XS.aload X119h.here hx rfl (hb hby at_308) rfl rfl kt_) ?_
        show Done p e s below _ _ _ T119 (mkF m 310 #[.val (.int p0), .val (.int p1), .val (.int p2), .val (.int p3), .val (.int p4), .val (.int pa), .val (.int pb), .val (.int pb), .val (.int pe), .val (.ref b84), .val (.ref bS), .val (.ref bD), .val (.int (1 : Int32)), .val (.int (0 : Int32)), .val (.int (2 : Int32)), .val (.int (1 : Int32))] [(.ref bD)])
        refine Done.go (fun _ kt_ => XS.iload X119h.here hx rfl (hb hby at_310) rfl kt_) ?_
        show Done p e s below _ _ _ T119 (mkF m 312 #[.val (.int p0), .val (.int p1), .val (.int p2), .val (.int p3), .val (.int p4), .val (.int pa), .val (.int pb), .val (.int pb), .val (.int pe), .val (.ref b84), .val (.ref bS), .val (.ref bD), .val (.int (1 : Int32)), .val (.int (0 : Int32)), .val (.int (2 : Int32)), .val (.int (1 : Int32))] [(.int pb), (.ref bD)])
        refine Done.ldD X119h hx hZ e119 VD116 (j := pb) (y := (((0 : Int64) + (p2.toInt64)) + (p3.toInt64))) B (own_ix hB).1 (own_ix hB).2 hB4 (by simp [own_u, n_AB, n_BA, n_ACc, n_CcA]) (hb hby at_312) ?_
        show Done p e s below _ _ _ T119 (mkF m 313 #[.val (.int p0), .val (.int p1), .val (.int p2), .val (.int p3), .val (.int p4), .val (.int pa), .val (.int pb), .val (.int pb), .val (.int pe), .val (.ref b84), .val (.ref bS), .val (.ref bD), .val (.int (1 : Int32)), .val (.int (0 : Int32)), .val (.int (2 : Int32)), .val (.int (1 : Int32))] [(.double (FP.l2d (((0 : Int64) + (p2.toInt64)) + (p3.toInt64))))])
        refine Done.go (fun _ kt_ => XS.iload X119h.here hx rfl (hb hby at_313) rfl kt_) ?_
        show Done p e s below _ _ _ T119 (mkF m 315 #[.val (.int p0), .val (.int p1), .val (.int p2), .val (.int p3), .val (.int p4), .val (.int pa), .val (.int pb), .val (.int pb), .val (.int pe), .val (.ref b84), .val (.ref bS), .val (.ref bD), .val (.int (1 : Int32)), .val (.int (0 : Int32)), .val (.int (2 : Int32)), .val (.int (1 : Int32))] [(.int pb), (.double (FP.l2d (((0 : Int64) + (p2.toInt64)) + (p3.toInt64))))])
        refine Done.go (fun _ kt_ => XS.iload X119h.here hx rfl (hb hby at_315) rfl kt_) ?_
        show Done p e s below _ _ _ T119 (mkF m 317 #[.val (.int p0), .val (.int p1), .val (.int p2), .val (.int p3), .val (.int p4), .val (.int pa), .val (.int pb), .val (.int pb), .val (.int pe), .val (.ref b84), .val (.ref bS), .val (.ref bD), .val (.int (1 : Int32)), .val (.int (0 : Int32)), .val (.int (2 : Int32)), .val (.int (1 : Int32))] [(.int pa), (.int pb), (.double (FP.l2d (((0 : Int64) + (p2.toInt64)) + (p3.toInt64))))])
        refine Done.go (fun _ kt_ => XS.iload X119h.here hx rfl (hb hby at_317) rfl kt_) ?_
        show Done p e s below _ _ _ T119 (mkF m 319 #[.val (.int p0), .val (.int p1), .val (.int p2), .val (.int p3), .val (.int p4), .val (.int pa), .val (.int pb), .val (.int pb), .val (.int pe), .val (.ref b84), .val (.ref bS), .val (.ref bD), .val (.int (1 : Int32)), .val (.int (0 : Int32)), .val (.int (2 : Int32)), .val (.int (1 : Int32))] [(.int pb), (.int pa), (.int pb), (.double (FP.l2d (((0 : Int64) + (p2.toInt64)) + (p3.toInt64))))])
        refine Done.go (fun _ kt_ => XS.iload X119h.here hx rfl (hb hby at_319) rfl kt_) ?_
        show Done p e s below _ _ _ T119 (mkF m 321 #[.val (.int p0), .val (.int p1), .val (.int p2), .val (.int p3), .val (.int p4), .val (.int pa), .val (.int pb), .val (.int pb), .val (.int pe), .val (.ref b84), .val (.ref bS), .val (.ref bD), .val (.int (1 : Int32)), .val (.int (0 : Int32)), .val (.int (2 : Int32)), .val (.int (1 : Int32))] [(.int pb), (.int pb), (.int pa), (.int pb), (.double (FP.l2d (((0 : Int64) + (p2.toInt64)) + (p3.toInt64))))])
        refine Done.go (fun _ kt_ => XS.iloadN X119h.here hx rfl (hb hby at_321) rfl kt_) ?_
        show Done p e s below _ _ _ T119 (mkF m 322 #[.val (.int p0), .val (.int p1), .val (.int p2), .val (.int p3), .val (.int p4), .val (.int pa), .val (.int pb), .val (.int pb), .val (.int pe), .val (.ref b84), .val (.ref bS), .val (.ref bD), .val (.int (1 : Int32)), .val (.int (0 : Int32)), .val (.int (2 : Int32)), .val (.int (1 : Int32))] [(.int p1), (.int pb), (.int pb), (.int pa), (.int pb), (.double (FP.l2d (((0 : Int64) + (p2.toInt64)) + (p3.toInt64))))])
        refine Done.go (fun _ kt_ => XS.iloadN X119h.here hx rfl (hb hby at_322) rfl kt_) ?_
        show Done p e s below _ _ _ T119 (mkF m 323 #[.val (.int p0), .val (.int p1), .val (.int p2), .val (.int p3), .val (.int p4), .val (.int pa), .val (.int pb), .val (.int pb), .val (.int pe), .val (.ref b84), .val (.ref bS), .val (.ref bD), .val (.int (1 : Int32)), .val (.int (0 : Int32)), .val (.int (2 : Int32)), .val (.int (1 : Int32))] [(.int p2), (.int p1), (.int pb), (.int pb), (.int pa), (.int pb), (.double (FP.l2d (((0 : Int64) + (p2.toInt64)) + (p3.toInt64))))])
        refine Done.go (fun _ kt_ => XS.iloadN X119h.here hx rfl (hb hby at_323) rfl kt_) ?_
        show Done p e s below _ _ _ T119 (mkF m 324 #[.val (.int p0), .val (.int p1), .val (.int p2), .val (.int p3), .val (.int p4), .val (.int pa), .val (.int pb), .val (.int pb), .val (.int pe), .val (.ref b84), .val (.ref bS), .val (.ref bD), .val (.int (1 : Int32)), .val (.int (0 : Int32)), .val (.int (2 : Int32)), .val (.int (1 : Int32))] [(.int p3), (.int p2), (.int p1), (.int pb), (.int pb), (.int pa), (.int pb), (.double (FP.l2d (((0 : Int64) + (p2.toInt64)) + (p3.toInt64))))])
        obtain ⟨v120, T120, Lc120, X120, hQ120, st120⟩ := own_backG (Jvm.LawKit.callS X119h hx (y := (⟨"com/example/pivotwise/pivotwise/retrieval/ScoresAddPinLaw", "sum", "(IIIIIII)D"⟩ : MethodName)) hown (mvT hZ (hw _ (List.mem_of_getElem? (i := 46) rfl))) (mvT hZ (hw _ (List.mem_of_getElem? (i := 47) rfl))) (mvT hZ (hw _ (List.mem_of_getElem? (i := 48) rfl))) (mvT hZ (hw _ (List.mem_of_getElem? (i := 49) rfl))) (by decide) (backOf (W := 2) (rm8 l Z a0 hw [] pb pa pb pb p1 p2 p3 T116.heap n0 Z116) hZ (hw _ (List.mem_of_getElem? (i := 49) rfl)) (hw _ (List.mem_of_getElem? (i := 48) rfl)) (by decide) (by decide)) (g := (mkF m 324 #[.val (.int p0), .val (.int p1), .val (.int p2), .val (.int p3), .val (.int p4), .val (.int pa), .val (.int pb), .val (.int pb), .val (.int pe), .val (.ref b84), .val (.ref bS), .val (.ref bD), .val (.int (1 : Int32)), .val (.int (0 : Int32)), .val (.int (2 : Int32)), .val (.int (1 : Int32))] [(.int p3), (.int p2), (.int p1), (.int pb), (.int pb), (.int pa), (.int pb), (.double (FP.l2d (((0 : Int64) + (p2.toInt64)) + (p3.toInt64))))])) rfl (by rw [hml]; rfl) (argsL := [(.int pb), (.int pa), (.int pb), (.int pb), (.int p1), (.int p2), (.int p3)]) (rest := [(.double (FP.l2d (((0 : Int64) + (p2.toInt64)) + (p3.toInt64))))]) (lenOf own_pd6 rfl) rfl (by show 2 * 0 + _ ≤ _; exact Nat.le_of_eq rfl) (hb hby at_324) (fun _ _ => ⟨rfl, e119, (by first | decide | omega : 4 + 0 ≤ _), (by first | decide | omega : 17 + 0 ≤ _)⟩))
        obtain ⟨rfl, N120q, e120⟩ := hQ120
        refine Done.go st120 ?_
        clear st120
        have N120 := Fr.app N119h N120q
        clear N120q
        obtain ⟨Lh120, X120h, N120h⟩ : ∃ L, Stand p l e room_1 s m #[(.int p0), (.int p1), (.int p2), (.int p3), (.int p4)] below meth c T120 L 4 17 ∧ Fr n0 L := ⟨_, X120, N120⟩
        clear X120 N120 X119h e119 N119h
        show Done p e s below _ _ _ T120 (mkF m 327 #[.val (.int p0), .val (.int p1), .val (.int p2), .val (.int p3), .val (.int p4), .val (.int pa), .val (.int pb), .val (.int pb), .val (.int pe), .val (.ref b84), .val (.ref bS), .val (.ref bD), .val (.int (1 : Int32)), .val (.int (0 : Int32)), .val (.int (2 : Int32)), .val (.int (1 : Int32))] [(.double (FP.l2d (own_sum pb pa pb pb p1 p2 p3))), (.double (FP.l2d (((0 : Int64) + (p2.toInt64)) + (p3.toInt64))))])
        refine Done.go (fun _ kt_ => XS.dcmpS X120h.here hx rfl (hb hby at_327) rfl (dcmpV_w (own_leB (own_leA (own_leA own_le0 (by decide) p2) (by decide) p3) (by decide)) (own_leB (own_leT _ _ _ _ _ _ _) (by decide)) _) kt_) ?_
        show Done p e s below _ _ _ T120 (mkF m 328 #[.val (.int p0), .val (.int p1), .val (.int p2), .val (.int p3), .val (.int p4), .val (.int pa), .val (.int pb), .val (.int pb), .val (.int pe), .val (.ref b84), .val (.ref bS), .val (.ref bD), .val (.int (1 : Int32)), .val (.int (0 : Int32)), .val (.int (2 : Int32)), .val (.int (1 : Int32))] [(.int (lcmpW (((0 : Int64) + (p2.toInt64)) + (p3.toInt64)) (own_sum pb pa pb pb p1 p2 p3)))])
        refine Done.go (fun _ kt_ => XS.ifNo X120h.here hx rfl (hb hby at_328) rfl ((if0 _ _).trans (teq ((lw_eq _ _).mpr (by simp only [own_sum, own_s1, i_papb, i_pbpa, i_papc, i_pcpa, if_true, if_false]))).2) kt_) ?_
        show Done p e s below _ _ _ T120 (mkF m 331 #[.val (.int p0), .val (.int p1), .val (.int p2), .val (.int p3), .val (.int p4), .val (.int pa), .val (.int pb), .val (.int pb), .val (.int pe), .val (.ref b84), .val (.ref bS), .val (.ref bD), .val (.int (1 : Int32)), .val (.int (0 : Int32)), .val (.int (2 : Int32)), .val (.int (1 : Int32))] [])
        refine Done.go (fun _ kt_ => XS.iconst X120h.here hx rfl (hb hby at_331) kt_) ?_
        show Done p e s below _ _ _ T120 (mkF m 332 #[.val (.int p0), .val (.int p1), .val (.int p2), .val (.int p3), .val (.int p4), .val (.int pa), .val (.int pb), .val (.int pb), .val (.int pe), .val (.ref b84), .val (.ref bS), .val (.ref bD), .val (.int (1 : Int32)), .val (.int (0 : Int32)), .val (.int (2 : Int32)), .val (.int (1 : Int32))] [(.int (1 : Int32))])
        refine Done.go (fun _ kt_ => XS.goto X120h.here hx rfl (pc0 := 332) (pc' := 336) rfl (hb hby at_332) (by decide) (by decide) kt_) ?_
        show Done p e s below _ _ _ T120 (mkF m 336 #[.val (.int p0), .val (.int p1), .val (.int p2), .val (.int p3), .val (.int p4), .val (.int pa), .val (.int pb), .val (.int pb), .val (.int pe), .val (.ref b84), .val (.ref bS), .val (.ref bD), .val (.int (1 : Int32)), .val (.int (0 : Int32)), .val (.int (2 : Int32)), .val (.int (1 : Int32))] [(.int (1 : Int32))])
        refine Done.go (fun _ kt_ => XS.istore X120h.here hx rfl (hb hby at_336) rfl (l' := #[.val (.int p0), .val (.int p1), .val (.int p2), .val (.int p3), .val (.int p4), .val (.int pa), .val (.int pb), .val (.int pb), .val (.int pe), .val (.ref b84), .val (.ref bS), .val (.ref bD), .val (.int (1 : Int32)), .val (.int (0 : Int32)), .val (.int (2 : Int32)), .val (.int (1 : Int32))]) rfl kt_) ?_
        show Done p e s below _ _ _ T120 (mkF m 338 #[.val (.int p0), .val (.int p1), .val (.int p2), .val (.int p3), .val (.int p4), .val (.int pa), .val (.int pb), .val (.int pb), .val (.int pe), .val (.ref b84), .val (.ref bS), .val (.ref bD), .val (.int (1 : Int32)), .val (.int (0 : Int32)), .val (.int (2 : Int32)), .val (.int (1 : Int32))] [])
        refine Done.go (fun _ kt_ => XS.aload X120h.here hx rfl (hb hby at_338) rfl rfl kt_) ?_
        show Done p e s below _ _ _ T120 (mkF m 340 #[.val (.int p0), .val (.int p1), .val (.int p2), .val (.int p3), .val (.int p4), .val (.int pa), .val (.int pb), .val (.int pb), .val (.int pe), .val (.ref b84), .val (.ref bS), .val (.ref bD), .val (.int (1 : Int32)), .val (.int (0 : Int32)), .val (.int (2 : Int32)), .val (.int (1 : Int32))] [(.ref b84)])
        obtain ⟨cq121, kq121, q121a, q121b, q121c⟩ := isOf hZ e120 E116
        obtain ⟨v121, T121, Lc121, X121, hQ121, st121⟩ := own_backV (X120h.virtualBack hx (y := (⟨"com/example/pivotwise/pivotwise/retrieval/Scores", "start", "()V"⟩ : MethodName)) (z := (⟨"com/example/pivotwise/pivotwise/retrieval/Scores", "start", "()V"⟩ : MethodName)) hown (mvT hZ (hw _ (List.mem_of_getElem? (i := 27) rfl))) (mvT hZ (hw _ (List.mem_of_getElem? (i := 28) rfl))) (notFace_of_selects (args := #[]) (mvT hZ (hw _ (List.mem_of_getElem? (i := 30) rfl)))) (mvT hZ (hw _ (List.mem_of_getElem? (i := 30) rfl))) (mvT hZ (hw _ (List.mem_of_getElem? (i := 29) rfl))) (by decide) (backOf (W := 0) (rm5 l Z a0 hw [] b84 bD bF bS (own_u (own_u (own_u (fun _ => (0 : Int64)) A (0 + (p1.toInt64))) B (0 + (p2.toInt64))) B (((0 : Int64) + (p2.toInt64)) + (p3.toInt64))) (own_u (own_u (fun _ => (0 : Int32)) A (1 : Int32)) B (1 : Int32)) (own_u (own_u (fun _ => (0 : Int32)) 0 pa) 1 pb) (1 : Int32) (2 : Int32) (2 : Int32) T116.heap n0 Z116 ⟨E116, Fscores116, FscoredFor116, Fscored116, Fquery116, Fcount116, VD116, VF116, VS116⟩ hds hgs (by decide)) hZ (hw _ (List.mem_of_getElem? (i := 31) rfl)) (hw _ (List.mem_of_getElem? (i := 2) rfl)) (by decide) (by decide)) q121a q121c (g := (mkF m 340 #[.val (.int p0), .val (.int p1), .val (.int p2), .val (.int p3), .val (.int p4), .val (.int pa), .val (.int pb), .val (.int pb), .val (.int pe), .val (.ref b84), .val (.ref bS), .val (.ref bD), .val (.int (1 : Int32)), .val (.int (0 : Int32)), .val (.int (2 : Int32)), .val (.int (1 : Int32))] [(.ref b84)])) rfl (by rw [hml]; rfl) (Steps.refl _) (argsL := []) (rest := []) (lenOf own_pd3 rfl) rfl (by show 2 * 0 + _ ≤ _; exact Nat.le_of_eq rfl) (hb hby at_340) (fun _ _ => ⟨rfl, e120, (by first | decide | omega : 4 + 0 ≤ _), (by first | decide | omega : 17 + 0 ≤ _)⟩))
        obtain ⟨rfl, N121q, hs121, P121⟩ := hQ121
        refine Done.go st121 ?_
        clear st121
        have N121 := Fr.app N120h N121q
        clear N121q
        have Z121 : n0 ≤ T121.heap.size := Nat.le_trans Z116 hs121
        obtain ⟨Lh121, X121h, N121h⟩ : ∃ L, Stand p l e room_1 s m #[(.int p0), (.int p1), (.int p2), (.int p3), (.int p4)] below meth c T121 L 4 17 ∧ Fr n0 L := ⟨_, X121, N121⟩
        clear X121 N121 X120h e120 N120h Z116
        obtain ⟨E121, Fscores121, FscoredFor121, Fscored121, Fquery121, Fcount121, VD121, VF121, VS121⟩ := id P121
        show Done p e s below _ _ _ T121 (mkF m 343 #[.val (.int p0), .val (.int p1), .val (.int p2), .val (.int p3), .val (.int p4), .val (.int pa), .val (.int pb), .val (.int pb), .val (.int pe), .val (.ref b84), .val (.ref bS), .val (.ref bD), .val (.int (1 : Int32)), .val (.int (0 : Int32)), .val (.int (2 : Int32)), .val (.int (1 : Int32))] [])
        refine Done.go (fun _ kt_ => XS.aload X121h.here hx rfl (hb hby at_343) rfl rfl kt_) ?_
        show Done p e s below _ _ _ T121 (mkF m 345 #[.val (.int p0), .val (.int p1), .val (.int p2), .val (.int p3), .val (.int p4), .val (.int pa), .val (.int pb), .val (.int pb), .val (.int pe), .val (.ref b84), .val (.ref bS), .val (.ref bD), .val (.int (1 : Int32)), .val (.int (0 : Int32)), .val (.int (2 : Int32)), .val (.int (1 : Int32))] [(.ref b84)])
        refine Done.go (fun _ kt_ => XS.iload X121h.here hx rfl (hb hby at_345) rfl kt_) ?_
        show Done p e s below _ _ _ T121 (mkF m 347 #[.val (.int p0), .val (.int p1), .val (.int p2), .val (.int p3), .val (.int p4), .val (.int pa), .val (.int pb), .val (.int pb), .val (.int pe), .val (.ref b84), .val (.ref bS), .val (.ref bD), .val (.int (1 : Int32)), .val (.int (0 : Int32)), .val (.int (2 : Int32)), .val (.int (1 : Int32))] [(.int pe), (.ref b84)])
        refine Done.go (fun _ kt_ => XS.iload X121h.here hx rfl (hb hby at_347) rfl kt_) ?_
        show Done p e s below _ _ _ T121 (mkF m 349 #[.val (.int p0), .val (.int p1), .val (.int p2), .val (.int p3), .val (.int p4), .val (.int pa), .val (.int pb), .val (.int pb), .val (.int pe), .val (.ref b84), .val (.ref bS), .val (.ref bD), .val (.int (1 : Int32)), .val (.int (0 : Int32)), .val (.int (2 : Int32)), .val (.int (1 : Int32))] [(.int p4), (.int pe), (.ref b84)])
        refine Done.go (fun _ kt_ => XS.i2dS X121h.here hx rfl (hb hby at_349) rfl (i2d_w p4) kt_) ?_
        show Done p e s below _ _ _ T121 (mkF m 350 #[.val (.int p0), .val (.int p1), .val (.int p2), .val (.int p3), .val (.int p4), .val (.int pa), .val (.int pb), .val (.int pb), .val (.int pe), .val (.ref b84), .val (.ref bS), .val (.ref bD), .val (.int (1 : Int32)), .val (.int (0 : Int32)), .val (.int (2 : Int32)), .val (.int (1 : Int32))] [(.double (FP.l2d (p4.toInt64))), (.int pe), (.ref b84)])
        obtain ⟨cq122, kq122, q122a, q122b, q122c⟩ := isOf hZ rfl E121
        obtain ⟨v122, T122, Lc122, X122, hQ122, st122⟩ := own_backV (X121h.virtualBack hx (y := (⟨"com/example/pivotwise/pivotwise/retrieval/Scores", "add", "(ID)V"⟩ : MethodName)) (z := (⟨"com/example/pivotwise/pivotwise/retrieval/Scores", "add", "(ID)V"⟩ : MethodName)) hown (mvT hZ (hw _ (List.mem_of_getElem? (i := 36) rfl))) (mvT hZ (hw _ (List.mem_of_getElem? (i := 37) rfl))) (notFace_of_selects (args := #[]) (mvT hZ (hw _ (List.mem_of_getElem? (i := 39) rfl)))) (mvT hZ (hw _ (List.mem_of_getElem? (i := 39) rfl))) (mvT hZ (hw _ (List.mem_of_getElem? (i := 38) rfl))) (by decide) (backOf (W := 0) (rm6n l Z a0 hw [] b84 bD bF bS pe (p4.toInt64) (own_u (own_u (own_u (fun _ => (0 : Int64)) A (0 + (p1.toInt64))) B (0 + (p2.toInt64))) B (((0 : Int64) + (p2.toInt64)) + (p3.toInt64))) (own_u (own_u (fun _ => (0 : Int32)) A (1 : Int32)) B (1 : Int32)) (own_u (own_u (fun _ => (0 : Int32)) 0 pa) 1 pb) (2 : Int32) (0 : Int32) Ee 0 (1 : Int32) T121.heap n0 Z121 ⟨E121, Fscores121, FscoredFor121, Fscored121, Fquery121, Fcount121, VD121, VF121, VS121⟩ hds hgs hEe hEe4 (own_leB (own_leG _) (by decide)) (by decide) (by decide) (by unfold own_u; (repeat' split) <;> first | decide | (show ¬ ((0 : Int32) = 2); decide)) (by decide)) hZ (hw _ (List.mem_of_getElem? (i := 40) rfl)) (hw _ (List.mem_of_getElem? (i := 2) rfl)) (by decide) (by decide)) q122a q122c (g := (mkF m 350 #[.val (.int p0), .val (.int p1), .val (.int p2), .val (.int p3), .val (.int p4), .val (.int pa), .val (.int pb), .val (.int pb), .val (.int pe), .val (.ref b84), .val (.ref bS), .val (.ref bD), .val (.int (1 : Int32)), .val (.int (0 : Int32)), .val (.int (2 : Int32)), .val (.int (1 : Int32))] [(.double (FP.l2d (p4.toInt64))), (.int pe), (.ref b84)])) rfl (by rw [hml]; rfl) (Steps.refl _) (argsL := [(.int pe), (.double (FP.l2d (p4.toInt64)))]) (rest := []) (lenOf own_pd4 rfl) rfl (by show 2 * 0 + _ ≤ _; exact Nat.le_of_eq rfl) (hb hby at_350) (fun _ _ => ⟨rfl, rfl, (by first | decide | omega : 4 + 0 ≤ _), (by first | decide | omega : 17 + 0 ≤ _)⟩))
        obtain ⟨rfl, N122q, hs122, P122⟩ := hQ122
        refine Done.go st122 ?_
        clear st122
        have N122 := Fr.app N121h N122q
        clear N122q
        have Z122 : n0 ≤ T122.heap.size := Nat.le_trans Z121 hs122
        obtain ⟨Lh122, X122h, N122h⟩ : ∃ L, Stand p l e room_1 s m #[(.int p0), (.int p1), (.int p2), (.int p3), (.int p4)] below meth c T122 L 4 17 ∧ Fr n0 L := ⟨_, X122, N122⟩
        clear X122 N122 X121h N121h Z121
        obtain ⟨E122, Fscores122, FscoredFor122, Fscored122, Fquery122, Fcount122, VD122, VF122, VS122⟩ := id P122
        show Done p e s below _ _ _ T122 (mkF m 353 #[.val (.int p0), .val (.int p1), .val (.int p2), .val (.int p3), .val (.int p4), .val (.int pa), .val (.int pb), .val (.int pb), .val (.int pe), .val (.ref b84), .val (.ref bS), .val (.ref bD), .val (.int (1 : Int32)), .val (.int (0 : Int32)), .val (.int (2 : Int32)), .val (.int (1 : Int32))] [])
        refine Done.go (fun _ kt_ => XS.iload X122h.here hx rfl (hb hby at_353) rfl kt_) ?_
        show Done p e s below _ _ _ T122 (mkF m 355 #[.val (.int p0), .val (.int p1), .val (.int p2), .val (.int p3), .val (.int p4), .val (.int pa), .val (.int pb), .val (.int pb), .val (.int pe), .val (.ref b84), .val (.ref bS), .val (.ref bD), .val (.int (1 : Int32)), .val (.int (0 : Int32)), .val (.int (2 : Int32)), .val (.int (1 : Int32))] [(.int (1 : Int32))])
        refine Done.go (fun _ kt_ => XS.ifNo X122h.here hx rfl (hb hby at_355) rfl ((if0 _ _).trans (feq (by decide)).1) kt_) ?_
        show Done p e s below _ _ _ T122 (mkF m 358 #[.val (.int p0), .val (.int p1), .val (.int p2), .val (.int p3), .val (.int p4), .val (.int pa), .val (.int pb), .val (.int pb), .val (.int pe), .val (.ref b84), .val (.ref bS), .val (.ref bD), .val (.int (1 : Int32)), .val (.int (0 : Int32)), .val (.int (2 : Int32)), .val (.int (1 : Int32))] [])
        refine Done.go (fun _ kt_ => XS.aload X122h.here hx rfl (hb hby at_358) rfl rfl kt_) ?_
        show Done p e s below _ _ _ T122 (mkF m 360 #[.val (.int p0), .val (.int p1), .val (.int p2), .val (.int p3), .val (.int p4), .val (.int pa), .val (.int pb), .val (.int pb), .val (.int pe), .val (.ref b84), .val (.ref bS), .val (.ref bD), .val (.int (1 : Int32)), .val (.int (0 : Int32)), .val (.int (2 : Int32)), .val (.int (1 : Int32))] [(.ref b84)])
        obtain ⟨cq123, kq123, q123a, q123b, q123c⟩ := isOf hZ rfl E122
        obtain ⟨v123, T123, Lc123, X123, hQ123, st123⟩ := own_backV (X122h.virtualBack hx (y := (⟨"com/example/pivotwise/pivotwise/retrieval/Scores", "count", "()I"⟩ : MethodName)) (z := (⟨"com/example/pivotwise/pivotwise/retrieval/Scores", "count", "()I"⟩ : MethodName)) hown (mvT hZ (hw _ (List.mem_of_getElem? (i := 41) rfl))) (mvT hZ (hw _ (List.mem_of_getElem? (i := 42) rfl))) (notFace_of_selects (args := #[]) (mvT hZ (hw _ (List.mem_of_getElem? (i := 44) rfl)))) (mvT hZ (hw _ (List.mem_of_getElem? (i := 44) rfl))) (mvT hZ (hw _ (List.mem_of_getElem? (i := 43) rfl))) (by decide) (backOf (W := 0) (rm7 l Z a0 hw [] b84 (1 : Int32) T122.heap n0 Z122 Fcount122) hZ (hw _ (List.mem_of_getElem? (i := 45) rfl)) (hw _ (List.mem_of_getElem? (i := 2) rfl)) (by decide) (by decide)) q123a q123c (g := (mkF m 360 #[.val (.int p0), .val (.int p1), .val (.int p2), .val (.int p3), .val (.int p4), .val (.int pa), .val (.int pb), .val (.int pb), .val (.int pe), .val (.ref b84), .val (.ref bS), .val (.ref bD), .val (.int (1 : Int32)), .val (.int (0 : Int32)), .val (.int (2 : Int32)), .val (.int (1 : Int32))] [(.ref b84)])) rfl (by rw [hml]; rfl) (Steps.refl _) (argsL := []) (rest := []) (lenOf own_pd5 rfl) rfl (by show 2 * 0 + _ ≤ _; exact Nat.le_of_eq rfl) (hb hby at_360) (fun _ _ => ⟨rfl, rfl, (by first | decide | omega : 4 + 0 ≤ _), (by first | decide | omega : 17 + 0 ≤ _)⟩))
        obtain ⟨rfl, N123q, e123⟩ := hQ123
        refine Done.go st123 ?_
        clear st123
        have N123 := Fr.app N122h N123q
        clear N123q
        obtain ⟨Lh123, X123h, N123h⟩ : ∃ L, Stand p l e room_1 s m #[(.int p0), (.int p1), (.int p2), (.int p3), (.int p4)] below meth c T123 L 4 17 ∧ Fr n0 L := ⟨_, X123, N123⟩
        clear X123 N123 X122h N122h
        show Done p e s below _ _ _ T123 (mkF m 363 #[.val (.int p0), .val (.int p1), .val (.int p2), .val (.int p3), .val (.int p4), .val (.int pa), .val (.int pb), .val (.int pb), .val (.int pe), .val (.ref b84), .val (.ref bS), .val (.ref bD), .val (.int (1 : Int32)), .val (.int (0 : Int32)), .val (.int (2 : Int32)), .val (.int (1 : Int32))] [(.int (1 : Int32))])
        refine Done.go (fun _ kt_ => XS.iconst X123h.here hx rfl (hb hby at_363) kt_) ?_
        show Done p e s below _ _ _ T123 (mkF m 364 #[.val (.int p0), .val (.int p1), .val (.int p2), .val (.int p3), .val (.int p4), .val (.int pa), .val (.int pb), .val (.int pb), .val (.int pe), .val (.ref b84), .val (.ref bS), .val (.ref bD), .val (.int (1 : Int32)), .val (.int (0 : Int32)), .val (.int (2 : Int32)), .val (.int (1 : Int32))] [(.int (1 : Int32)), (.int (1 : Int32))])
        refine Done.go (fun _ kt_ => XS.icmpNo X123h.here hx rfl (hb hby at_364) rfl (teq (by decide)).2 kt_) ?_
        show Done p e s below _ _ _ T123 (mkF m 367 #[.val (.int p0), .val (.int p1), .val (.int p2), .val (.int p3), .val (.int p4), .val (.int pa), .val (.int pb), .val (.int pb), .val (.int pe), .val (.ref b84), .val (.ref bS), .val (.ref bD), .val (.int (1 : Int32)), .val (.int (0 : Int32)), .val (.int (2 : Int32)), .val (.int (1 : Int32))] [])
        refine Done.go (fun _ kt_ => XS.aload X123h.here hx rfl (hb hby at_367) rfl rfl kt_) ?_
        show Done p e s below _ _ _ T123 (mkF m 369 #[.val (.int p0), .val (.int p1), .val (.int p2), .val (.int p3), .val (.int p4), .val (.int pa), .val (.int pb), .val (.int pb), .val (.int pe), .val (.ref b84), .val (.ref bS), .val (.ref bD), .val (.int (1 : Int32)), .val (.int (0 : Int32)), .val (.int (2 : Int32)), .val (.int (1 : Int32))] [(.ref bS)])
        refine Done.go (fun _ kt_ => XS.iconst X123h.here hx rfl (hb hby at_369) kt_) ?_
        show Done p e s below _ _ _ T123 (mkF m 370 #[.val (.int p0), .val (.int p1), .val (.int p2), .val (.int p3), .val (.int p4), .val (.int pa), .val (.int pb), .val (.int pb), .val (.int pe), .val (.ref b84), .val (.ref bS), .val (.ref bD), .val (.int (1 : Int32)), .val (.int (0 : Int32)), .val (.int (2 : Int32)), .val (.int (1 : Int32))] [(.int (0 : Int32)), (.ref bS)])
        refine Done.ldI X123h hx hZ e123 VS122 (j := (0 : Int32)) (w := pe) 0 (by decide) rfl (by decide) rfl (hb hby at_370) ?_
        show Done p e s below _ _ _ T123 (mkF m 371 #[.val (.int p0), .val (.int p1), .val (.int p2), .val (.int p3), .val (.int p4), .val (.int pa), .val (.int pb), .val (.int pb), .val (.int pe), .val (.ref b84), .val (.ref bS), .val (.ref bD), .val (.int (1 : Int32)), .val (.int (0 : Int32)), .val (.int (2 : Int32)), .val (.int (1 : Int32))] [(.int pe)])
        refine Done.go (fun _ kt_ => XS.iload X123h.here hx rfl (hb hby at_371) rfl kt_) ?_
        show Done p e s below _ _ _ T123 (mkF m 373 #[.val (.int p0), .val (.int p1), .val (.int p2), .val (.int p3), .val (.int p4), .val (.int pa), .val (.int pb), .val (.int pb), .val (.int pe), .val (.ref b84), .val (.ref bS), .val (.ref bD), .val (.int (1 : Int32)), .val (.int (0 : Int32)), .val (.int (2 : Int32)), .val (.int (1 : Int32))] [(.int pe), (.int pe)])
        refine Done.go (fun _ kt_ => XS.icmpNo X123h.here hx rfl (hb hby at_373) rfl (teq rfl).2 kt_) ?_
        show Done p e s below _ _ _ T123 (mkF m 376 #[.val (.int p0), .val (.int p1), .val (.int p2), .val (.int p3), .val (.int p4), .val (.int pa), .val (.int pb), .val (.int pb), .val (.int pe), .val (.ref b84), .val (.ref bS), .val (.ref bD), .val (.int (1 : Int32)), .val (.int (0 : Int32)), .val (.int (2 : Int32)), .val (.int (1 : Int32))] [])
        refine Done.go (fun _ kt_ => XS.aload X123h.here hx rfl (hb hby at_376) rfl rfl kt_) ?_
        show Done p e s below _ _ _ T123 (mkF m 378 #[.val (.int p0), .val (.int p1), .val (.int p2), .val (.int p3), .val (.int p4), .val (.int pa), .val (.int pb), .val (.int pb), .val (.int pe), .val (.ref b84), .val (.ref bS), .val (.ref bD), .val (.int (1 : Int32)), .val (.int (0 : Int32)), .val (.int (2 : Int32)), .val (.int (1 : Int32))] [(.ref bD)])
        refine Done.go (fun _ kt_ => XS.iload X123h.here hx rfl (hb hby at_378) rfl kt_) ?_
        show Done p e s below _ _ _ T123 (mkF m 380 #[.val (.int p0), .val (.int p1), .val (.int p2), .val (.int p3), .val (.int p4), .val (.int pa), .val (.int pb), .val (.int pb), .val (.int pe), .val (.ref b84), .val (.ref bS), .val (.ref bD), .val (.int (1 : Int32)), .val (.int (0 : Int32)), .val (.int (2 : Int32)), .val (.int (1 : Int32))] [(.int pe), (.ref bD)])
        refine Done.ldD X123h hx hZ e123 VD122 (j := pe) (y := ((0 : Int64) + (p4.toInt64))) Ee (own_ix hEe).1 (own_ix hEe).2 hEe4 (if_pos rfl) (hb hby at_380) ?_
        show Done p e s below _ _ _ T123 (mkF m 381 #[.val (.int p0), .val (.int p1), .val (.int p2), .val (.int p3), .val (.int p4), .val (.int pa), .val (.int pb), .val (.int pb), .val (.int pe), .val (.ref b84), .val (.ref bS), .val (.ref bD), .val (.int (1 : Int32)), .val (.int (0 : Int32)), .val (.int (2 : Int32)), .val (.int (1 : Int32))] [(.double (FP.l2d ((0 : Int64) + (p4.toInt64))))])
        refine Done.go (fun _ kt_ => XS.iload X123h.here hx rfl (hb hby at_381) rfl kt_) ?_
        show Done p e s below _ _ _ T123 (mkF m 383 #[.val (.int p0), .val (.int p1), .val (.int p2), .val (.int p3), .val (.int p4), .val (.int pa), .val (.int pb), .val (.int pb), .val (.int pe), .val (.ref b84), .val (.ref bS), .val (.ref bD), .val (.int (1 : Int32)), .val (.int (0 : Int32)), .val (.int (2 : Int32)), .val (.int (1 : Int32))] [(.int p4), (.double (FP.l2d ((0 : Int64) + (p4.toInt64))))])
        refine Done.go (fun _ kt_ => XS.i2dS X123h.here hx rfl (hb hby at_383) rfl (i2d_w p4) kt_) ?_
        show Done p e s below _ _ _ T123 (mkF m 384 #[.val (.int p0), .val (.int p1), .val (.int p2), .val (.int p3), .val (.int p4), .val (.int pa), .val (.int pb), .val (.int pb), .val (.int pe), .val (.ref b84), .val (.ref bS), .val (.ref bD), .val (.int (1 : Int32)), .val (.int (0 : Int32)), .val (.int (2 : Int32)), .val (.int (1 : Int32))] [(.double (FP.l2d (p4.toInt64))), (.double (FP.l2d ((0 : Int64) + (p4.toInt64))))])
        refine Done.go (fun _ kt_ => XS.dcmpS X123h.here hx rfl (hb hby at_384) rfl (dcmpV_w (own_leB (own_leA own_le0 (by decide) p4) (by decide)) (own_leB (own_leG p4) (by decide)) _) kt_) ?_
        show Done p e s below _ _ _ T123 (mkF m 385 #[.val (.int p0), .val (.int p1), .val (.int p2), .val (.int p3), .val (.int p4), .val (.int pa), .val (.int pb), .val (.int pb), .val (.int pe), .val (.ref b84), .val (.ref bS), .val (.ref bD), .val (.int (1 : Int32)), .val (.int (0 : Int32)), .val (.int (2 : Int32)), .val (.int (1 : Int32))] [(.int (lcmpW ((0 : Int64) + (p4.toInt64)) (p4.toInt64)))])
        refine Done.go (fun _ kt_ => XS.ifNo X123h.here hx rfl (hb hby at_385) rfl ((if0 _ _).trans (teq ((lw_eq _ _).mpr (Int64.zero_add _))).2) kt_) ?_
        show Done p e s below _ _ _ T123 (mkF m 388 #[.val (.int p0), .val (.int p1), .val (.int p2), .val (.int p3), .val (.int p4), .val (.int pa), .val (.int pb), .val (.int pb), .val (.int pe), .val (.ref b84), .val (.ref bS), .val (.ref bD), .val (.int (1 : Int32)), .val (.int (0 : Int32)), .val (.int (2 : Int32)), .val (.int (1 : Int32))] [])
        refine Done.go (fun _ kt_ => XS.iconst X123h.here hx rfl (hb hby at_388) kt_) ?_
        show Done p e s below _ _ _ T123 (mkF m 389 #[.val (.int p0), .val (.int p1), .val (.int p2), .val (.int p3), .val (.int p4), .val (.int pa), .val (.int pb), .val (.int pb), .val (.int pe), .val (.ref b84), .val (.ref bS), .val (.ref bD), .val (.int (1 : Int32)), .val (.int (0 : Int32)), .val (.int (2 : Int32)), .val (.int (1 : Int32))] [(.int (1 : Int32))])
        refine Done.go (fun _ kt_ => XS.goto X123h.here hx rfl (pc0 := 389) (pc' := 393) rfl (hb hby at_389) (by decide) (by decide) kt_) ?_
        show Done p e s below _ _ _ T123 (mkF m 393 #[.val (.int p0), .val (.int p1), .val (.int p2), .val (.int p3), .val (.int p4), .val (.int pa), .val (.int pb), .val (.int pb), .val (.int pe), .val (.ref b84), .val (.ref bS), .val (.ref bD), .val (.int (1 : Int32)), .val (.int (0 : Int32)), .val (.int (2 : Int32)), .val (.int (1 : Int32))] [(.int (1 : Int32))])
        refine Done.go (fun _ kt_ => XS.istore X123h.here hx rfl (hb hby at_393) rfl (l' := #[.val (.int p0), .val (.int p1), .val (.int p2), .val (.int p3), .val (.int p4), .val (.int pa), .val (.int pb), .val (.int pb), .val (.int pe), .val (.ref b84), .val (.ref bS), .val (.ref bD), .val (.int (1 : Int32)), .val (.int (0 : Int32)), .val (.int (2 : Int32)), .val (.int (1 : Int32))]) rfl kt_) ?_
        show Done p e s below _ _ _ T123 (mkF m 395 #[.val (.int p0), .val (.int p1), .val (.int p2), .val (.int p3), .val (.int p4), .val (.int pa), .val (.int pb), .val (.int pb), .val (.int pe), .val (.ref b84), .val (.ref bS), .val (.ref bD), .val (.int (1 : Int32)), .val (.int (0 : Int32)), .val (.int (2 : Int32)), .val (.int (1 : Int32))] [])
        refine Done.go (fun _ kt_ => XS.iload X123h.here hx rfl (hb hby at_395) rfl kt_) ?_
        show Done p e s below _ _ _ T123 (mkF m 397 #[.val (.int p0), .val (.int p1), .val (.int p2), .val (.int p3), .val (.int p4), .val (.int pa), .val (.int pb), .val (.int pb), .val (.int pe), .val (.ref b84), .val (.ref bS), .val (.ref bD), .val (.int (1 : Int32)), .val (.int (0 : Int32)), .val (.int (2 : Int32)), .val (.int (1 : Int32))] [(.int (1 : Int32))])
        refine Done.retN X123h hx hlk (t := .boolean) hrt (by simp) (z' := (1 : Int32)) rfl (hb hby at_397) ?_ (by first | decide | omega) (by first | decide | omega)
        rw [e123]
        exact ⟨rfl, N123h⟩
      · skip
        have n_BCc : ¬ B = Cc := hcs
        have n_CcB : ¬ Cc = B := fun q => hcs q.symm
        have i_pbpc : ¬ pb = pc := own_neN hB hCc hcs
        have i_pcpb : ¬ pc = pb := fun q => i_pbpc q.symm
        clear hcs
        show Done p e s below _ _ _ T107 (mkF m 74 #[.val (.int p0), .val (.int p1), .val (.int p2), .val (.int p3), .val (.int p4), .val (.int pa), .val (.int pb), .val (.int pc), .val (.int pe), .val (.ref b84), .val (.ref bS), .val (.ref bD), .unset, .unset, .unset, .unset] [])
        refine Done.go (fun _ kt_ => XS.aload X107h.here hx rfl (hb hby at_74) rfl rfl kt_) ?_
        show Done p e s below _ _ _ T107 (mkF m 76 #[.val (.int p0), .val (.int p1), .val (.int p2), .val (.int p3), .val (.int p4), .val (.int pa), .val (.int pb), .val (.int pc), .val (.int pe), .val (.ref b84), .val (.ref bS), .val (.ref bD), .unset, .unset, .unset, .unset] [(.ref b84)])
        refine Done.go (fun _ kt_ => XS.iload X107h.here hx rfl (hb hby at_76) rfl kt_) ?_
        show Done p e s below _ _ _ T107 (mkF m 78 #[.val (.int p0), .val (.int p1), .val (.int p2), .val (.int p3), .val (.int p4), .val (.int pa), .val (.int pb), .val (.int pc), .val (.int pe), .val (.ref b84), .val (.ref bS), .val (.ref bD), .unset, .unset, .unset, .unset] [(.int pc), (.ref b84)])
        refine Done.go (fun _ kt_ => XS.iloadN X107h.here hx rfl (hb hby at_78) rfl kt_) ?_
        show Done p e s below _ _ _ T107 (mkF m 79 #[.val (.int p0), .val (.int p1), .val (.int p2), .val (.int p3), .val (.int p4), .val (.int pa), .val (.int pb), .val (.int pc), .val (.int pe), .val (.ref b84), .val (.ref bS), .val (.ref bD), .unset, .unset, .unset, .unset] [(.int p3), (.int pc), (.ref b84)])
        refine Done.go (fun _ kt_ => XS.i2dS X107h.here hx rfl (hb hby at_79) rfl (i2d_w p3) kt_) ?_
        show Done p e s below _ _ _ T107 (mkF m 80 #[.val (.int p0), .val (.int p1), .val (.int p2), .val (.int p3), .val (.int p4), .val (.int pa), .val (.int pb), .val (.int pc), .val (.int pe), .val (.ref b84), .val (.ref bS), .val (.ref bD), .unset, .unset, .unset, .unset] [(.double (FP.l2d (p3.toInt64))), (.int pc), (.ref b84)])
        obtain ⟨cq124, kq124, q124a, q124b, q124c⟩ := isOf hZ rfl E107
        obtain ⟨v124, T124, Lc124, X124, hQ124, st124⟩ := own_backV (X107h.virtualBack hx (y := (⟨"com/example/pivotwise/pivotwise/retrieval/Scores", "add", "(ID)V"⟩ : MethodName)) (z := (⟨"com/example/pivotwise/pivotwise/retrieval/Scores", "add", "(ID)V"⟩ : MethodName)) hown (mvT hZ (hw _ (List.mem_of_getElem? (i := 36) rfl))) (mvT hZ (hw _ (List.mem_of_getElem? (i := 37) rfl))) (notFace_of_selects (args := #[]) (mvT hZ (hw _ (List.mem_of_getElem? (i := 39) rfl)))) (mvT hZ (hw _ (List.mem_of_getElem? (i := 39) rfl))) (mvT hZ (hw _ (List.mem_of_getElem? (i := 38) rfl))) (by decide) (backOf (W := 0) (rm6n l Z a0 hw [] b84 bD bF bS pc (p3.toInt64) (own_u (own_u (fun _ => (0 : Int64)) A (0 + (p1.toInt64))) B (0 + (p2.toInt64))) (own_u (own_u (fun _ => (0 : Int32)) A (1 : Int32)) B (1 : Int32)) (own_u (own_u (fun _ => (0 : Int32)) 0 pa) 1 pb) (1 : Int32) (2 : Int32) Cc 2 (3 : Int32) T107.heap n0 Z107 ⟨E107, Fscores107, FscoredFor107, Fscored107, Fquery107, Fcount107, VD107, VF107, VS107⟩ hds hgs hCc hCc4 (own_leB (own_leG _) (by decide)) (by decide) (by decide) (by simp [own_u, n_AB, n_BA, n_ACc, n_CcA, n_BCc, n_CcB]) (by decide)) hZ (hw _ (List.mem_of_getElem? (i := 40) rfl)) (hw _ (List.mem_of_getElem? (i := 2) rfl)) (by decide) (by decide)) q124a q124c (g := (mkF m 80 #[.val (.int p0), .val (.int p1), .val (.int p2), .val (.int p3), .val (.int p4), .val (.int pa), .val (.int pb), .val (.int pc), .val (.int pe), .val (.ref b84), .val (.ref bS), .val (.ref bD), .unset, .unset, .unset, .unset] [(.double (FP.l2d (p3.toInt64))), (.int pc), (.ref b84)])) rfl (by rw [hml]; rfl) (Steps.refl _) (argsL := [(.int pc), (.double (FP.l2d (p3.toInt64)))]) (rest := []) (lenOf own_pd4 rfl) rfl (by show 2 * 0 + _ ≤ _; exact Nat.le_of_eq rfl) (hb hby at_80) (fun _ _ => ⟨rfl, rfl, (by first | decide | omega : 4 + 0 ≤ _), (by first | decide | omega : 17 + 0 ≤ _)⟩))
        obtain ⟨rfl, N124q, hs124, P124⟩ := hQ124
        refine Done.go st124 ?_
        clear st124
        have N124 := Fr.app N107h N124q
        clear N124q
        have Z124 : n0 ≤ T124.heap.size := Nat.le_trans Z107 hs124
        obtain ⟨Lh124, X124h, N124h⟩ : ∃ L, Stand p l e room_1 s m #[(.int p0), (.int p1), (.int p2), (.int p3), (.int p4)] below meth c T124 L 4 17 ∧ Fr n0 L := ⟨_, X124, N124⟩
        clear X124 N124 X107h N107h Z107
        obtain ⟨E124, Fscores124, FscoredFor124, Fscored124, Fquery124, Fcount124, VD124, VF124, VS124⟩ := id P124
        show Done p e s below _ _ _ T124 (mkF m 83 #[.val (.int p0), .val (.int p1), .val (.int p2), .val (.int p3), .val (.int p4), .val (.int pa), .val (.int pb), .val (.int pc), .val (.int pe), .val (.ref b84), .val (.ref bS), .val (.ref bD), .unset, .unset, .unset, .unset] [])
        refine Done.go (fun _ kt_ => XS.iload X124h.here hx rfl (hb hby at_83) rfl kt_) ?_
        show Done p e s below _ _ _ T124 (mkF m 85 #[.val (.int p0), .val (.int p1), .val (.int p2), .val (.int p3), .val (.int p4), .val (.int pa), .val (.int pb), .val (.int pc), .val (.int pe), .val (.ref b84), .val (.ref bS), .val (.ref bD), .unset, .unset, .unset, .unset] [(.int pb)])
        refine Done.go (fun _ kt_ => XS.iload X124h.here hx rfl (hb hby at_85) rfl kt_) ?_
        show Done p e s below _ _ _ T124 (mkF m 87 #[.val (.int p0), .val (.int p1), .val (.int p2), .val (.int p3), .val (.int p4), .val (.int pa), .val (.int pb), .val (.int pc), .val (.int pe), .val (.ref b84), .val (.ref bS), .val (.ref bD), .unset, .unset, .unset, .unset] [(.int pa), (.int pb)])
        refine Done.go (fun _ kt_ => XS.icmpNo X124h.here hx rfl (hb hby at_87) rfl (feq i_pbpa).1 kt_) ?_
        show Done p e s below _ _ _ T124 (mkF m 90 #[.val (.int p0), .val (.int p1), .val (.int p2), .val (.int p3), .val (.int p4), .val (.int pa), .val (.int pb), .val (.int pc), .val (.int pe), .val (.ref b84), .val (.ref bS), .val (.ref bD), .unset, .unset, .unset, .unset] [])
        refine Done.go (fun _ kt_ => XS.iconst X124h.here hx rfl (hb hby at_90) kt_) ?_
        show Done p e s below _ _ _ T124 (mkF m 91 #[.val (.int p0), .val (.int p1), .val (.int p2), .val (.int p3), .val (.int p4), .val (.int pa), .val (.int pb), .val (.int pc), .val (.int pe), .val (.ref b84), .val (.ref bS), .val (.ref bD), .unset, .unset, .unset, .unset] [(.int (1 : Int32))])
        refine Done.go (fun _ kt_ => XS.goto X124h.here hx rfl (pc0 := 91) (pc' := 95) rfl (hb hby at_91) (by decide) (by decide) kt_) ?_
        show Done p e s below _ _ _ T124 (mkF m 95 #[.val (.int p0), .val (.int p1), .val (.int p2), .val (.int p3), .val (.int p4), .val (.int pa), .val (.int pb), .val (.int pc), .val (.int pe), .val (.ref b84), .val (.ref bS), .val (.ref bD), .unset, .unset, .unset, .unset] [(.int (1 : Int32))])
        refine Done.go (fun _ kt_ => XS.istore X124h.here hx rfl (hb hby at_95) rfl (l' := #[.val (.int p0), .val (.int p1), .val (.int p2), .val (.int p3), .val (.int p4), .val (.int pa), .val (.int pb), .val (.int pc), .val (.int pe), .val (.ref b84), .val (.ref bS), .val (.ref bD), .val (.int (1 : Int32)), .unset, .unset, .unset]) rfl kt_) ?_
        show Done p e s below _ _ _ T124 (mkF m 97 #[.val (.int p0), .val (.int p1), .val (.int p2), .val (.int p3), .val (.int p4), .val (.int pa), .val (.int pb), .val (.int pc), .val (.int pe), .val (.ref b84), .val (.ref bS), .val (.ref bD), .val (.int (1 : Int32)), .unset, .unset, .unset] [])
        refine Done.go (fun _ kt_ => XS.iload X124h.here hx rfl (hb hby at_97) rfl kt_) ?_
        show Done p e s below _ _ _ T124 (mkF m 99 #[.val (.int p0), .val (.int p1), .val (.int p2), .val (.int p3), .val (.int p4), .val (.int pa), .val (.int pb), .val (.int pc), .val (.int pe), .val (.ref b84), .val (.ref bS), .val (.ref bD), .val (.int (1 : Int32)), .unset, .unset, .unset] [(.int pc)])
        refine Done.go (fun _ kt_ => XS.iload X124h.here hx rfl (hb hby at_99) rfl kt_) ?_
        show Done p e s below _ _ _ T124 (mkF m 101 #[.val (.int p0), .val (.int p1), .val (.int p2), .val (.int p3), .val (.int p4), .val (.int pa), .val (.int pb), .val (.int pc), .val (.int pe), .val (.ref b84), .val (.ref bS), .val (.ref bD), .val (.int (1 : Int32)), .unset, .unset, .unset] [(.int pa), (.int pc)])
        refine Done.go (fun _ kt_ => XS.icmpNo X124h.here hx rfl (hb hby at_101) rfl (feq i_pcpa).1 kt_) ?_
        show Done p e s below _ _ _ T124 (mkF m 104 #[.val (.int p0), .val (.int p1), .val (.int p2), .val (.int p3), .val (.int p4), .val (.int pa), .val (.int pb), .val (.int pc), .val (.int pe), .val (.ref b84), .val (.ref bS), .val (.ref bD), .val (.int (1 : Int32)), .unset, .unset, .unset] [])
        refine Done.go (fun _ kt_ => XS.iload X124h.here hx rfl (hb hby at_104) rfl kt_) ?_
        show Done p e s below _ _ _ T124 (mkF m 106 #[.val (.int p0), .val (.int p1), .val (.int p2), .val (.int p3), .val (.int p4), .val (.int pa), .val (.int pb), .val (.int pc), .val (.int pe), .val (.ref b84), .val (.ref bS), .val (.ref bD), .val (.int (1 : Int32)), .unset, .unset, .unset] [(.int pc)])
        refine Done.go (fun _ kt_ => XS.iload X124h.here hx rfl (hb hby at_106) rfl kt_) ?_
        show Done p e s below _ _ _ T124 (mkF m 108 #[.val (.int p0), .val (.int p1), .val (.int p2), .val (.int p3), .val (.int p4), .val (.int pa), .val (.int pb), .val (.int pc), .val (.int pe), .val (.ref b84), .val (.ref bS), .val (.ref bD), .val (.int (1 : Int32)), .unset, .unset, .unset] [(.int pb), (.int pc)])
        refine Done.go (fun _ kt_ => XS.icmpNo X124h.here hx rfl (hb hby at_108) rfl (feq i_pcpb).1 kt_) ?_
        show Done p e s below _ _ _ T124 (mkF m 111 #[.val (.int p0), .val (.int p1), .val (.int p2), .val (.int p3), .val (.int p4), .val (.int pa), .val (.int pb), .val (.int pc), .val (.int pe), .val (.ref b84), .val (.ref bS), .val (.ref bD), .val (.int (1 : Int32)), .unset, .unset, .unset] [])
        refine Done.go (fun _ kt_ => XS.iconst X124h.here hx rfl (hb hby at_111) kt_) ?_
        show Done p e s below _ _ _ T124 (mkF m 112 #[.val (.int p0), .val (.int p1), .val (.int p2), .val (.int p3), .val (.int p4), .val (.int pa), .val (.int pb), .val (.int pc), .val (.int pe), .val (.ref b84), .val (.ref bS), .val (.ref bD), .val (.int (1 : Int32)), .unset, .unset, .unset] [(.int (1 : Int32))])
        refine Done.go (fun _ kt_ => XS.goto X124h.here hx rfl (pc0 := 112) (pc' := 116) rfl (hb hby at_112) (by decide) (by decide) kt_) ?_
        show Done p e s below _ _ _ T124 (mkF m 116 #[.val (.int p0), .val (.int p1), .val (.int p2), .val (.int p3), .val (.int p4), .val (.int pa), .val (.int pb), .val (.int pc), .val (.int pe), .val (.ref b84), .val (.ref bS), .val (.ref bD), .val (.int (1 : Int32)), .unset, .unset, .unset] [(.int (1 : Int32))])
        refine Done.go (fun _ kt_ => XS.istore X124h.here hx rfl (hb hby at_116) rfl (l' := #[.val (.int p0), .val (.int p1), .val (.int p2), .val (.int p3), .val (.int p4), .val (.int pa), .val (.int pb), .val (.int pc), .val (.int pe), .val (.ref b84), .val (.ref bS), .val (.ref bD), .val (.int (1 : Int32)), .val (.int (1 : Int32)), .unset, .unset]) rfl kt_) ?_
        show Done p e s below _ _ _ T124 (mkF m 118 #[.val (.int p0), .val (.int p1), .val (.int p2), .val (.int p3), .val (.int p4), .val (.int pa), .val (.int pb), .val (.int pc), .val (.int pe), .val (.ref b84), .val (.ref bS), .val (.ref bD), .val (.int (1 : Int32)), .val (.int (1 : Int32)), .unset, .unset] [])
        refine Done.go (fun _ kt_ => XS.iconst X124h.here hx rfl (hb hby at_118) kt_) ?_
        show Done p e s below _ _ _ T124 (mkF m 119 #[.val (.int p0), .val (.int p1), .val (.int p2), .val (.int p3), .val (.int p4), .val (.int pa), .val (.int pb), .val (.int pc), .val (.int pe), .val (.ref b84), .val (.ref bS), .val (.ref bD), .val (.int (1 : Int32)), .val (.int (1 : Int32)), .unset, .unset] [(.int (1 : Int32))])
        refine Done.go (fun _ kt_ => XS.iload X124h.here hx rfl (hb hby at_119) rfl kt_) ?_
        show Done p e s below _ _ _ T124 (mkF m 121 #[.val (.int p0), .val (.int p1), .val (.int p2), .val (.int p3), .val (.int p4), .val (.int pa), .val (.int pb), .val (.int pc), .val (.int pe), .val (.ref b84), .val (.ref bS), .val (.ref bD), .val (.int (1 : Int32)), .val (.int (1 : Int32)), .unset, .unset] [(.int (1 : Int32)), (.int (1 : Int32))])
        refine Done.go (fun _ kt_ => XS.ifNo X124h.here hx rfl (hb hby at_121) rfl ((if0 _ _).trans (feq (by decide)).1) kt_) ?_
        show Done p e s below _ _ _ T124 (mkF m 124 #[.val (.int p0), .val (.int p1), .val (.int p2), .val (.int p3), .val (.int p4), .val (.int pa), .val (.int pb), .val (.int pc), .val (.int pe), .val (.ref b84), .val (.ref bS), .val (.ref bD), .val (.int (1 : Int32)), .val (.int (1 : Int32)), .unset, .unset] [(.int (1 : Int32))])
        refine Done.go (fun _ kt_ => XS.iconst X124h.here hx rfl (hb hby at_124) kt_) ?_
        show Done p e s below _ _ _ T124 (mkF m 125 #[.val (.int p0), .val (.int p1), .val (.int p2), .val (.int p3), .val (.int p4), .val (.int pa), .val (.int pb), .val (.int pc), .val (.int pe), .val (.ref b84), .val (.ref bS), .val (.ref bD), .val (.int (1 : Int32)), .val (.int (1 : Int32)), .unset, .unset] [(.int (1 : Int32)), (.int (1 : Int32))])
        refine Done.go (fun _ kt_ => XS.goto X124h.here hx rfl (pc0 := 125) (pc' := 129) rfl (hb hby at_125) (by decide) (by decide) kt_) ?_
        show Done p e s below _ _ _ T124 (mkF m 129 #[.val (.int p0), .val (.int p1), .val (.int p2), .val (.int p3), .val (.int p4), .val (.int pa), .val (.int pb), .val (.int pc), .val (.int pe), .val (.ref b84), .val (.ref bS), .val (.ref bD), .val (.int (1 : Int32)), .val (.int (1 : Int32)), .unset, .unset] [(.int (1 : Int32)), (.int (1 : Int32))])
        refine Done.go (fun _ kt_ => XS.iadd X124h.here hx rfl (hb hby at_129) rfl kt_) ?_
        show Done p e s below _ _ _ T124 (mkF m 130 #[.val (.int p0), .val (.int p1), .val (.int p2), .val (.int p3), .val (.int p4), .val (.int pa), .val (.int pb), .val (.int pc), .val (.int pe), .val (.ref b84), .val (.ref bS), .val (.ref bD), .val (.int (1 : Int32)), .val (.int (1 : Int32)), .unset, .unset] [(.int ((1 : Int32) + (1 : Int32)))])
        rw [show ((1 : Int32) + (1 : Int32)) = (2 : Int32) from by decide]
        show Done p e s below _ _ _ T124 (mkF m 130 #[.val (.int p0), .val (.int p1), .val (.int p2), .val (.int p3), .val (.int p4), .val (.int pa), .val (.int pb), .val (.int pc), .val (.int pe), .val (.ref b84), .val (.ref bS), .val (.ref bD), .val (.int (1 : Int32)), .val (.int (1 : Int32)), .unset, .unset] [(.int (2 : Int32))])
        refine Done.go (fun _ kt_ => XS.iload X124h.here hx rfl (hb hby at_130) rfl kt_) ?_
        show Done p e s below _ _ _ T124 (mkF m 132 #[.val (.int p0), .val (.int p1), .val (.int p2), .val (.int p3), .val (.int p4), .val (.int pa), .val (.int pb), .val (.int pc), .val (.int pe), .val (.ref b84), .val (.ref bS), .val (.ref bD), .val (.int (1 : Int32)), .val (.int (1 : Int32)), .unset, .unset] [(.int (1 : Int32)), (.int (2 : Int32))])
        refine Done.go (fun _ kt_ => XS.ifNo X124h.here hx rfl (hb hby at_132) rfl ((if0 _ _).trans (feq (by decide)).1) kt_) ?_
        show Done p e s below _ _ _ T124 (mkF m 135 #[.val (.int p0), .val (.int p1), .val (.int p2), .val (.int p3), .val (.int p4), .val (.int pa), .val (.int pb), .val (.int pc), .val (.int pe), .val (.ref b84), .val (.ref bS), .val (.ref bD), .val (.int (1 : Int32)), .val (.int (1 : Int32)), .unset, .unset] [(.int (2 : Int32))])
        refine Done.go (fun _ kt_ => XS.iconst X124h.here hx rfl (hb hby at_135) kt_) ?_
        show Done p e s below _ _ _ T124 (mkF m 136 #[.val (.int p0), .val (.int p1), .val (.int p2), .val (.int p3), .val (.int p4), .val (.int pa), .val (.int pb), .val (.int pc), .val (.int pe), .val (.ref b84), .val (.ref bS), .val (.ref bD), .val (.int (1 : Int32)), .val (.int (1 : Int32)), .unset, .unset] [(.int (1 : Int32)), (.int (2 : Int32))])
        refine Done.go (fun _ kt_ => XS.goto X124h.here hx rfl (pc0 := 136) (pc' := 140) rfl (hb hby at_136) (by decide) (by decide) kt_) ?_
        show Done p e s below _ _ _ T124 (mkF m 140 #[.val (.int p0), .val (.int p1), .val (.int p2), .val (.int p3), .val (.int p4), .val (.int pa), .val (.int pb), .val (.int pc), .val (.int pe), .val (.ref b84), .val (.ref bS), .val (.ref bD), .val (.int (1 : Int32)), .val (.int (1 : Int32)), .unset, .unset] [(.int (1 : Int32)), (.int (2 : Int32))])
        refine Done.go (fun _ kt_ => XS.iadd X124h.here hx rfl (hb hby at_140) rfl kt_) ?_
        show Done p e s below _ _ _ T124 (mkF m 141 #[.val (.int p0), .val (.int p1), .val (.int p2), .val (.int p3), .val (.int p4), .val (.int pa), .val (.int pb), .val (.int pc), .val (.int pe), .val (.ref b84), .val (.ref bS), .val (.ref bD), .val (.int (1 : Int32)), .val (.int (1 : Int32)), .unset, .unset] [(.int ((2 : Int32) + (1 : Int32)))])
        rw [show ((2 : Int32) + (1 : Int32)) = (3 : Int32) from by decide]
        show Done p e s below _ _ _ T124 (mkF m 141 #[.val (.int p0), .val (.int p1), .val (.int p2), .val (.int p3), .val (.int p4), .val (.int pa), .val (.int pb), .val (.int pc), .val (.int pe), .val (.ref b84), .val (.ref bS), .val (.ref bD), .val (.int (1 : Int32)), .val (.int (1 : Int32)), .unset, .unset] [(.int (3 : Int32))])
        refine Done.go (fun _ kt_ => XS.istore X124h.here hx rfl (hb hby at_141) rfl (l' := #[.val (.int p0), .val (.int p1), .val (.int p2), .val (.int p3), .val (.int p4), .val (.int pa), .val (.int pb), .val (.int pc), .val (.int pe), .val (.ref b84), .val (.ref bS), .val (.ref bD), .val (.int (1 : Int32)), .val (.int (1 : Int32)), .val (.int (3 : Int32)), .unset]) rfl kt_) ?_
        show Done p e s below _ _ _ T124 (mkF m 143 #[.val (.int p0), .val (.int p1), .val (.int p2), .val (.int p3), .val (.int p4), .val (.int pa), .val (.int pb), .val (.int pc), .val (.int pe), .val (.ref b84), .val (.ref bS), .val (.ref bD), .val (.int (1 : Int32)), .val (.int (1 : Int32)), .val (.int (3 : Int32)), .unset] [])
        refine Done.go (fun _ kt_ => XS.aload X124h.here hx rfl (hb hby at_143) rfl rfl kt_) ?_
        show Done p e s below _ _ _ T124 (mkF m 145 #[.val (.int p0), .val (.int p1), .val (.int p2), .val (.int p3), .val (.int p4), .val (.int pa), .val (.int pb), .val (.int pc), .val (.int pe), .val (.ref b84), .val (.ref bS), .val (.ref bD), .val (.int (1 : Int32)), .val (.int (1 : Int32)), .val (.int (3 : Int32)), .unset] [(.ref b84)])
        obtain ⟨cq125, kq125, q125a, q125b, q125c⟩ := isOf hZ rfl E124
        obtain ⟨v125, T125, Lc125, X125, hQ125, st125⟩ := own_backV (X124h.virtualBack hx (y := (⟨"com/example/pivotwise/pivotwise/retrieval/Scores", "count", "()I"⟩ : MethodName)) (z := (⟨"com/example/pivotwise/pivotwise/retrieval/Scores", "count", "()I"⟩ : MethodName)) hown (mvT hZ (hw _ (List.mem_of_getElem? (i := 41) rfl))) (mvT hZ (hw _ (List.mem_of_getElem? (i := 42) rfl))) (notFace_of_selects (args := #[]) (mvT hZ (hw _ (List.mem_of_getElem? (i := 44) rfl)))) (mvT hZ (hw _ (List.mem_of_getElem? (i := 44) rfl))) (mvT hZ (hw _ (List.mem_of_getElem? (i := 43) rfl))) (by decide) (backOf (W := 0) (rm7 l Z a0 hw [] b84 (3 : Int32) T124.heap n0 Z124 Fcount124) hZ (hw _ (List.mem_of_getElem? (i := 45) rfl)) (hw _ (List.mem_of_getElem? (i := 2) rfl)) (by decide) (by decide)) q125a q125c (g := (mkF m 145 #[.val (.int p0), .val (.int p1), .val (.int p2), .val (.int p3), .val (.int p4), .val (.int pa), .val (.int pb), .val (.int pc), .val (.int pe), .val (.ref b84), .val (.ref bS), .val (.ref bD), .val (.int (1 : Int32)), .val (.int (1 : Int32)), .val (.int (3 : Int32)), .unset] [(.ref b84)])) rfl (by rw [hml]; rfl) (Steps.refl _) (argsL := []) (rest := []) (lenOf own_pd5 rfl) rfl (by show 2 * 0 + _ ≤ _; exact Nat.le_of_eq rfl) (hb hby at_145) (fun _ _ => ⟨rfl, rfl, (by first | decide | omega : 4 + 0 ≤ _), (by first | decide | omega : 17 + 0 ≤ _)⟩))
        obtain ⟨rfl, N125q, e125⟩ := hQ125
        refine Done.go st125 ?_
        clear st125
        have N125 := Fr.app N124h N125q
        clear N125q
        obtain ⟨Lh125, X125h, N125h⟩ : ∃ L, Stand p l e room_1 s m #[(.int p0), (.int p1), (.int p2), (.int p3), (.int p4)] below meth c T125 L 4 17 ∧ Fr n0 L := ⟨_, X125, N125⟩
        clear X125 N125 X124h N124h
        show Done p e s below _ _ _ T125 (mkF m 148 #[.val (.int p0), .val (.int p1), .val (.int p2), .val (.int p3), .val (.int p4), .val (.int pa), .val (.int pb), .val (.int pc), .val (.int pe), .val (.ref b84), .val (.ref bS), .val (.ref bD), .val (.int (1 : Int32)), .val (.int (1 : Int32)), .val (.int (3 : Int32)), .unset] [(.int (3 : Int32))])
        refine Done.go (fun _ kt_ => XS.iload X125h.here hx rfl (hb hby at_148) rfl kt_) ?_
        show Done p e s below _ _ _ T125 (mkF m 150 #[.val (.int p0), .val (.int p1), .val (.int p2), .val (.int p3), .val (.int p4), .val (.int pa), .val (.int pb), .val (.int pc), .val (.int pe), .val (.ref b84), .val (.ref bS), .val (.ref bD), .val (.int (1 : Int32)), .val (.int (1 : Int32)), .val (.int (3 : Int32)), .unset] [(.int (3 : Int32)), (.int (3 : Int32))])
        refine Done.go (fun _ kt_ => XS.icmpNo X125h.here hx rfl (hb hby at_150) rfl (teq (by decide)).2 kt_) ?_
        show Done p e s below _ _ _ T125 (mkF m 153 #[.val (.int p0), .val (.int p1), .val (.int p2), .val (.int p3), .val (.int p4), .val (.int pa), .val (.int pb), .val (.int pc), .val (.int pe), .val (.ref b84), .val (.ref bS), .val (.ref bD), .val (.int (1 : Int32)), .val (.int (1 : Int32)), .val (.int (3 : Int32)), .unset] [])
        refine Done.go (fun _ kt_ => XS.aload X125h.here hx rfl (hb hby at_153) rfl rfl kt_) ?_
        show Done p e s below _ _ _ T125 (mkF m 155 #[.val (.int p0), .val (.int p1), .val (.int p2), .val (.int p3), .val (.int p4), .val (.int pa), .val (.int pb), .val (.int pc), .val (.int pe), .val (.ref b84), .val (.ref bS), .val (.ref bD), .val (.int (1 : Int32)), .val (.int (1 : Int32)), .val (.int (3 : Int32)), .unset] [(.ref bS)])
        refine Done.go (fun _ kt_ => XS.iconst X125h.here hx rfl (hb hby at_155) kt_) ?_
        show Done p e s below _ _ _ T125 (mkF m 156 #[.val (.int p0), .val (.int p1), .val (.int p2), .val (.int p3), .val (.int p4), .val (.int pa), .val (.int pb), .val (.int pc), .val (.int pe), .val (.ref b84), .val (.ref bS), .val (.ref bD), .val (.int (1 : Int32)), .val (.int (1 : Int32)), .val (.int (3 : Int32)), .unset] [(.int (0 : Int32)), (.ref bS)])
        refine Done.ldI X125h hx hZ e125 VS124 (j := (0 : Int32)) (w := pa) 0 (by decide) rfl (by decide) rfl (hb hby at_156) ?_
        show Done p e s below _ _ _ T125 (mkF m 157 #[.val (.int p0), .val (.int p1), .val (.int p2), .val (.int p3), .val (.int p4), .val (.int pa), .val (.int pb), .val (.int pc), .val (.int pe), .val (.ref b84), .val (.ref bS), .val (.ref bD), .val (.int (1 : Int32)), .val (.int (1 : Int32)), .val (.int (3 : Int32)), .unset] [(.int pa)])
        refine Done.go (fun _ kt_ => XS.iload X125h.here hx rfl (hb hby at_157) rfl kt_) ?_
        show Done p e s below _ _ _ T125 (mkF m 159 #[.val (.int p0), .val (.int p1), .val (.int p2), .val (.int p3), .val (.int p4), .val (.int pa), .val (.int pb), .val (.int pc), .val (.int pe), .val (.ref b84), .val (.ref bS), .val (.ref bD), .val (.int (1 : Int32)), .val (.int (1 : Int32)), .val (.int (3 : Int32)), .unset] [(.int pa), (.int pa)])
        refine Done.go (fun _ kt_ => XS.icmpNo X125h.here hx rfl (hb hby at_159) rfl (teq rfl).2 kt_) ?_
        show Done p e s below _ _ _ T125 (mkF m 162 #[.val (.int p0), .val (.int p1), .val (.int p2), .val (.int p3), .val (.int p4), .val (.int pa), .val (.int pb), .val (.int pc), .val (.int pe), .val (.ref b84), .val (.ref bS), .val (.ref bD), .val (.int (1 : Int32)), .val (.int (1 : Int32)), .val (.int (3 : Int32)), .unset] [])
        refine Done.go (fun _ kt_ => XS.iconst X125h.here hx rfl (hb hby at_162) kt_) ?_
        show Done p e s below _ _ _ T125 (mkF m 163 #[.val (.int p0), .val (.int p1), .val (.int p2), .val (.int p3), .val (.int p4), .val (.int pa), .val (.int pb), .val (.int pc), .val (.int pe), .val (.ref b84), .val (.ref bS), .val (.ref bD), .val (.int (1 : Int32)), .val (.int (1 : Int32)), .val (.int (3 : Int32)), .unset] [(.int (1 : Int32))])
        refine Done.go (fun _ kt_ => XS.goto X125h.here hx rfl (pc0 := 163) (pc' := 167) rfl (hb hby at_163) (by decide) (by decide) kt_) ?_
        show Done p e s below _ _ _ T125 (mkF m 167 #[.val (.int p0), .val (.int p1), .val (.int p2), .val (.int p3), .val (.int p4), .val (.int pa), .val (.int pb), .val (.int pc), .val (.int pe), .val (.ref b84), .val (.ref bS), .val (.ref bD), .val (.int (1 : Int32)), .val (.int (1 : Int32)), .val (.int (3 : Int32)), .unset] [(.int (1 : Int32))])
        refine Done.go (fun _ kt_ => XS.istore X125h.here hx rfl (hb hby at_167) rfl (l' := #[.val (.int p0), .val (.int p1), .val (.int p2), .val (.int p3), .val (.int p4), .val (.int pa), .val (.int pb), .val (.int pc), .val (.int pe), .val (.ref b84), .val (.ref bS), .val (.ref bD), .val (.int (1 : Int32)), .val (.int (1 : Int32)), .val (.int (3 : Int32)), .val (.int (1 : Int32))]) rfl kt_) ?_
        show Done p e s below _ _ _ T125 (mkF m 169 #[.val (.int p0), .val (.int p1), .val (.int p2), .val (.int p3), .val (.int p4), .val (.int pa), .val (.int pb), .val (.int pc), .val (.int pe), .val (.ref b84), .val (.ref bS), .val (.ref bD), .val (.int (1 : Int32)), .val (.int (1 : Int32)), .val (.int (3 : Int32)), .val (.int (1 : Int32))] [])
        refine Done.go (fun _ kt_ => XS.iload X125h.here hx rfl (hb hby at_169) rfl kt_) ?_
        show Done p e s below _ _ _ T125 (mkF m 171 #[.val (.int p0), .val (.int p1), .val (.int p2), .val (.int p3), .val (.int p4), .val (.int pa), .val (.int pb), .val (.int pc), .val (.int pe), .val (.ref b84), .val (.ref bS), .val (.ref bD), .val (.int (1 : Int32)), .val (.int (1 : Int32)), .val (.int (3 : Int32)), .val (.int (1 : Int32))] [(.int (3 : Int32))])
        refine Done.go (fun _ kt_ => XS.iconst X125h.here hx rfl (hb hby at_171) kt_) ?_
        show Done p e s below _ _ _ T125 (mkF m 172 #[.val (.int p0), .val (.int p1), .val (.int p2), .val (.int p3), .val (.int p4), .val (.int pa), .val (.int pb), .val (.int pc), .val (.int pe), .val (.ref b84), .val (.ref bS), .val (.ref bD), .val (.int (1 : Int32)), .val (.int (1 : Int32)), .val (.int (3 : Int32)), .val (.int (1 : Int32))] [(.int (2 : Int32)), (.int (3 : Int32))])
        refine Done.go (fun _ kt_ => XS.icmpNo X125h.here hx rfl (hb hby at_172) rfl (flt (by decide)).1 kt_) ?_
        show Done p e s below _ _ _ T125 (mkF m 175 #[.val (.int p0), .val (.int p1), .val (.int p2), .val (.int p3), .val (.int p4), .val (.int pa), .val (.int pb), .val (.int pc), .val (.int pe), .val (.ref b84), .val (.ref bS), .val (.ref bD), .val (.int (1 : Int32)), .val (.int (1 : Int32)), .val (.int (3 : Int32)), .val (.int (1 : Int32))] [])
        refine Done.go (fun _ kt_ => XS.iload X125h.here hx rfl (hb hby at_175) rfl kt_) ?_
        show Done p e s below _ _ _ T125 (mkF m 177 #[.val (.int p0), .val (.int p1), .val (.int p2), .val (.int p3), .val (.int p4), .val (.int pa), .val (.int pb), .val (.int pc), .val (.int pe), .val (.ref b84), .val (.ref bS), .val (.ref bD), .val (.int (1 : Int32)), .val (.int (1 : Int32)), .val (.int (3 : Int32)), .val (.int (1 : Int32))] [(.int (1 : Int32))])
        refine Done.go (fun _ kt_ => XS.ifNo X125h.here hx rfl (hb hby at_177) rfl ((if0 _ _).trans (feq (by decide)).1) kt_) ?_
        show Done p e s below _ _ _ T125 (mkF m 180 #[.val (.int p0), .val (.int p1), .val (.int p2), .val (.int p3), .val (.int p4), .val (.int pa), .val (.int pb), .val (.int pc), .val (.int pe), .val (.ref b84), .val (.ref bS), .val (.ref bD), .val (.int (1 : Int32)), .val (.int (1 : Int32)), .val (.int (3 : Int32)), .val (.int (1 : Int32))] [])
        refine Done.go (fun _ kt_ => XS.aload X125h.here hx rfl (hb hby at_180) rfl rfl kt_) ?_
        show Done p e s below _ _ _ T125 (mkF m 182 #[.val (.int p0), .val (.int p1), .val (.int p2), .val (.int p3), .val (.int p4), .val (.int pa), .val (.int pb), .val (.int pc), .val (.int pe), .val (.ref b84), .val (.ref bS), .val (.ref bD), .val (.int (1 : Int32)), .val (.int (1 : Int32)), .val (.int (3 : Int32)), .val (.int (1 : Int32))] [(.ref bS)])
        refine Done.go (fun _ kt_ => XS.iconst X125h.here hx rfl (hb hby at_182) kt_) ?_
        show Done p e s below _ _ _ T125 (mkF m 183 #[.val (.int p0), .val (.int p1), .val (.int p2), .val (.int p3), .val (.int p4), .val (.int pa), .val (.int pb), .val (.int pc), .val (.int pe), .val (.ref b84), .val (.ref bS), .val (.ref bD), .val (.int (1 : Int32)), .val (.int (1 : Int32)), .val (.int (3 : Int32)), .val (.int (1 : Int32))] [(.int (1 : Int32)), (.ref bS)])
        refine Done.ldI X125h hx hZ e125 VS124 (j := (1 : Int32)) (w := pb) 1 (by decide) rfl (by decide) rfl (hb hby at_183) ?_
        show Done p e s below _ _ _ T125 (mkF m 184 #[.val (.int p0), .val (.int p1), .val (.int p2), .val (.int p3), .val (.int p4), .val (.int pa), .val (.int pb), .val (.int pc), .val (.int pe), .val (.ref b84), .val (.ref bS), .val (.ref bD), .val (.int (1 : Int32)), .val (.int (1 : Int32)), .val (.int (3 : Int32)), .val (.int (1 : Int32))] [(.int pb)])
        refine Done.go (fun _ kt_ => XS.iload X125h.here hx rfl (hb hby at_184) rfl kt_) ?_
        show Done p e s below _ _ _ T125 (mkF m 186 #[.val (.int p0), .val (.int p1), .val (.int p2), .val (.int p3), .val (.int p4), .val (.int pa), .val (.int pb), .val (.int pc), .val (.int pe), .val (.ref b84), .val (.ref bS), .val (.ref bD), .val (.int (1 : Int32)), .val (.int (1 : Int32)), .val (.int (3 : Int32)), .val (.int (1 : Int32))] [(.int (1 : Int32)), (.int pb)])
        refine Done.go (fun _ kt_ => XS.ifNo X125h.here hx rfl (hb hby at_186) rfl ((if0 _ _).trans (feq (by decide)).1) kt_) ?_
        show Done p e s below _ _ _ T125 (mkF m 189 #[.val (.int p0), .val (.int p1), .val (.int p2), .val (.int p3), .val (.int p4), .val (.int pa), .val (.int pb), .val (.int pc), .val (.int pe), .val (.ref b84), .val (.ref bS), .val (.ref bD), .val (.int (1 : Int32)), .val (.int (1 : Int32)), .val (.int (3 : Int32)), .val (.int (1 : Int32))] [(.int pb)])
        refine Done.go (fun _ kt_ => XS.iload X125h.here hx rfl (hb hby at_189) rfl kt_) ?_
        show Done p e s below _ _ _ T125 (mkF m 191 #[.val (.int p0), .val (.int p1), .val (.int p2), .val (.int p3), .val (.int p4), .val (.int pa), .val (.int pb), .val (.int pc), .val (.int pe), .val (.ref b84), .val (.ref bS), .val (.ref bD), .val (.int (1 : Int32)), .val (.int (1 : Int32)), .val (.int (3 : Int32)), .val (.int (1 : Int32))] [(.int pb), (.int pb)])
        refine Done.go (fun _ kt_ => XS.goto X125h.here hx rfl (pc0 := 191) (pc' := 196) rfl (hb hby at_191) (by decide) (by decide) kt_) ?_
        show Done p e s below _ _ _ T125 (mkF m 196 #[.val (.int p0), .val (.int p1), .val (.int p2), .val (.int p3), .val (.int p4), .val (.int pa), .val (.int pb), .val (.int pc), .val (.int pe), .val (.ref b84), .val (.ref bS), .val (.ref bD), .val (.int (1 : Int32)), .val (.int (1 : Int32)), .val (.int (3 : Int32)), .val (.int (1 : Int32))] [(.int pb), (.int pb)])
        refine Done.go (fun _ kt_ => XS.icmpNo X125h.here hx rfl (hb hby at_196) rfl (teq rfl).2 kt_) ?_
        show Done p e s below _ _ _ T125 (mkF m 199 #[.val (.int p0), .val (.int p1), .val (.int p2), .val (.int p3), .val (.int p4), .val (.int pa), .val (.int pb), .val (.int pc), .val (.int pe), .val (.ref b84), .val (.ref bS), .val (.ref bD), .val (.int (1 : Int32)), .val (.int (1 : Int32)), .val (.int (3 : Int32)), .val (.int (1 : Int32))] [])
        refine Done.go (fun _ kt_ => XS.iconst X125h.here hx rfl (hb hby at_199) kt_) ?_
        show Done p e s below _ _ _ T125 (mkF m 200 #[.val (.int p0), .val (.int p1), .val (.int p2), .val (.int p3), .val (.int p4), .val (.int pa), .val (.int pb), .val (.int pc), .val (.int pe), .val (.ref b84), .val (.ref bS), .val (.ref bD), .val (.int (1 : Int32)), .val (.int (1 : Int32)), .val (.int (3 : Int32)), .val (.int (1 : Int32))] [(.int (1 : Int32))])
        refine Done.go (fun _ kt_ => XS.goto X125h.here hx rfl (pc0 := 200) (pc' := 204) rfl (hb hby at_200) (by decide) (by decide) kt_) ?_
        show Done p e s below _ _ _ T125 (mkF m 204 #[.val (.int p0), .val (.int p1), .val (.int p2), .val (.int p3), .val (.int p4), .val (.int pa), .val (.int pb), .val (.int pc), .val (.int pe), .val (.ref b84), .val (.ref bS), .val (.ref bD), .val (.int (1 : Int32)), .val (.int (1 : Int32)), .val (.int (3 : Int32)), .val (.int (1 : Int32))] [(.int (1 : Int32))])
        refine Done.go (fun _ kt_ => XS.istore X125h.here hx rfl (hb hby at_204) rfl (l' := #[.val (.int p0), .val (.int p1), .val (.int p2), .val (.int p3), .val (.int p4), .val (.int pa), .val (.int pb), .val (.int pc), .val (.int pe), .val (.ref b84), .val (.ref bS), .val (.ref bD), .val (.int (1 : Int32)), .val (.int (1 : Int32)), .val (.int (3 : Int32)), .val (.int (1 : Int32))]) rfl kt_) ?_
        show Done p e s below _ _ _ T125 (mkF m 206 #[.val (.int p0), .val (.int p1), .val (.int p2), .val (.int p3), .val (.int p4), .val (.int pa), .val (.int pb), .val (.int pc), .val (.int pe), .val (.ref b84), .val (.ref bS), .val (.ref bD), .val (.int (1 : Int32)), .val (.int (1 : Int32)), .val (.int (3 : Int32)), .val (.int (1 : Int32))] [])
        refine Done.go (fun _ kt_ => XS.iload X125h.here hx rfl (hb hby at_206) rfl kt_) ?_
        show Done p e s below _ _ _ T125 (mkF m 208 #[.val (.int p0), .val (.int p1), .val (.int p2), .val (.int p3), .val (.int p4), .val (.int pa), .val (.int pb), .val (.int pc), .val (.int pe), .val (.ref b84), .val (.ref bS), .val (.ref bD), .val (.int (1 : Int32)), .val (.int (1 : Int32)), .val (.int (3 : Int32)), .val (.int (1 : Int32))] [(.int (3 : Int32))])
        refine Done.go (fun _ kt_ => XS.iconst X125h.here hx rfl (hb hby at_208) kt_) ?_
        show Done p e s below _ _ _ T125 (mkF m 209 #[.val (.int p0), .val (.int p1), .val (.int p2), .val (.int p3), .val (.int p4), .val (.int pa), .val (.int pb), .val (.int pc), .val (.int pe), .val (.ref b84), .val (.ref bS), .val (.ref bD), .val (.int (1 : Int32)), .val (.int (1 : Int32)), .val (.int (3 : Int32)), .val (.int (1 : Int32))] [(.int (3 : Int32)), (.int (3 : Int32))])
        refine Done.go (fun _ kt_ => XS.icmpNo X125h.here hx rfl (hb hby at_209) rfl (teq (by decide)).2 kt_) ?_
        show Done p e s below _ _ _ T125 (mkF m 212 #[.val (.int p0), .val (.int p1), .val (.int p2), .val (.int p3), .val (.int p4), .val (.int pa), .val (.int pb), .val (.int pc), .val (.int pe), .val (.ref b84), .val (.ref bS), .val (.ref bD), .val (.int (1 : Int32)), .val (.int (1 : Int32)), .val (.int (3 : Int32)), .val (.int (1 : Int32))] [])
        refine Done.go (fun _ kt_ => XS.iload X125h.here hx rfl (hb hby at_212) rfl kt_) ?_
        show Done p e s below _ _ _ T125 (mkF m 214 #[.val (.int p0), .val (.int p1), .val (.int p2), .val (.int p3), .val (.int p4), .val (.int pa), .val (.int pb), .val (.int pc), .val (.int pe), .val (.ref b84), .val (.ref bS), .val (.ref bD), .val (.int (1 : Int32)), .val (.int (1 : Int32)), .val (.int (3 : Int32)), .val (.int (1 : Int32))] [(.int (1 : Int32))])
        refine Done.go (fun _ kt_ => XS.ifNo X125h.here hx rfl (hb hby at_214) rfl ((if0 _ _).trans (feq (by decide)).1) kt_) ?_
        show Done p e s below _ _ _ T125 (mkF m 217 #[.val (.int p0), .val (.int p1), .val (.int p2), .val (.int p3), .val (.int p4), .val (.int pa), .val (.int pb), .val (.int pc), .val (.int pe), .val (.ref b84), .val (.ref bS), .val (.ref bD), .val (.int (1 : Int32)), .val (.int (1 : Int32)), .val (.int (3 : Int32)), .val (.int (1 : Int32))] [])
        refine Done.go (fun _ kt_ => XS.aload X125h.here hx rfl (hb hby at_217) rfl rfl kt_) ?_
        show Done p e s below _ _ _ T125 (mkF m 219 #[.val (.int p0), .val (.int p1), .val (.int p2), .val (.int p3), .val (.int p4), .val (.int pa), .val (.int pb), .val (.int pc), .val (.int pe), .val (.ref b84), .val (.ref bS), .val (.ref bD), .val (.int (1 : Int32)), .val (.int (1 : Int32)), .val (.int (3 : Int32)), .val (.int (1 : Int32))] [(.ref bS)])
        refine Done.go (fun _ kt_ => XS.iconst X125h.here hx rfl (hb hby at_219) kt_) ?_
        show Done p e s below _ _ _ T125 (mkF m 220 #[.val (.int p0), .val (.int p1), .val (.int p2), .val (.int p3), .val (.int p4), .val (.int pa), .val (.int pb), .val (.int pc), .val (.int pe), .val (.ref b84), .val (.ref bS), .val (.ref bD), .val (.int (1 : Int32)), .val (.int (1 : Int32)), .val (.int (3 : Int32)), .val (.int (1 : Int32))] [(.int (2 : Int32)), (.ref bS)])
        refine Done.ldI X125h hx hZ e125 VS124 (j := (2 : Int32)) (w := pc) 2 (by decide) rfl (by decide) rfl (hb hby at_220) ?_
        show Done p e s below _ _ _ T125 (mkF m 221 #[.val (.int p0), .val (.int p1), .val (.int p2), .val (.int p3), .val (.int p4), .val (.int pa), .val (.int pb), .val (.int pc), .val (.int pe), .val (.ref b84), .val (.ref bS), .val (.ref bD), .val (.int (1 : Int32)), .val (.int (1 : Int32)), .val (.int (3 : Int32)), .val (.int (1 : Int32))] [(.int pc)])
        refine Done.go (fun _ kt_ => XS.iload X125h.here hx rfl (hb hby at_221) rfl kt_) ?_
        show Done p e s below _ _ _ T125 (mkF m 223 #[.val (.int p0), .val (.int p1), .val (.int p2), .val (.int p3), .val (.int p4), .val (.int pa), .val (.int pb), .val (.int pc), .val (.int pe), .val (.ref b84), .val (.ref bS), .val (.ref bD), .val (.int (1 : Int32)), .val (.int (1 : Int32)), .val (.int (3 : Int32)), .val (.int (1 : Int32))] [(.int pc), (.int pc)])
        refine Done.go (fun _ kt_ => XS.icmpNo X125h.here hx rfl (hb hby at_223) rfl (teq rfl).2 kt_) ?_
        show Done p e s below _ _ _ T125 (mkF m 226 #[.val (.int p0), .val (.int p1), .val (.int p2), .val (.int p3), .val (.int p4), .val (.int pa), .val (.int pb), .val (.int pc), .val (.int pe), .val (.ref b84), .val (.ref bS), .val (.ref bD), .val (.int (1 : Int32)), .val (.int (1 : Int32)), .val (.int (3 : Int32)), .val (.int (1 : Int32))] [])
        refine Done.go (fun _ kt_ => XS.iconst X125h.here hx rfl (hb hby at_226) kt_) ?_
        show Done p e s below _ _ _ T125 (mkF m 227 #[.val (.int p0), .val (.int p1), .val (.int p2), .val (.int p3), .val (.int p4), .val (.int pa), .val (.int pb), .val (.int pc), .val (.int pe), .val (.ref b84), .val (.ref bS), .val (.ref bD), .val (.int (1 : Int32)), .val (.int (1 : Int32)), .val (.int (3 : Int32)), .val (.int (1 : Int32))] [(.int (1 : Int32))])
        refine Done.go (fun _ kt_ => XS.goto X125h.here hx rfl (pc0 := 227) (pc' := 231) rfl (hb hby at_227) (by decide) (by decide) kt_) ?_
        show Done p e s below _ _ _ T125 (mkF m 231 #[.val (.int p0), .val (.int p1), .val (.int p2), .val (.int p3), .val (.int p4), .val (.int pa), .val (.int pb), .val (.int pc), .val (.int pe), .val (.ref b84), .val (.ref bS), .val (.ref bD), .val (.int (1 : Int32)), .val (.int (1 : Int32)), .val (.int (3 : Int32)), .val (.int (1 : Int32))] [(.int (1 : Int32))])
        refine Done.go (fun _ kt_ => XS.istore X125h.here hx rfl (hb hby at_231) rfl (l' := #[.val (.int p0), .val (.int p1), .val (.int p2), .val (.int p3), .val (.int p4), .val (.int pa), .val (.int pb), .val (.int pc), .val (.int pe), .val (.ref b84), .val (.ref bS), .val (.ref bD), .val (.int (1 : Int32)), .val (.int (1 : Int32)), .val (.int (3 : Int32)), .val (.int (1 : Int32))]) rfl kt_) ?_
        show Done p e s below _ _ _ T125 (mkF m 233 #[.val (.int p0), .val (.int p1), .val (.int p2), .val (.int p3), .val (.int p4), .val (.int pa), .val (.int pb), .val (.int pc), .val (.int pe), .val (.ref b84), .val (.ref bS), .val (.ref bD), .val (.int (1 : Int32)), .val (.int (1 : Int32)), .val (.int (3 : Int32)), .val (.int (1 : Int32))] [])
        refine Done.go (fun _ kt_ => XS.iload X125h.here hx rfl (hb hby at_233) rfl kt_) ?_
        show Done p e s below _ _ _ T125 (mkF m 235 #[.val (.int p0), .val (.int p1), .val (.int p2), .val (.int p3), .val (.int p4), .val (.int pa), .val (.int pb), .val (.int pc), .val (.int pe), .val (.ref b84), .val (.ref bS), .val (.ref bD), .val (.int (1 : Int32)), .val (.int (1 : Int32)), .val (.int (3 : Int32)), .val (.int (1 : Int32))] [(.int (1 : Int32))])
        refine Done.go (fun _ kt_ => XS.ifNo X125h.here hx rfl (hb hby at_235) rfl ((if0 _ _).trans (feq (by decide)).1) kt_) ?_
        show Done p e s below _ _ _ T125 (mkF m 238 #[.val (.int p0), .val (.int p1), .val (.int p2), .val (.int p3), .val (.int p4), .val (.int pa), .val (.int pb), .val (.int pc), .val (.int pe), .val (.ref b84), .val (.ref bS), .val (.ref bD), .val (.int (1 : Int32)), .val (.int (1 : Int32)), .val (.int (3 : Int32)), .val (.int (1 : Int32))] [])
        refine Done.go (fun _ kt_ => XS.aload X125h.here hx rfl (hb hby at_238) rfl rfl kt_) ?_
        show Done p e s below _ _ _ T125 (mkF m 240 #[.val (.int p0), .val (.int p1), .val (.int p2), .val (.int p3), .val (.int p4), .val (.int pa), .val (.int pb), .val (.int pc), .val (.int pe), .val (.ref b84), .val (.ref bS), .val (.ref bD), .val (.int (1 : Int32)), .val (.int (1 : Int32)), .val (.int (3 : Int32)), .val (.int (1 : Int32))] [(.ref bD)])
        refine Done.go (fun _ kt_ => XS.iload X125h.here hx rfl (hb hby at_240) rfl kt_) ?_
        show Done p e s below _ _ _ T125 (mkF m 242 #[.val (.int p0), .val (.int p1), .val (.int p2), .val (.int p3), .val (.int p4), .val (.int pa), .val (.int pb), .val (.int pc), .val (.int pe), .val (.ref b84), .val (.ref bS), .val (.ref bD), .val (.int (1 : Int32)), .val (.int (1 : Int32)), .val (.int (3 : Int32)), .val (.int (1 : Int32))] [(.int pa), (.ref bD)])
        refine Done.ldD X125h hx hZ e125 VD124 (j := pa) (y := ((0 : Int64) + (p1.toInt64))) A (own_ix hA).1 (own_ix hA).2 hA4 (by simp [own_u, n_AB, n_BA, n_ACc, n_CcA, n_BCc, n_CcB]) (hb hby at_242) ?_
        show Done p e s below _ _ _ T125 (mkF m 243 #[.val (.int p0), .val (.int p1), .val (.int p2), .val (.int p3), .val (.int p4), .val (.int pa), .val (.int pb), .val (.int pc), .val (.int pe), .val (.ref b84), .val (.ref bS), .val (.ref bD), .val (.int (1 : Int32)), .val (.int (1 : Int32)), .val (.int (3 : Int32)), .val (.int (1 : Int32))] [(.double (FP.l2d ((0 : Int64) + (p1.toInt64))))])
        refine Done.go (fun _ kt_ => XS.iload X125h.here hx rfl (hb hby at_243) rfl kt_) ?_
        show Done p e s below _ _ _ T125 (mkF m 245 #[.val (.int p0), .val (.int p1), .val (.int p2), .val (.int p3), .val (.int p4), .val (.int pa), .val (.int pb), .val (.int pc), .val (.int pe), .val (.ref b84), .val (.ref bS), .val (.ref bD), .val (.int (1 : Int32)), .val (.int (1 : Int32)), .val (.int (3 : Int32)), .val (.int (1 : Int32))] [(.int pa), (.double (FP.l2d ((0 : Int64) + (p1.toInt64))))])
        refine Done.go (fun _ kt_ => XS.iload X125h.here hx rfl (hb hby at_245) rfl kt_) ?_
        show Done p e s below _ _ _ T125 (mkF m 247 #[.val (.int p0), .val (.int p1), .val (.int p2), .val (.int p3), .val (.int p4), .val (.int pa), .val (.int pb), .val (.int pc), .val (.int pe), .val (.ref b84), .val (.ref bS), .val (.ref bD), .val (.int (1 : Int32)), .val (.int (1 : Int32)), .val (.int (3 : Int32)), .val (.int (1 : Int32))] [(.int pa), (.int pa), (.double (FP.l2d ((0 : Int64) + (p1.toInt64))))])
        refine Done.go (fun _ kt_ => XS.iload X125h.here hx rfl (hb hby at_247) rfl kt_) ?_
        show Done p e s below _ _ _ T125 (mkF m 249 #[.val (.int p0), .val (.int p1), .val (.int p2), .val (.int p3), .val (.int p4), .val (.int pa), .val (.int pb), .val (.int pc), .val (.int pe), .val (.ref b84), .val (.ref bS), .val (.ref bD), .val (.int (1 : Int32)), .val (.int (1 : Int32)), .val (.int (3 : Int32)), .val (.int (1 : Int32))] [(.int pb), (.int pa), (.int pa), (.double (FP.l2d ((0 : Int64) + (p1.toInt64))))])
        refine Done.go (fun _ kt_ => XS.iload X125h.here hx rfl (hb hby at_249) rfl kt_) ?_
        show Done p e s below _ _ _ T125 (mkF m 251 #[.val (.int p0), .val (.int p1), .val (.int p2), .val (.int p3), .val (.int p4), .val (.int pa), .val (.int pb), .val (.int pc), .val (.int pe), .val (.ref b84), .val (.ref bS), .val (.ref bD), .val (.int (1 : Int32)), .val (.int (1 : Int32)), .val (.int (3 : Int32)), .val (.int (1 : Int32))] [(.int pc), (.int pb), (.int pa), (.int pa), (.double (FP.l2d ((0 : Int64) + (p1.toInt64))))])
        refine Done.go (fun _ kt_ => XS.iloadN X125h.here hx rfl (hb hby at_251) rfl kt_) ?_
        show Done p e s below _ _ _ T125 (mkF m 252 #[.val (.int p0), .val (.int p1), .val (.int p2), .val (.int p3), .val (.int p4), .val (.int pa), .val (.int pb), .val (.int pc), .val (.int pe), .val (.ref b84), .val (.ref bS), .val (.ref bD), .val (.int (1 : Int32)), .val (.int (1 : Int32)), .val (.int (3 : Int32)), .val (.int (1 : Int32))] [(.int p1), (.int pc), (.int pb), (.int pa), (.int pa), (.double (FP.l2d ((0 : Int64) + (p1.toInt64))))])
        refine Done.go (fun _ kt_ => XS.iloadN X125h.here hx rfl (hb hby at_252) rfl kt_) ?_
        show Done p e s below _ _ _ T125 (mkF m 253 #[.val (.int p0), .val (.int p1), .val (.int p2), .val (.int p3), .val (.int p4), .val (.int pa), .val (.int pb), .val (.int pc), .val (.int pe), .val (.ref b84), .val (.ref bS), .val (.ref bD), .val (.int (1 : Int32)), .val (.int (1 : Int32)), .val (.int (3 : Int32)), .val (.int (1 : Int32))] [(.int p2), (.int p1), (.int pc), (.int pb), (.int pa), (.int pa), (.double (FP.l2d ((0 : Int64) + (p1.toInt64))))])
        refine Done.go (fun _ kt_ => XS.iloadN X125h.here hx rfl (hb hby at_253) rfl kt_) ?_
        show Done p e s below _ _ _ T125 (mkF m 254 #[.val (.int p0), .val (.int p1), .val (.int p2), .val (.int p3), .val (.int p4), .val (.int pa), .val (.int pb), .val (.int pc), .val (.int pe), .val (.ref b84), .val (.ref bS), .val (.ref bD), .val (.int (1 : Int32)), .val (.int (1 : Int32)), .val (.int (3 : Int32)), .val (.int (1 : Int32))] [(.int p3), (.int p2), (.int p1), (.int pc), (.int pb), (.int pa), (.int pa), (.double (FP.l2d ((0 : Int64) + (p1.toInt64))))])
        obtain ⟨v126, T126, Lc126, X126, hQ126, st126⟩ := own_backG (Jvm.LawKit.callS X125h hx (y := (⟨"com/example/pivotwise/pivotwise/retrieval/ScoresAddPinLaw", "sum", "(IIIIIII)D"⟩ : MethodName)) hown (mvT hZ (hw _ (List.mem_of_getElem? (i := 46) rfl))) (mvT hZ (hw _ (List.mem_of_getElem? (i := 47) rfl))) (mvT hZ (hw _ (List.mem_of_getElem? (i := 48) rfl))) (mvT hZ (hw _ (List.mem_of_getElem? (i := 49) rfl))) (by decide) (backOf (W := 2) (rm8 l Z a0 hw [] pa pa pb pc p1 p2 p3 T124.heap n0 Z124) hZ (hw _ (List.mem_of_getElem? (i := 49) rfl)) (hw _ (List.mem_of_getElem? (i := 48) rfl)) (by decide) (by decide)) (g := (mkF m 254 #[.val (.int p0), .val (.int p1), .val (.int p2), .val (.int p3), .val (.int p4), .val (.int pa), .val (.int pb), .val (.int pc), .val (.int pe), .val (.ref b84), .val (.ref bS), .val (.ref bD), .val (.int (1 : Int32)), .val (.int (1 : Int32)), .val (.int (3 : Int32)), .val (.int (1 : Int32))] [(.int p3), (.int p2), (.int p1), (.int pc), (.int pb), (.int pa), (.int pa), (.double (FP.l2d ((0 : Int64) + (p1.toInt64))))])) rfl (by rw [hml]; rfl) (argsL := [(.int pa), (.int pa), (.int pb), (.int pc), (.int p1), (.int p2), (.int p3)]) (rest := [(.double (FP.l2d ((0 : Int64) + (p1.toInt64))))]) (lenOf own_pd6 rfl) rfl (by show 2 * 0 + _ ≤ _; exact Nat.le_of_eq rfl) (hb hby at_254) (fun _ _ => ⟨rfl, e125, (by first | decide | omega : 4 + 0 ≤ _), (by first | decide | omega : 17 + 0 ≤ _)⟩))
        obtain ⟨rfl, N126q, e126⟩ := hQ126
        refine Done.go st126 ?_
        clear st126
        have N126 := Fr.app N125h N126q
        clear N126q
        obtain ⟨Lh126, X126h, N126h⟩ : ∃ L, Stand p l e room_1 s m #[(.int p0), (.int p1), (.int p2), (.int p3), (.int p4)] below meth c T126 L 4 17 ∧ Fr n0 L := ⟨_, X126, N126⟩
        clear X126 N126 X125h e125 N125h
        show Done p e s below _ _ _ T126 (mkF m 257 #[.val (.int p0), .val (.int p1), .val (.int p2), .val (.int p3), .val (.int p4), .val (.int pa), .val (.int pb), .val (.int pc), .val (.int pe), .val (.ref b84), .val (.ref bS), .val (.ref bD), .val (.int (1 : Int32)), .val (.int (1 : Int32)), .val (.int (3 : Int32)), .val (.int (1 : Int32))] [(.double (FP.l2d (own_sum pa pa pb pc p1 p2 p3))), (.double (FP.l2d ((0 : Int64) + (p1.toInt64))))])
        refine Done.go (fun _ kt_ => XS.dcmpS X126h.here hx rfl (hb hby at_257) rfl (dcmpV_w (own_leB (own_leA own_le0 (by decide) p1) (by decide)) (own_leB (own_leT _ _ _ _ _ _ _) (by decide)) _) kt_) ?_
        show Done p e s below _ _ _ T126 (mkF m 258 #[.val (.int p0), .val (.int p1), .val (.int p2), .val (.int p3), .val (.int p4), .val (.int pa), .val (.int pb), .val (.int pc), .val (.int pe), .val (.ref b84), .val (.ref bS), .val (.ref bD), .val (.int (1 : Int32)), .val (.int (1 : Int32)), .val (.int (3 : Int32)), .val (.int (1 : Int32))] [(.int (lcmpW ((0 : Int64) + (p1.toInt64)) (own_sum pa pa pb pc p1 p2 p3)))])
        refine Done.go (fun _ kt_ => XS.ifNo X126h.here hx rfl (hb hby at_258) rfl ((if0 _ _).trans (teq ((lw_eq _ _).mpr (by simp only [own_sum, own_s1, i_papb, i_pbpa, i_papc, i_pcpa, i_pbpc, i_pcpb, if_true, if_false]))).2) kt_) ?_
        show Done p e s below _ _ _ T126 (mkF m 261 #[.val (.int p0), .val (.int p1), .val (.int p2), .val (.int p3), .val (.int p4), .val (.int pa), .val (.int pb), .val (.int pc), .val (.int pe), .val (.ref b84), .val (.ref bS), .val (.ref bD), .val (.int (1 : Int32)), .val (.int (1 : Int32)), .val (.int (3 : Int32)), .val (.int (1 : Int32))] [])
        refine Done.go (fun _ kt_ => XS.iconst X126h.here hx rfl (hb hby at_261) kt_) ?_
        show Done p e s below _ _ _ T126 (mkF m 262 #[.val (.int p0), .val (.int p1), .val (.int p2), .val (.int p3), .val (.int p4), .val (.int pa), .val (.int pb), .val (.int pc), .val (.int pe), .val (.ref b84), .val (.ref bS), .val (.ref bD), .val (.int (1 : Int32)), .val (.int (1 : Int32)), .val (.int (3 : Int32)), .val (.int (1 : Int32))] [(.int (1 : Int32))])
        refine Done.go (fun _ kt_ => XS.goto X126h.here hx rfl (pc0 := 262) (pc' := 266) rfl (hb hby at_262) (by decide) (by decide) kt_) ?_
        show Done p e s below _ _ _ T126 (mkF m 266 #[.val (.int p0), .val (.int p1), .val (.int p2), .val (.int p3), .val (.int p4), .val (.int pa), .val (.int pb), .val (.int pc), .val (.int pe), .val (.ref b84), .val (.ref bS), .val (.ref bD), .val (.int (1 : Int32)), .val (.int (1 : Int32)), .val (.int (3 : Int32)), .val (.int (1 : Int32))] [(.int (1 : Int32))])
        refine Done.go (fun _ kt_ => XS.istore X126h.here hx rfl (hb hby at_266) rfl (l' := #[.val (.int p0), .val (.int p1), .val (.int p2), .val (.int p3), .val (.int p4), .val (.int pa), .val (.int pb), .val (.int pc), .val (.int pe), .val (.ref b84), .val (.ref bS), .val (.ref bD), .val (.int (1 : Int32)), .val (.int (1 : Int32)), .val (.int (3 : Int32)), .val (.int (1 : Int32))]) rfl kt_) ?_
        show Done p e s below _ _ _ T126 (mkF m 268 #[.val (.int p0), .val (.int p1), .val (.int p2), .val (.int p3), .val (.int p4), .val (.int pa), .val (.int pb), .val (.int pc), .val (.int pe), .val (.ref b84), .val (.ref bS), .val (.ref bD), .val (.int (1 : Int32)), .val (.int (1 : Int32)), .val (.int (3 : Int32)), .val (.int (1 : Int32))] [])
        refine Done.go (fun _ kt_ => XS.iload X126h.here hx rfl (hb hby at_268) rfl kt_) ?_
        show Done p e s below _ _ _ T126 (mkF m 270 #[.val (.int p0), .val (.int p1), .val (.int p2), .val (.int p3), .val (.int p4), .val (.int pa), .val (.int pb), .val (.int pc), .val (.int pe), .val (.ref b84), .val (.ref bS), .val (.ref bD), .val (.int (1 : Int32)), .val (.int (1 : Int32)), .val (.int (3 : Int32)), .val (.int (1 : Int32))] [(.int (1 : Int32))])
        refine Done.go (fun _ kt_ => XS.ifNo X126h.here hx rfl (hb hby at_270) rfl ((if0 _ _).trans (feq (by decide)).1) kt_) ?_
        show Done p e s below _ _ _ T126 (mkF m 273 #[.val (.int p0), .val (.int p1), .val (.int p2), .val (.int p3), .val (.int p4), .val (.int pa), .val (.int pb), .val (.int pc), .val (.int pe), .val (.ref b84), .val (.ref bS), .val (.ref bD), .val (.int (1 : Int32)), .val (.int (1 : Int32)), .val (.int (3 : Int32)), .val (.int (1 : Int32))] [])
        refine Done.go (fun _ kt_ => XS.aload X126h.here hx rfl (hb hby at_273) rfl rfl kt_) ?_
        show Done p e s below _ _ _ T126 (mkF m 275 #[.val (.int p0), .val (.int p1), .val (.int p2), .val (.int p3), .val (.int p4), .val (.int pa), .val (.int pb), .val (.int pc), .val (.int pe), .val (.ref b84), .val (.ref bS), .val (.ref bD), .val (.int (1 : Int32)), .val (.int (1 : Int32)), .val (.int (3 : Int32)), .val (.int (1 : Int32))] [(.ref bD)])
        refine Done.go (fun _ kt_ => XS.iload X126h.here hx rfl (hb hby at_275) rfl kt_) ?_
        show Done p e s below _ _ _ T126 (mkF m 277 #[.val (.int p0), .val (.int p1), .val (.int p2), .val (.int p3), .val (.int p4), .val (.int pa), .val (.int pb), .val (.int pc), .val (.int pe), .val (.ref b84), .val (.ref bS), .val (.ref bD), .val (.int (1 : Int32)), .val (.int (1 : Int32)), .val (.int (3 : Int32)), .val (.int (1 : Int32))] [(.int pb), (.ref bD)])
        refine Done.ldD X126h hx hZ e126 VD124 (j := pb) (y := ((0 : Int64) + (p2.toInt64))) B (own_ix hB).1 (own_ix hB).2 hB4 (by simp [own_u, n_AB, n_BA, n_ACc, n_CcA, n_BCc, n_CcB]) (hb hby at_277) ?_
        show Done p e s below _ _ _ T126 (mkF m 278 #[.val (.int p0), .val (.int p1), .val (.int p2), .val (.int p3), .val (.int p4), .val (.int pa), .val (.int pb), .val (.int pc), .val (.int pe), .val (.ref b84), .val (.ref bS), .val (.ref bD), .val (.int (1 : Int32)), .val (.int (1 : Int32)), .val (.int (3 : Int32)), .val (.int (1 : Int32))] [(.double (FP.l2d ((0 : Int64) + (p2.toInt64))))])
        refine Done.go (fun _ kt_ => XS.iload X126h.here hx rfl (hb hby at_278) rfl kt_) ?_
        show Done p e s below _ _ _ T126 (mkF m 280 #[.val (.int p0), .val (.int p1), .val (.int p2), .val (.int p3), .val (.int p4), .val (.int pa), .val (.int pb), .val (.int pc), .val (.int pe), .val (.ref b84), .val (.ref bS), .val (.ref bD), .val (.int (1 : Int32)), .val (.int (1 : Int32)), .val (.int (3 : Int32)), .val (.int (1 : Int32))] [(.int pb), (.double (FP.l2d ((0 : Int64) + (p2.toInt64))))])
        refine Done.go (fun _ kt_ => XS.iload X126h.here hx rfl (hb hby at_280) rfl kt_) ?_
        show Done p e s below _ _ _ T126 (mkF m 282 #[.val (.int p0), .val (.int p1), .val (.int p2), .val (.int p3), .val (.int p4), .val (.int pa), .val (.int pb), .val (.int pc), .val (.int pe), .val (.ref b84), .val (.ref bS), .val (.ref bD), .val (.int (1 : Int32)), .val (.int (1 : Int32)), .val (.int (3 : Int32)), .val (.int (1 : Int32))] [(.int pa), (.int pb), (.double (FP.l2d ((0 : Int64) + (p2.toInt64))))])
        refine Done.go (fun _ kt_ => XS.iload X126h.here hx rfl (hb hby at_282) rfl kt_) ?_
        show Done p e s below _ _ _ T126 (mkF m 284 #[.val (.int p0), .val (.int p1), .val (.int p2), .val (.int p3), .val (.int p4), .val (.int pa), .val (.int pb), .val (.int pc), .val (.int pe), .val (.ref b84), .val (.ref bS), .val (.ref bD), .val (.int (1 : Int32)), .val (.int (1 : Int32)), .val (.int (3 : Int32)), .val (.int (1 : Int32))] [(.int pb), (.int pa), (.int pb), (.double (FP.l2d ((0 : Int64) + (p2.toInt64))))])
        refine Done.go (fun _ kt_ => XS.iload X126h.here hx rfl (hb hby at_284) rfl kt_) ?_
        show Done p e s below _ _ _ T126 (mkF m 286 #[.val (.int p0), .val (.int p1), .val (.int p2), .val (.int p3), .val (.int p4), .val (.int pa), .val (.int pb), .val (.int pc), .val (.int pe), .val (.ref b84), .val (.ref bS), .val (.ref bD), .val (.int (1 : Int32)), .val (.int (1 : Int32)), .val (.int (3 : Int32)), .val (.int (1 : Int32))] [(.int pc), (.int pb), (.int pa), (.int pb), (.double (FP.l2d ((0 : Int64) + (p2.toInt64))))])
        refine Done.go (fun _ kt_ => XS.iloadN X126h.here hx rfl (hb hby at_286) rfl kt_) ?_
        show Done p e s below _ _ _ T126 (mkF m 287 #[.val (.int p0), .val (.int p1), .val (.int p2), .val (.int p3), .val (.int p4), .val (.int pa), .val (.int pb), .val (.int pc), .val (.int pe), .val (.ref b84), .val (.ref bS), .val (.ref bD), .val (.int (1 : Int32)), .val (.int (1 : Int32)), .val (.int (3 : Int32)), .val (.int (1 : Int32))] [(.int p1), (.int pc), (.int pb), (.int pa), (.int pb), (.double (FP.l2d ((0 : Int64) + (p2.toInt64))))])
        refine Done.go (fun _ kt_ => XS.iloadN X126h.here hx rfl (hb hby at_287) rfl kt_) ?_
        show Done p e s below _ _ _ T126 (mkF m 288 #[.val (.int p0), .val (.int p1), .val (.int p2), .val (.int p3), .val (.int p4), .val (.int pa), .val (.int pb), .val (.int pc), .val (.int pe), .val (.ref b84), .val (.ref bS), .val (.ref bD), .val (.int (1 : Int32)), .val (.int (1 : Int32)), .val (.int (3 : Int32)), .val (.int (1 : Int32))] [(.int p2), (.int p1), (.int pc), (.int pb), (.int pa), (.int pb), (.double (FP.l2d ((0 : Int64) + (p2.toInt64))))])
        refine Done.go (fun _ kt_ => XS.iloadN X126h.here hx rfl (hb hby at_288) rfl kt_) ?_
        show Done p e s below _ _ _ T126 (mkF m 289 #[.val (.int p0), .val (.int p1), .val (.int p2), .val (.int p3), .val (.int p4), .val (.int pa), .val (.int pb), .val (.int pc), .val (.int pe), .val (.ref b84), .val (.ref bS), .val (.ref bD), .val (.int (1 : Int32)), .val (.int (1 : Int32)), .val (.int (3 : Int32)), .val (.int (1 : Int32))] [(.int p3), (.int p2), (.int p1), (.int pc), (.int pb), (.int pa), (.int pb), (.double (FP.l2d ((0 : Int64) + (p2.toInt64))))])
        obtain ⟨v127, T127, Lc127, X127, hQ127, st127⟩ := own_backG (Jvm.LawKit.callS X126h hx (y := (⟨"com/example/pivotwise/pivotwise/retrieval/ScoresAddPinLaw", "sum", "(IIIIIII)D"⟩ : MethodName)) hown (mvT hZ (hw _ (List.mem_of_getElem? (i := 46) rfl))) (mvT hZ (hw _ (List.mem_of_getElem? (i := 47) rfl))) (mvT hZ (hw _ (List.mem_of_getElem? (i := 48) rfl))) (mvT hZ (hw _ (List.mem_of_getElem? (i := 49) rfl))) (by decide) (backOf (W := 2) (rm8 l Z a0 hw [] pb pa pb pc p1 p2 p3 T124.heap n0 Z124) hZ (hw _ (List.mem_of_getElem? (i := 49) rfl)) (hw _ (List.mem_of_getElem? (i := 48) rfl)) (by decide) (by decide)) (g := (mkF m 289 #[.val (.int p0), .val (.int p1), .val (.int p2), .val (.int p3), .val (.int p4), .val (.int pa), .val (.int pb), .val (.int pc), .val (.int pe), .val (.ref b84), .val (.ref bS), .val (.ref bD), .val (.int (1 : Int32)), .val (.int (1 : Int32)), .val (.int (3 : Int32)), .val (.int (1 : Int32))] [(.int p3), (.int p2), (.int p1), (.int pc), (.int pb), (.int pa), (.int pb), (.double (FP.l2d ((0 : Int64) + (p2.toInt64))))])) rfl (by rw [hml]; rfl) (argsL := [(.int pb), (.int pa), (.int pb), (.int pc), (.int p1), (.int p2), (.int p3)]) (rest := [(.double (FP.l2d ((0 : Int64) + (p2.toInt64))))]) (lenOf own_pd6 rfl) rfl (by show 2 * 0 + _ ≤ _; exact Nat.le_of_eq rfl) (hb hby at_289) (fun _ _ => ⟨rfl, e126, (by first | decide | omega : 4 + 0 ≤ _), (by first | decide | omega : 17 + 0 ≤ _)⟩))
        obtain ⟨rfl, N127q, e127⟩ := hQ127
        refine Done.go st127 ?_
        clear st127
        have N127 := Fr.app N126h N127q
        clear N127q
        obtain ⟨Lh127, X127h, N127h⟩ : ∃ L, Stand p l e room_1 s m #[(.int p0), (.int p1), (.int p2), (.int p3), (.int p4)] below meth c T127 L 4 17 ∧ Fr n0 L := ⟨_, X127, N127⟩
        clear X127 N127 X126h e126 N126h
        show Done p e s below _ _ _ T127 (mkF m 292 #[.val (.int p0), .val (.int p1), .val (.int p2), .val (.int p3), .val (.int p4), .val (.int pa), .val (.int pb), .val (.int pc), .val (.int pe), .val (.ref b84), .val (.ref bS), .val (.ref bD), .val (.int (1 : Int32)), .val (.int (1 : Int32)), .val (.int (3 : Int32)), .val (.int (1 : Int32))] [(.double (FP.l2d (own_sum pb pa pb pc p1 p2 p3))), (.double (FP.l2d ((0 : Int64) + (p2.toInt64))))])
        refine Done.go (fun _ kt_ => XS.dcmpS X127h.here hx rfl (hb hby at_292) rfl (dcmpV_w (own_leB (own_leA own_le0 (by decide) p2) (by decide)) (own_leB (own_leT _ _ _ _ _ _ _) (by decide)) _) kt_) ?_
        show Done p e s below _ _ _ T127 (mkF m 293 #[.val (.int p0), .val (.int p1), .val (.int p2), .val (.int p3), .val (.int p4), .val (.int pa), .val (.int pb), .val (.int pc), .val (.int pe), .val (.ref b84), .val (.ref bS), .val (.ref bD), .val (.int (1 : Int32)), .val (.int (1 : Int32)), .val (.int (3 : Int32)), .val (.int (1 : Int32))] [(.int (lcmpW ((0 : Int64) + (p2.toInt64)) (own_sum pb pa pb pc p1 p2 p3)))])
        refine Done.go (fun _ kt_ => XS.ifNo X127h.here hx rfl (hb hby at_293) rfl ((if0 _ _).trans (teq ((lw_eq _ _).mpr (by simp only [own_sum, own_s1, i_papb, i_pbpa, i_papc, i_pcpa, i_pbpc, i_pcpb, if_true, if_false]))).2) kt_) ?_
        show Done p e s below _ _ _ T127 (mkF m 296 #[.val (.int p0), .val (.int p1), .val (.int p2), .val (.int p3), .val (.int p4), .val (.int pa), .val (.int pb), .val (.int pc), .val (.int pe), .val (.ref b84), .val (.ref bS), .val (.ref bD), .val (.int (1 : Int32)), .val (.int (1 : Int32)), .val (.int (3 : Int32)), .val (.int (1 : Int32))] [])
        refine Done.go (fun _ kt_ => XS.iconst X127h.here hx rfl (hb hby at_296) kt_) ?_
        show Done p e s below _ _ _ T127 (mkF m 297 #[.val (.int p0), .val (.int p1), .val (.int p2), .val (.int p3), .val (.int p4), .val (.int pa), .val (.int pb), .val (.int pc), .val (.int pe), .val (.ref b84), .val (.ref bS), .val (.ref bD), .val (.int (1 : Int32)), .val (.int (1 : Int32)), .val (.int (3 : Int32)), .val (.int (1 : Int32))] [(.int (1 : Int32))])
        refine Done.go (fun _ kt_ => XS.goto X127h.here hx rfl (pc0 := 297) (pc' := 301) rfl (hb hby at_297) (by decide) (by decide) kt_) ?_
        show Done p e s below _ _ _ T127 (mkF m 301 #[.val (.int p0), .val (.int p1), .val (.int p2), .val (.int p3), .val (.int p4), .val (.int pa), .val (.int pb), .val (.int pc), .val (.int pe), .val (.ref b84), .val (.ref bS), .val (.ref bD), .val (.int (1 : Int32)), .val (.int (1 : Int32)), .val (.int (3 : Int32)), .val (.int (1 : Int32))] [(.int (1 : Int32))])
        refine Done.go (fun _ kt_ => XS.istore X127h.here hx rfl (hb hby at_301) rfl (l' := #[.val (.int p0), .val (.int p1), .val (.int p2), .val (.int p3), .val (.int p4), .val (.int pa), .val (.int pb), .val (.int pc), .val (.int pe), .val (.ref b84), .val (.ref bS), .val (.ref bD), .val (.int (1 : Int32)), .val (.int (1 : Int32)), .val (.int (3 : Int32)), .val (.int (1 : Int32))]) rfl kt_) ?_
        show Done p e s below _ _ _ T127 (mkF m 303 #[.val (.int p0), .val (.int p1), .val (.int p2), .val (.int p3), .val (.int p4), .val (.int pa), .val (.int pb), .val (.int pc), .val (.int pe), .val (.ref b84), .val (.ref bS), .val (.ref bD), .val (.int (1 : Int32)), .val (.int (1 : Int32)), .val (.int (3 : Int32)), .val (.int (1 : Int32))] [])
        refine Done.go (fun _ kt_ => XS.iload X127h.here hx rfl (hb hby at_303) rfl kt_) ?_
        show Done p e s below _ _ _ T127 (mkF m 305 #[.val (.int p0), .val (.int p1), .val (.int p2), .val (.int p3), .val (.int p4), .val (.int pa), .val (.int pb), .val (.int pc), .val (.int pe), .val (.ref b84), .val (.ref bS), .val (.ref bD), .val (.int (1 : Int32)), .val (.int (1 : Int32)), .val (.int (3 : Int32)), .val (.int (1 : Int32))] [(.int (1 : Int32))])
        refine Done.go (fun _ kt_ => XS.ifNo X127h.here hx rfl (hb hby at_305) rfl ((if0 _ _).trans (feq (by decide)).1) kt_) ?_
        show Done p e s below _ _ _ T127 (mkF m 308 #[.val (.int p0), .val (.int p1), .val (.int p2), .val (.int p3), .val (.int p4), .val (.int pa), .val (.int pb), .val (.int pc), .val (.int pe), .val (.ref b84), .val (.ref bS), .val (.ref bD), .val (.int (1 : Int32)), .val (.int (1 : Int32)), .val (.int (3 : Int32)), .val (.int (1 : Int32))] [])
        refine Done.go (fun _ kt_ => XS.aload X127h.here hx rfl (hb hby at_308) rfl rfl kt_) ?_
        show Done p e s below _ _ _ T127 (mkF m 310 #[.val (.int p0), .val (.int p1), .val (.int p2), .val (.int p3), .val (.int p4), .val (.int pa), .val (.int pb), .val (.int pc), .val (.int pe), .val (.ref b84), .val (.ref bS), .val (.ref bD), .val (.int (1 : Int32)), .val (.int (1 : Int32)), .val (.int (3 : Int32)), .val (.int (1 : Int32))] [(.ref bD)])
        refine Done.go (fun _ kt_ => XS.iload X127h.here hx rfl (hb hby at_310) rfl kt_) ?_
        show Done p e s below _ _ _ T127 (mkF m 312 #[.val (.int p0), .val (.int p1), .val (.int p2), .val (.int p3), .val (.int p4), .val (.int pa), .val (.int pb), .val (.int pc), .val (.int pe), .val (.ref b84), .val (.ref bS), .val (.ref bD), .val (.int (1 : Int32)), .val (.int (1 : Int32)), .val (.int (3 : Int32)), .val (.int (1 : Int32))] [(.int pc), (.ref bD)])
        refine Done.ldD X127h hx hZ e127 VD124 (j := pc) (y := ((0 : Int64) + (p3.toInt64))) Cc (own_ix hCc).1 (own_ix hCc).2 hCc4 (by simp [own_u, n_AB, n_BA, n_ACc, n_CcA, n_BCc, n_CcB]) (hb hby at_312) ?_
        show Done p e s below _ _ _ T127 (mkF m 313 #[.val (.int p0), .val (.int p1), .val (.int p2), .val (.int p3), .val (.int p4), .val (.int pa), .val (.int pb), .val (.int pc), .val (.int pe), .val (.ref b84), .val (.ref bS), .val (.ref bD), .val (.int (1 : Int32)), .val (.int (1 : Int32)), .val (.int (3 : Int32)), .val (.int (1 : Int32))] [(.double (FP.l2d ((0 : Int64) + (p3.toInt64))))])
        refine Done.go (fun _ kt_ => XS.iload X127h.here hx rfl (hb hby at_313) rfl kt_) ?_
        show Done p e s below _ _ _ T127 (mkF m 315 #[.val (.int p0), .val (.int p1), .val (.int p2), .val (.int p3), .val (.int p4), .val (.int pa), .val (.int pb), .val (.int pc), .val (.int pe), .val (.ref b84), .val (.ref bS), .val (.ref bD), .val (.int (1 : Int32)), .val (.int (1 : Int32)), .val (.int (3 : Int32)), .val (.int (1 : Int32))] [(.int pc), (.double (FP.l2d ((0 : Int64) + (p3.toInt64))))])
        refine Done.go (fun _ kt_ => XS.iload X127h.here hx rfl (hb hby at_315) rfl kt_) ?_
        show Done p e s below _ _ _ T127 (mkF m 317 #[.val (.int p0), .val (.int p1), .val (.int p2), .val (.int p3), .val (.int p4), .val (.int pa), .val (.int pb), .val (.int pc), .val (.int pe), .val (.ref b84), .val (.ref bS), .val (.ref bD), .val (.int (1 : Int32)), .val (.int (1 : Int32)), .val (.int (3 : Int32)), .val (.int (1 : Int32))] [(.int pa), (.int pc), (.double (FP.l2d ((0 : Int64) + (p3.toInt64))))])
        refine Done.go (fun _ kt_ => XS.iload X127h.here hx rfl (hb hby at_317) rfl kt_) ?_
        show Done p e s below _ _ _ T127 (mkF m 319 #[.val (.int p0), .val (.int p1), .val (.int p2), .val (.int p3), .val (.int p4), .val (.int pa), .val (.int pb), .val (.int pc), .val (.int pe), .val (.ref b84), .val (.ref bS), .val (.ref bD), .val (.int (1 : Int32)), .val (.int (1 : Int32)), .val (.int (3 : Int32)), .val (.int (1 : Int32))] [(.int pb), (.int pa), (.int pc), (.double (FP.l2d ((0 : Int64) + (p3.toInt64))))])
        refine Done.go (fun _ kt_ => XS.iload X127h.here hx rfl (hb hby at_319) rfl kt_) ?_
        show Done p e s below _ _ _ T127 (mkF m 321 #[.val (.int p0), .val (.int p1), .val (.int p2), .val (.int p3), .val (.int p4), .val (.int pa), .val (.int pb), .val (.int pc), .val (.int pe), .val (.ref b84), .val (.ref bS), .val (.ref bD), .val (.int (1 : Int32)), .val (.int (1 : Int32)), .val (.int (3 : Int32)), .val (.int (1 : Int32))] [(.int pc), (.int pb), (.int pa), (.int pc), (.double (FP.l2d ((0 : Int64) + (p3.toInt64))))])
        refine Done.go (fun _ kt_ => XS.iloadN X127h.here hx rfl (hb hby at_321) rfl kt_) ?_
        show Done p e s below _ _ _ T127 (mkF m 322 #[.val (.int p0), .val (.int p1), .val (.int p2), .val (.int p3), .val (.int p4), .val (.int pa), .val (.int pb), .val (.int pc), .val (.int pe), .val (.ref b84), .val (.ref bS), .val (.ref bD), .val (.int (1 : Int32)), .val (.int (1 : Int32)), .val (.int (3 : Int32)), .val (.int (1 : Int32))] [(.int p1), (.int pc), (.int pb), (.int pa), (.int pc), (.double (FP.l2d ((0 : Int64) + (p3.toInt64))))])
        refine Done.go (fun _ kt_ => XS.iloadN X127h.here hx rfl (hb hby at_322) rfl kt_) ?_
        show Done p e s below _ _ _ T127 (mkF m 323 #[.val (.int p0), .val (.int p1), .val (.int p2), .val (.int p3), .val (.int p4), .val (.int pa), .val (.int pb), .val (.int pc), .val (.int pe), .val (.ref b84), .val (.ref bS), .val (.ref bD), .val (.int (1 : Int32)), .val (.int (1 : Int32)), .val (.int (3 : Int32)), .val (.int (1 : Int32))] [(.int p2), (.int p1), (.int pc), (.int pb), (.int pa), (.int pc), (.double (FP.l2d ((0 : Int64) + (p3.toInt64))))])
        refine Done.go (fun _ kt_ => XS.iloadN X127h.here hx rfl (hb hby at_323) rfl kt_) ?_
        show Done p e s below _ _ _ T127 (mkF m 324 #[.val (.int p0), .val (.int p1), .val (.int p2), .val (.int p3), .val (.int p4), .val (.int pa), .val (.int pb), .val (.int pc), .val (.int pe), .val (.ref b84), .val (.ref bS), .val (.ref bD), .val (.int (1 : Int32)), .val (.int (1 : Int32)), .val (.int (3 : Int32)), .val (.int (1 : Int32))] [(.int p3), (.int p2), (.int p1), (.int pc), (.int pb), (.int pa), (.int pc), (.double (FP.l2d ((0 : Int64) + (p3.toInt64))))])
        obtain ⟨v128, T128, Lc128, X128, hQ128, st128⟩ := own_backG (Jvm.LawKit.callS X127h hx (y := (⟨"com/example/pivotwise/pivotwise/retrieval/ScoresAddPinLaw", "sum", "(IIIIIII)D"⟩ : MethodName)) hown (mvT hZ (hw _ (List.mem_of_getElem? (i := 46) rfl))) (mvT hZ (hw _ (List.mem_of_getElem? (i := 47) rfl))) (mvT hZ (hw _ (List.mem_of_getElem? (i := 48) rfl))) (mvT hZ (hw _ (List.mem_of_getElem? (i := 49) rfl))) (by decide) (backOf (W := 2) (rm8 l Z a0 hw [] pc pa pb pc p1 p2 p3 T124.heap n0 Z124) hZ (hw _ (List.mem_of_getElem? (i := 49) rfl)) (hw _ (List.mem_of_getElem? (i := 48) rfl)) (by decide) (by decide)) (g := (mkF m 324 #[.val (.int p0), .val (.int p1), .val (.int p2), .val (.int p3), .val (.int p4), .val (.int pa), .val (.int pb), .val (.int pc), .val (.int pe), .val (.ref b84), .val (.ref bS), .val (.ref bD), .val (.int (1 : Int32)), .val (.int (1 : Int32)), .val (.int (3 : Int32)), .val (.int (1 : Int32))] [(.int p3), (.int p2), (.int p1), (.int pc), (.int pb), (.int pa), (.int pc), (.double (FP.l2d ((0 : Int64) + (p3.toInt64))))])) rfl (by rw [hml]; rfl) (argsL := [(.int pc), (.int pa), (.int pb), (.int pc), (.int p1), (.int p2), (.int p3)]) (rest := [(.double (FP.l2d ((0 : Int64) + (p3.toInt64))))]) (lenOf own_pd6 rfl) rfl (by show 2 * 0 + _ ≤ _; exact Nat.le_of_eq rfl) (hb hby at_324) (fun _ _ => ⟨rfl, e127, (by first | decide | omega : 4 + 0 ≤ _), (by first | decide | omega : 17 + 0 ≤ _)⟩))
        obtain ⟨rfl, N128q, e128⟩ := hQ128
        refine Done.go st128 ?_
        clear st128
        have N128 := Fr.app N127h N128q
        clear N128q
        obtain ⟨Lh128, X128h, N128h⟩ : ∃ L, Stand p l e room_1 s m #[(.int p0), (.int p1), (.int p2), (.int p3), (.int p4)] below meth c T128 L 4 17 ∧ Fr n0 L := ⟨_, X128, N128⟩
        clear X128 N128 X127h e127 N127h
        show Done p e s below _ _ _ T128 (mkF m 327 #[.val (.int p0), .val (.int p1), .val (.int p2), .val (.int p3), .val (.int p4), .val (.int pa), .val (.int pb), .val (.int pc), .val (.int pe), .val (.ref b84), .val (.ref bS), .val (.ref bD), .val (.int (1 : Int32)), .val (.int (1 : Int32)), .val (.int (3 : Int32)), .val (.int (1 : Int32))] [(.double (FP.l2d (own_sum pc pa pb pc p1 p2 p3))), (.double (FP.l2d ((0 : Int64) + (p3.toInt64))))])
        refine Done.go (fun _ kt_ => XS.dcmpS X128h.here hx rfl (hb hby at_327) rfl (dcmpV_w (own_leB (own_leA own_le0 (by decide) p3) (by decide)) (own_leB (own_leT _ _ _ _ _ _ _) (by decide)) _) kt_) ?_
        show Done p e s below _ _ _ T128 (mkF m 328 #[.val (.int p0), .val (.int p1), .val (.int p2), .val (.int p3), .val (.int p4), .val (.int pa), .val (.int pb), .val (.int pc), .val (.int pe), .val (.ref b84), .val (.ref bS), .val (.ref bD), .val (.int (1 : Int32)), .val (.int (1 : Int32)), .val (.int (3 : Int32)), .val (.int (1 : Int32))] [(.int (lcmpW ((0 : Int64) + (p3.toInt64)) (own_sum pc pa pb pc p1 p2 p3)))])
        refine Done.go (fun _ kt_ => XS.ifNo X128h.here hx rfl (hb hby at_328) rfl ((if0 _ _).trans (teq ((lw_eq _ _).mpr (by simp only [own_sum, own_s1, i_papb, i_pbpa, i_papc, i_pcpa, i_pbpc, i_pcpb, if_true, if_false]))).2) kt_) ?_
        show Done p e s below _ _ _ T128 (mkF m 331 #[.val (.int p0), .val (.int p1), .val (.int p2), .val (.int p3), .val (.int p4), .val (.int pa), .val (.int pb), .val (.int pc), .val (.int pe), .val (.ref b84), .val (.ref bS), .val (.ref bD), .val (.int (1 : Int32)), .val (.int (1 : Int32)), .val (.int (3 : Int32)), .val (.int (1 : Int32))] [])
        refine Done.go (fun _ kt_ => XS.iconst X128h.here hx rfl (hb hby at_331) kt_) ?_
        show Done p e s below _ _ _ T128 (mkF m 332 #[.val (.int p0), .val (.int p1), .val (.int p2), .val (.int p3), .val (.int p4), .val (.int pa), .val (.int pb), .val (.int pc), .val (.int pe), .val (.ref b84), .val (.ref bS), .val (.ref bD), .val (.int (1 : Int32)), .val (.int (1 : Int32)), .val (.int (3 : Int32)), .val (.int (1 : Int32))] [(.int (1 : Int32))])
        refine Done.go (fun _ kt_ => XS.goto X128h.here hx rfl (pc0 := 332) (pc' := 336) rfl (hb hby at_332) (by decide) (by decide) kt_) ?_
        show Done p e s below _ _ _ T128 (mkF m 336 #[.val (.int p0), .val (.int p1), .val (.int p2), .val (.int p3), .val (.int p4), .val (.int pa), .val (.int pb), .val (.int pc), .val (.int pe), .val (.ref b84), .val (.ref bS), .val (.ref bD), .val (.int (1 : Int32)), .val (.int (1 : Int32)), .val (.int (3 : Int32)), .val (.int (1 : Int32))] [(.int (1 : Int32))])
        refine Done.go (fun _ kt_ => XS.istore X128h.here hx rfl (hb hby at_336) rfl (l' := #[.val (.int p0), .val (.int p1), .val (.int p2), .val (.int p3), .val (.int p4), .val (.int pa), .val (.int pb), .val (.int pc), .val (.int pe), .val (.ref b84), .val (.ref bS), .val (.ref bD), .val (.int (1 : Int32)), .val (.int (1 : Int32)), .val (.int (3 : Int32)), .val (.int (1 : Int32))]) rfl kt_) ?_
        show Done p e s below _ _ _ T128 (mkF m 338 #[.val (.int p0), .val (.int p1), .val (.int p2), .val (.int p3), .val (.int p4), .val (.int pa), .val (.int pb), .val (.int pc), .val (.int pe), .val (.ref b84), .val (.ref bS), .val (.ref bD), .val (.int (1 : Int32)), .val (.int (1 : Int32)), .val (.int (3 : Int32)), .val (.int (1 : Int32))] [])
        refine Done.go (fun _ kt_ => XS.aload X128h.here hx rfl (hb hby at_338) rfl rfl kt_) ?_
        show Done p e s below _ _ _ T128 (mkF m 340 #[.val (.int p0), .val (.int p1), .val (.int p2), .val (.int p3), .val (.int p4), .val (.int pa), .val (.int pb), .val (.int pc), .val (.int pe), .val (.ref b84), .val (.ref bS), .val (.ref bD), .val (.int (1 : Int32)), .val (.int (1 : Int32)), .val (.int (3 : Int32)), .val (.int (1 : Int32))] [(.ref b84)])
        obtain ⟨cq129, kq129, q129a, q129b, q129c⟩ := isOf hZ e128 E124
        obtain ⟨v129, T129, Lc129, X129, hQ129, st129⟩ := own_backV (X128h.virtualBack hx (y := (⟨"com/example/pivotwise/pivotwise/retrieval/Scores", "start", "()V"⟩ : MethodName)) (z := (⟨"com/example/pivotwise/pivotwise/retrieval/Scores", "start", "()V"⟩ : MethodName)) hown (mvT hZ (hw _ (List.mem_of_getElem? (i := 27) rfl))) (mvT hZ (hw _ (List.mem_of_getElem? (i := 28) rfl))) (notFace_of_selects (args := #[]) (mvT hZ (hw _ (List.mem_of_getElem? (i := 30) rfl)))) (mvT hZ (hw _ (List.mem_of_getElem? (i := 30) rfl))) (mvT hZ (hw _ (List.mem_of_getElem? (i := 29) rfl))) (by decide) (backOf (W := 0) (rm5 l Z a0 hw [] b84 bD bF bS (own_u (own_u (own_u (fun _ => (0 : Int64)) A (0 + (p1.toInt64))) B (0 + (p2.toInt64))) Cc (0 + (p3.toInt64))) (own_u (own_u (own_u (fun _ => (0 : Int32)) A (1 : Int32)) B (1 : Int32)) Cc (1 : Int32)) (own_u (own_u (own_u (fun _ => (0 : Int32)) 0 pa) 1 pb) 2 pc) (1 : Int32) (3 : Int32) (2 : Int32) T124.heap n0 Z124 ⟨E124, Fscores124, FscoredFor124, Fscored124, Fquery124, Fcount124, VD124, VF124, VS124⟩ hds hgs (by decide)) hZ (hw _ (List.mem_of_getElem? (i := 31) rfl)) (hw _ (List.mem_of_getElem? (i := 2) rfl)) (by decide) (by decide)) q129a q129c (g := (mkF m 340 #[.val (.int p0), .val (.int p1), .val (.int p2), .val (.int p3), .val (.int p4), .val (.int pa), .val (.int pb), .val (.int pc), .val (.int pe), .val (.ref b84), .val (.ref bS), .val (.ref bD), .val (.int (1 : Int32)), .val (.int (1 : Int32)), .val (.int (3 : Int32)), .val (.int (1 : Int32))] [(.ref b84)])) rfl (by rw [hml]; rfl) (Steps.refl _) (argsL := []) (rest := []) (lenOf own_pd3 rfl) rfl (by show 2 * 0 + _ ≤ _; exact Nat.le_of_eq rfl) (hb hby at_340) (fun _ _ => ⟨rfl, e128, (by first | decide | omega : 4 + 0 ≤ _), (by first | decide | omega : 17 + 0 ≤ _)⟩))
        obtain ⟨rfl, N129q, hs129, P129⟩ := hQ129
        refine Done.go st129 ?_
        clear st129
        have N129 := Fr.app N128h N129q
        clear N129q
        have Z129 : n0 ≤ T129.heap.size := Nat.le_trans Z124 hs129
        obtain ⟨Lh129, X129h, N129h⟩ : ∃ L, Stand p l e room_1 s m #[(.int p0), (.int p1), (.int p2), (.int p3), (.int p4)] below meth c T129 L 4 17 ∧ Fr n0 L := ⟨_, X129, N129⟩
        clear X129 N129 X128h e128 N128h Z124
        obtain ⟨E129, Fscores129, FscoredFor129, Fscored129, Fquery129, Fcount129, VD129, VF129, VS129⟩ := id P129
        show Done p e s below _ _ _ T129 (mkF m 343 #[.val (.int p0), .val (.int p1), .val (.int p2), .val (.int p3), .val (.int p4), .val (.int pa), .val (.int pb), .val (.int pc), .val (.int pe), .val (.ref b84), .val (.ref bS), .val (.ref bD), .val (.int (1 : Int32)), .val (.int (1 : Int32)), .val (.int (3 : Int32)), .val (.int (1 : Int32))] [])
        refine Done.go (fun _ kt_ => XS.aload X129h.here hx rfl (hb hby at_343) rfl rfl kt_) ?_
        show Done p e s below _ _ _ T129 (mkF m 345 #[.val (.int p0), .val (.int p1), .val (.int p2), .val (.int p3), .val (.int p4), .val (.int pa), .val (.int pb), .val (.int pc), .val (.int pe), .val (.ref b84), .val (.ref bS), .val (.ref bD), .val (.int (1 : Int32)), .val (.int (1 : Int32)), .val (.int (3 : Int32)), .val (.int (1 : Int32))] [(.ref b84)])
        refine Done.go (fun _ kt_ => XS.iload X129h.here hx rfl (hb hby at_345) rfl kt_) ?_
        show Done p e s below _ _ _ T129 (mkF m 347 #[.val (.int p0), .val (.int p1), .val (.int p2), .val (.int p3), .val (.int p4), .val (.int pa), .val (.int pb), .val (.int pc), .val (.int pe), .val (.ref b84), .val (.ref bS), .val (.ref bD), .val (.int (1 : Int32)), .val (.int (1 : Int32)), .val (.int (3 : Int32)), .val (.int (1 : Int32))] [(.int pe), (.ref b84)])
        refine Done.go (fun _ kt_ => XS.iload X129h.here hx rfl (hb hby at_347) rfl kt_) ?_
        show Done p e s below _ _ _ T129 (mkF m 349 #[.val (.int p0), .val (.int p1), .val (.int p2), .val (.int p3), .val (.int p4), .val (.int pa), .val (.int pb), .val (.int pc), .val (.int pe), .val (.ref b84), .val (.ref bS), .val (.ref bD), .val (.int (1 : Int32)), .val (.int (1 : Int32)), .val (.int (3 : Int32)), .val (.int (1 : Int32))] [(.int p4), (.int pe), (.ref b84)])
        refine Done.go (fun _ kt_ => XS.i2dS X129h.here hx rfl (hb hby at_349) rfl (i2d_w p4) kt_) ?_
        show Done p e s below _ _ _ T129 (mkF m 350 #[.val (.int p0), .val (.int p1), .val (.int p2), .val (.int p3), .val (.int p4), .val (.int pa), .val (.int pb), .val (.int pc), .val (.int pe), .val (.ref b84), .val (.ref bS), .val (.ref bD), .val (.int (1 : Int32)), .val (.int (1 : Int32)), .val (.int (3 : Int32)), .val (.int (1 : Int32))] [(.double (FP.l2d (p4.toInt64))), (.int pe), (.ref b84)])
        obtain ⟨cq130, kq130, q130a, q130b, q130c⟩ := isOf hZ rfl E129
        obtain ⟨v130, T130, Lc130, X130, hQ130, st130⟩ := own_backV (X129h.virtualBack hx (y := (⟨"com/example/pivotwise/pivotwise/retrieval/Scores", "add", "(ID)V"⟩ : MethodName)) (z := (⟨"com/example/pivotwise/pivotwise/retrieval/Scores", "add", "(ID)V"⟩ : MethodName)) hown (mvT hZ (hw _ (List.mem_of_getElem? (i := 36) rfl))) (mvT hZ (hw _ (List.mem_of_getElem? (i := 37) rfl))) (notFace_of_selects (args := #[]) (mvT hZ (hw _ (List.mem_of_getElem? (i := 39) rfl)))) (mvT hZ (hw _ (List.mem_of_getElem? (i := 39) rfl))) (mvT hZ (hw _ (List.mem_of_getElem? (i := 38) rfl))) (by decide) (backOf (W := 0) (rm6n l Z a0 hw [] b84 bD bF bS pe (p4.toInt64) (own_u (own_u (own_u (fun _ => (0 : Int64)) A (0 + (p1.toInt64))) B (0 + (p2.toInt64))) Cc (0 + (p3.toInt64))) (own_u (own_u (own_u (fun _ => (0 : Int32)) A (1 : Int32)) B (1 : Int32)) Cc (1 : Int32)) (own_u (own_u (own_u (fun _ => (0 : Int32)) 0 pa) 1 pb) 2 pc) (2 : Int32) (0 : Int32) Ee 0 (1 : Int32) T129.heap n0 Z129 ⟨E129, Fscores129, FscoredFor129, Fscored129, Fquery129, Fcount129, VD129, VF129, VS129⟩ hds hgs hEe hEe4 (own_leB (own_leG _) (by decide)) (by decide) (by decide) (by unfold own_u; (repeat' split) <;> first | decide | (show ¬ ((0 : Int32) = 2); decide)) (by decide)) hZ (hw _ (List.mem_of_getElem? (i := 40) rfl)) (hw _ (List.mem_of_getElem? (i := 2) rfl)) (by decide) (by decide)) q130a q130c (g := (mkF m 350 #[.val (.int p0), .val (.int p1), .val (.int p2), .val (.int p3), .val (.int p4), .val (.int pa), .val (.int pb), .val (.int pc), .val (.int pe), .val (.ref b84), .val (.ref bS), .val (.ref bD), .val (.int (1 : Int32)), .val (.int (1 : Int32)), .val (.int (3 : Int32)), .val (.int (1 : Int32))] [(.double (FP.l2d (p4.toInt64))), (.int pe), (.ref b84)])) rfl (by rw [hml]; rfl) (Steps.refl _) (argsL := [(.int pe), (.double (FP.l2d (p4.toInt64)))]) (rest := []) (lenOf own_pd4 rfl) rfl (by show 2 * 0 + _ ≤ _; exact Nat.le_of_eq rfl) (hb hby at_350) (fun _ _ => ⟨rfl, rfl, (by first | decide | omega : 4 + 0 ≤ _), (by first | decide | omega : 17 + 0 ≤ _)⟩))
        obtain ⟨rfl, N130q, hs130, P130⟩ := hQ130
        refine Done.go st130 ?_
        clear st130
        have N130 := Fr.app N129h N130q
        clear N130q
        have Z130 : n0 ≤ T130.heap.size := Nat.le_trans Z129 hs130
        obtain ⟨Lh130, X130h, N130h⟩ : ∃ L, Stand p l e room_1 s m #[(.int p0), (.int p1), (.int p2), (.int p3), (.int p4)] below meth c T130 L 4 17 ∧ Fr n0 L := ⟨_, X130, N130⟩
        clear X130 N130 X129h N129h Z129
        obtain ⟨E130, Fscores130, FscoredFor130, Fscored130, Fquery130, Fcount130, VD130, VF130, VS130⟩ := id P130
        show Done p e s below _ _ _ T130 (mkF m 353 #[.val (.int p0), .val (.int p1), .val (.int p2), .val (.int p3), .val (.int p4), .val (.int pa), .val (.int pb), .val (.int pc), .val (.int pe), .val (.ref b84), .val (.ref bS), .val (.ref bD), .val (.int (1 : Int32)), .val (.int (1 : Int32)), .val (.int (3 : Int32)), .val (.int (1 : Int32))] [])
        refine Done.go (fun _ kt_ => XS.iload X130h.here hx rfl (hb hby at_353) rfl kt_) ?_
        show Done p e s below _ _ _ T130 (mkF m 355 #[.val (.int p0), .val (.int p1), .val (.int p2), .val (.int p3), .val (.int p4), .val (.int pa), .val (.int pb), .val (.int pc), .val (.int pe), .val (.ref b84), .val (.ref bS), .val (.ref bD), .val (.int (1 : Int32)), .val (.int (1 : Int32)), .val (.int (3 : Int32)), .val (.int (1 : Int32))] [(.int (1 : Int32))])
        refine Done.go (fun _ kt_ => XS.ifNo X130h.here hx rfl (hb hby at_355) rfl ((if0 _ _).trans (feq (by decide)).1) kt_) ?_
        show Done p e s below _ _ _ T130 (mkF m 358 #[.val (.int p0), .val (.int p1), .val (.int p2), .val (.int p3), .val (.int p4), .val (.int pa), .val (.int pb), .val (.int pc), .val (.int pe), .val (.ref b84), .val (.ref bS), .val (.ref bD), .val (.int (1 : Int32)), .val (.int (1 : Int32)), .val (.int (3 : Int32)), .val (.int (1 : Int32))] [])
        refine Done.go (fun _ kt_ => XS.aload X130h.here hx rfl (hb hby at_358) rfl rfl kt_) ?_
        show Done p e s below _ _ _ T130 (mkF m 360 #[.val (.int p0), .val (.int p1), .val (.int p2), .val (.int p3), .val (.int p4), .val (.int pa), .val (.int pb), .val (.int pc), .val (.int pe), .val (.ref b84), .val (.ref bS), .val (.ref bD), .val (.int (1 : Int32)), .val (.int (1 : Int32)), .val (.int (3 : Int32)), .val (.int (1 : Int32))] [(.ref b84)])
        obtain ⟨cq131, kq131, q131a, q131b, q131c⟩ := isOf hZ rfl E130
        obtain ⟨v131, T131, Lc131, X131, hQ131, st131⟩ := own_backV (X130h.virtualBack hx (y := (⟨"com/example/pivotwise/pivotwise/retrieval/Scores", "count", "()I"⟩ : MethodName)) (z := (⟨"com/example/pivotwise/pivotwise/retrieval/Scores", "count", "()I"⟩ : MethodName)) hown (mvT hZ (hw _ (List.mem_of_getElem? (i := 41) rfl))) (mvT hZ (hw _ (List.mem_of_getElem? (i := 42) rfl))) (notFace_of_selects (args := #[]) (mvT hZ (hw _ (List.mem_of_getElem? (i := 44) rfl)))) (mvT hZ (hw _ (List.mem_of_getElem? (i := 44) rfl))) (mvT hZ (hw _ (List.mem_of_getElem? (i := 43) rfl))) (by decide) (backOf (W := 0) (rm7 l Z a0 hw [] b84 (1 : Int32) T130.heap n0 Z130 Fcount130) hZ (hw _ (List.mem_of_getElem? (i := 45) rfl)) (hw _ (List.mem_of_getElem? (i := 2) rfl)) (by decide) (by decide)) q131a q131c (g := (mkF m 360 #[.val (.int p0), .val (.int p1), .val (.int p2), .val (.int p3), .val (.int p4), .val (.int pa), .val (.int pb), .val (.int pc), .val (.int pe), .val (.ref b84), .val (.ref bS), .val (.ref bD), .val (.int (1 : Int32)), .val (.int (1 : Int32)), .val (.int (3 : Int32)), .val (.int (1 : Int32))] [(.ref b84)])) rfl (by rw [hml]; rfl) (Steps.refl _) (argsL := []) (rest := []) (lenOf own_pd5 rfl) rfl (by show 2 * 0 + _ ≤ _; exact Nat.le_of_eq rfl) (hb hby at_360) (fun _ _ => ⟨rfl, rfl, (by first | decide | omega : 4 + 0 ≤ _), (by first | decide | omega : 17 + 0 ≤ _)⟩))
        obtain ⟨rfl, N131q, e131⟩ := hQ131
        refine Done.go st131 ?_
        clear st131
        have N131 := Fr.app N130h N131q
        clear N131q
        obtain ⟨Lh131, X131h, N131h⟩ : ∃ L, Stand p l e room_1 s m #[(.int p0), (.int p1), (.int p2), (.int p3), (.int p4)] below meth c T131 L 4 17 ∧ Fr n0 L := ⟨_, X131, N131⟩
        clear X131 N131 X130h N130h
        show Done p e s below _ _ _ T131 (mkF m 363 #[.val (.int p0), .val (.int p1), .val (.int p2), .val (.int p3), .val (.int p4), .val (.int pa), .val (.int pb), .val (.int pc), .val (.int pe), .val (.ref b84), .val (.ref bS), .val (.ref bD), .val (.int (1 : Int32)), .val (.int (1 : Int32)), .val (.int (3 : Int32)), .val (.int (1 : Int32))] [(.int (1 : Int32))])
        refine Done.go (fun _ kt_ => XS.iconst X131h.here hx rfl (hb hby at_363) kt_) ?_
        show Done p e s below _ _ _ T131 (mkF m 364 #[.val (.int p0), .val (.int p1), .val (.int p2), .val (.int p3), .val (.int p4), .val (.int pa), .val (.int pb), .val (.int pc), .val (.int pe), .val (.ref b84), .val (.ref bS), .val (.ref bD), .val (.int (1 : Int32)), .val (.int (1 : Int32)), .val (.int (3 : Int32)), .val (.int (1 : Int32))] [(.int (1 : Int32)), (.int (1 : Int32))])
        refine Done.go (fun _ kt_ => XS.icmpNo X131h.here hx rfl (hb hby at_364) rfl (teq (by decide)).2 kt_) ?_
        show Done p e s below _ _ _ T131 (mkF m 367 #[.val (.int p0), .val (.int p1), .val (.int p2), .val (.int p3), .val (.int p4), .val (.int pa), .val (.int pb), .val (.int pc), .val (.int pe), .val (.ref b84), .val (.ref bS), .val (.ref bD), .val (.int (1 : Int32)), .val (.int (1 : Int32)), .val (.int (3 : Int32)), .val (.int (1 : Int32))] [])
        refine Done.go (fun _ kt_ => XS.aload X131h.here hx rfl (hb hby at_367) rfl rfl kt_) ?_
        show Done p e s below _ _ _ T131 (mkF m 369 #[.val (.int p0), .val (.int p1), .val (.int p2), .val (.int p3), .val (.int p4), .val (.int pa), .val (.int pb), .val (.int pc), .val (.int pe), .val (.ref b84), .val (.ref bS), .val (.ref bD), .val (.int (1 : Int32)), .val (.int (1 : Int32)), .val (.int (3 : Int32)), .val (.int (1 : Int32))] [(.ref bS)])
        refine Done.go (fun _ kt_ => XS.iconst X131h.here hx rfl (hb hby at_369) kt_) ?_
        show Done p e s below _ _ _ T131 (mkF m 370 #[.val (.int p0), .val (.int p1), .val (.int p2), .val (.int p3), .val (.int p4), .val (.int pa), .val (.int pb), .val (.int pc), .val (.int pe), .val (.ref b84), .val (.ref bS), .val (.ref bD), .val (.int (1 : Int32)), .val (.int (1 : Int32)), .val (.int (3 : Int32)), .val (.int (1 : Int32))] [(.int (0 : Int32)), (.ref bS)])
        refine Done.ldI X131h hx hZ e131 VS130 (j := (0 : Int32)) (w := pe) 0 (by decide) rfl (by decide) rfl (hb hby at_370) ?_
        show Done p e s below _ _ _ T131 (mkF m 371 #[.val (.int p0), .val (.int p1), .val (.int p2), .val (.int p3), .val (.int p4), .val (.int pa), .val (.int pb), .val (.int pc), .val (.int pe), .val (.ref b84), .val (.ref bS), .val (.ref bD), .val (.int (1 : Int32)), .val (.int (1 : Int32)), .val (.int (3 : Int32)), .val (.int (1 : Int32))] [(.int pe)])
        refine Done.go (fun _ kt_ => XS.iload X131h.here hx rfl (hb hby at_371) rfl kt_) ?_
        show Done p e s below _ _ _ T131 (mkF m 373 #[.val (.int p0), .val (.int p1), .val (.int p2), .val (.int p3), .val (.int p4), .val (.int pa), .val (.int pb), .val (.int pc), .val (.int pe), .val (.ref b84), .val (.ref bS), .val (.ref bD), .val (.int (1 : Int32)), .val (.int (1 : Int32)), .val (.int (3 : Int32)), .val (.int (1 : Int32))] [(.int pe), (.int pe)])
        refine Done.go (fun _ kt_ => XS.icmpNo X131h.here hx rfl (hb hby at_373) rfl (teq rfl).2 kt_) ?_
        show Done p e s below _ _ _ T131 (mkF m 376 #[.val (.int p0), .val (.int p1), .val (.int p2), .val (.int p3), .val (.int p4), .val (.int pa), .val (.int pb), .val (.int pc), .val (.int pe), .val (.ref b84), .val (.ref bS), .val (.ref bD), .val (.int (1 : Int32)), .val (.int (1 : Int32)), .val (.int (3 : Int32)), .val (.int (1 : Int32))] [])
        refine Done.go (fun _ kt_ => XS.aload X131h.here hx rfl (hb hby at_376) rfl rfl kt_) ?_
        show Done p e s below _ _ _ T131 (mkF m 378 #[.val (.int p0), .val (.int p1), .val (.int p2), .val (.int p3), .val (.int p4), .val (.int pa), .val (.int pb), .val (.int pc), .val (.int pe), .val (.ref b84), .val (.ref bS), .val (.ref bD), .val (.int (1 : Int32)), .val (.int (1 : Int32)), .val (.int (3 : Int32)), .val (.int (1 : Int32))] [(.ref bD)])
        refine Done.go (fun _ kt_ => XS.iload X131h.here hx rfl (hb hby at_378) rfl kt_) ?_
        show Done p e s below _ _ _ T131 (mkF m 380 #[.val (.int p0), .val (.int p1), .val (.int p2), .val (.int p3), .val (.int p4), .val (.int pa), .val (.int pb), .val (.int pc), .val (.int pe), .val (.ref b84), .val (.ref bS), .val (.ref bD), .val (.int (1 : Int32)), .val (.int (1 : Int32)), .val (.int (3 : Int32)), .val (.int (1 : Int32))] [(.int pe), (.ref bD)])
        refine Done.ldD X131h hx hZ e131 VD130 (j := pe) (y := ((0 : Int64) + (p4.toInt64))) Ee (own_ix hEe).1 (own_ix hEe).2 hEe4 (if_pos rfl) (hb hby at_380) ?_
        show Done p e s below _ _ _ T131 (mkF m 381 #[.val (.int p0), .val (.int p1), .val (.int p2), .val (.int p3), .val (.int p4), .val (.int pa), .val (.int pb), .val (.int pc), .val (.int pe), .val (.ref b84), .val (.ref bS), .val (.ref bD), .val (.int (1 : Int32)), .val (.int (1 : Int32)), .val (.int (3 : Int32)), .val (.int (1 : Int32))] [(.double (FP.l2d ((0 : Int64) + (p4.toInt64))))])
        refine Done.go (fun _ kt_ => XS.iload X131h.here hx rfl (hb hby at_381) rfl kt_) ?_
        show Done p e s below _ _ _ T131 (mkF m 383 #[.val (.int p0), .val (.int p1), .val (.int p2), .val (.int p3), .val (.int p4), .val (.int pa), .val (.int pb), .val (.int pc), .val (.int pe), .val (.ref b84), .val (.ref bS), .val (.ref bD), .val (.int (1 : Int32)), .val (.int (1 : Int32)), .val (.int (3 : Int32)), .val (.int (1 : Int32))] [(.int p4), (.double (FP.l2d ((0 : Int64) + (p4.toInt64))))])
        refine Done.go (fun _ kt_ => XS.i2dS X131h.here hx rfl (hb hby at_383) rfl (i2d_w p4) kt_) ?_
        show Done p e s below _ _ _ T131 (mkF m 384 #[.val (.int p0), .val (.int p1), .val (.int p2), .val (.int p3), .val (.int p4), .val (.int pa), .val (.int pb), .val (.int pc), .val (.int pe), .val (.ref b84), .val (.ref bS), .val (.ref bD), .val (.int (1 : Int32)), .val (.int (1 : Int32)), .val (.int (3 : Int32)), .val (.int (1 : Int32))] [(.double (FP.l2d (p4.toInt64))), (.double (FP.l2d ((0 : Int64) + (p4.toInt64))))])
        refine Done.go (fun _ kt_ => XS.dcmpS X131h.here hx rfl (hb hby at_384) rfl (dcmpV_w (own_leB (own_leA own_le0 (by decide) p4) (by decide)) (own_leB (own_leG p4) (by decide)) _) kt_) ?_
        show Done p e s below _ _ _ T131 (mkF m 385 #[.val (.int p0), .val (.int p1), .val (.int p2), .val (.int p3), .val (.int p4), .val (.int pa), .val (.int pb), .val (.int pc), .val (.int pe), .val (.ref b84), .val (.ref bS), .val (.ref bD), .val (.int (1 : Int32)), .val (.int (1 : Int32)), .val (.int (3 : Int32)), .val (.int (1 : Int32))] [(.int (lcmpW ((0 : Int64) + (p4.toInt64)) (p4.toInt64)))])
        refine Done.go (fun _ kt_ => XS.ifNo X131h.here hx rfl (hb hby at_385) rfl ((if0 _ _).trans (teq ((lw_eq _ _).mpr (Int64.zero_add _))).2) kt_) ?_
        show Done p e s below _ _ _ T131 (mkF m 388 #[.val (.int p0), .val (.int p1), .val (.int p2), .val (.int p3), .val (.int p4), .val (.int pa), .val (.int pb), .val (.int pc), .val (.int pe), .val (.ref b84), .val (.ref bS), .val (.ref bD), .val (.int (1 : Int32)), .val (.int (1 : Int32)), .val (.int (3 : Int32)), .val (.int (1 : Int32))] [])
        refine Done.go (fun _ kt_ => XS.iconst X131h.here hx rfl (hb hby at_388) kt_) ?_
        show Done p e s below _ _ _ T131 (mkF m 389 #[.val (.int p0), .val (.int p1), .val (.int p2), .val (.int p3), .val (.int p4), .val (.int pa), .val (.int pb), .val (.int pc), .val (.int pe), .val (.ref b84), .val (.ref bS), .val (.ref bD), .val (.int (1 : Int32)), .val (.int (1 : Int32)), .val (.int (3 : Int32)), .val (.int (1 : Int32))] [(.int (1 : Int32))])
        refine Done.go (fun _ kt_ => XS.goto X131h.here hx rfl (pc0 := 389) (pc' := 393) rfl (hb hby at_389) (by decide) (by decide) kt_) ?_
        show Done p e s below _ _ _ T131 (mkF m 393 #[.val (.int p0), .val (.int p1), .val (.int p2), .val (.int p3), .val (.int p4), .val (.int pa), .val (.int pb), .val (.int pc), .val (.int pe), .val (.ref b84), .val (.ref bS), .val (.ref bD), .val (.int (1 : Int32)), .val (.int (1 : Int32)), .val (.int (3 : Int32)), .val (.int (1 : Int32))] [(.int (1 : Int32))])
        refine Done.go (fun _ kt_ => XS.istore X131h.here hx rfl (hb hby at_393) rfl (l' := #[.val (.int p0), .val (.int p1), .val (.int p2), .val (.int p3), .val (.int p4), .val (.int pa), .val (.int pb), .val (.int pc), .val (.int pe), .val (.ref b84), .val (.ref bS), .val (.ref bD), .val (.int (1 : Int32)), .val (.int (1 : Int32)), .val (.int (3 : Int32)), .val (.int (1 : Int32))]) rfl kt_) ?_
        show Done p e s below _ _ _ T131 (mkF m 395 #[.val (.int p0), .val (.int p1), .val (.int p2), .val (.int p3), .val (.int p4), .val (.int pa), .val (.int pb), .val (.int pc), .val (.int pe), .val (.ref b84), .val (.ref bS), .val (.ref bD), .val (.int (1 : Int32)), .val (.int (1 : Int32)), .val (.int (3 : Int32)), .val (.int (1 : Int32))] [])
        refine Done.go (fun _ kt_ => XS.iload X131h.here hx rfl (hb hby at_395) rfl kt_) ?_
        show Done p e s below _ _ _ T131 (mkF m 397 #[.val (.int p0), .val (.int p1), .val (.int p2), .val (.int p3), .val (.int p4), .val (.int pa), .val (.int pb), .val (.int pc), .val (.int pe), .val (.ref b84), .val (.ref bS), .val (.ref bD), .val (.int (1 : Int32)), .val (.int (1 : Int32)), .val (.int (3 : Int32)), .val (.int (1 : Int32))] [(.int (1 : Int32))])
        refine Done.retN X131h hx hlk (t := .boolean) hrt (by simp) (z' := (1 : Int32)) rfl (hb hby at_397) ?_ (by first | decide | omega) (by first | decide | omega)
        rw [e131]
        exact ⟨rfl, N131h⟩
set_option maxRecDepth 65536 in
set_option maxHeartbeats 40000000 in
theorem comes_1 {Post : Tables → Env → Array Value → State → Outcome → State → Prop} (hpost : ∀ tb e args s v u, (limb_1_1.after args s (.returned v) u = true ∧ limb_1_2.after args s (.returned v) u = true ∧ True) → FrameEnd s (.returned v) u (Jvm.fieldLocs frame_1_writes args s ++ Jvm.arrayLocs frame_1_arrays args s ++ Jvm.staticLocs frame_1_statics s) 16 128 → Post tb e args s (.returned v) u) :
    ArmFor flags0 classFile x code maxLocals ret World_1 tables_1 room_1 Calls_1 rest_1 Pre_1 Post := by
  intro l hfl _ _ p e ha hc hk s m args below hf hA hF happ hP
  obtain ⟨hcalls, hrest, hpre⟩ := hP
  obtain ⟨-, -, -, hnamed, -, -, -, hat⟩ := (Spec.applies_iff hf).mp happ
  obtain ⟨hg, hn⟩ := and_e (Cond.before_iff.mp (show (Jvm.Cond.and given_1 narrow_1).before args s = true from hpre))
  obtain ⟨hcount, hg⟩ := and_e hg
  obtain ⟨hv0, hg⟩ := and_e hg
  obtain ⟨hv1, hg⟩ := and_e hg
  obtain ⟨hv2, hg⟩ := and_e hg
  obtain ⟨hv3, hg⟩ := and_e hg
  have hv4 := hg
  obtain ⟨w0, w1, w2, w3, w4, rfl⟩ : ∃ w0 w1 w2 w3 w4 : Value, args = #[w0, w1, w2, w3, w4] := by
    have hs : args.size = 5 := by simpa [Cond.value, given_1] using hcount
    obtain ⟨L⟩ := args
    match L, hs with
    | [w0, w1, w2, w3, w4], _ => exact ⟨w0, w1, w2, w3, w4, rfl⟩
  have hw := fun d (hd : d ∈ tables_1) => atoms_spec (ws := Jvm.Cond.code x code maxLocals ret :: tables_1) hat d (List.mem_cons_of_mem _ hd)
  have hfit : Fit s := fun {y c} hc i hi => by
    obtain ⟨ha, rfl⟩ := Array.getElem?_eq_some_iff.mp hc
    have q := List.all_eq_true.mp ((Array.all_eq_true_iff_forall_mem.mp hF) _ (Array.getElem_mem ha)) i (List.mem_range.mpr hi)
    simpa [Array.getElem?_eq_getElem hi] using q
  obtain ⟨i0, ei0⟩ := is_v hv0
  obtain rfl : w0 = (.int i0) := Option.some.inj ei0
  obtain ⟨i1, ei1⟩ := is_v hv1
  obtain rfl : w1 = (.int i1) := Option.some.inj ei1
  obtain ⟨i2, ei2⟩ := is_v hv2
  obtain rfl : w2 = (.int i2) := Option.some.inj ei2
  obtain ⟨i3, ei3⟩ := is_v hv3
  obtain rfl : w3 = (.int i3) := Option.some.inj ei3
  obtain ⟨i4, ei4⟩ := is_v hv4
  obtain rfl : w4 = (.int i4) := Option.some.inj ei4
  obtain ⟨n, o, h1, h2, h3, _, L, rfl, ⟨rfl, N⟩, hq⟩ := rm0 l s _ hw tables_1 i0 i1 i2 i3 i4 s.heap s.heap.size (Nat.le_refl _)  p e ha hc hk s m _ below hf ((Spec.applies_iff_loose hf).mp happ).1 ⟨rfl, State.Warmed39.refl s, rfl⟩ trivial
  refine ⟨n, _, h1, h2, h3, hpost _ _ _ _ _ _ ⟨Cond.after_iff.mpr rfl, Cond.after_iff.mpr (eq_i res_at (Term.int_eval (1)) rfl), trivial⟩ ⟨hq.1, hq.2.1, (hq.2.2.sift fun y hy => Or.inr (N y hy)).mono (by decide) (by decide)⟩⟩
theorem main_1_1 : Claimed_1_1 := comes_1 fun _ _ _ _ _ _ h hF => ⟨h.1, hF⟩
theorem main_1_2 : Claimed_1_2 := comes_1 fun _ _ _ _ _ _ h hF => ⟨h.2.1, hF⟩
end Jvm.Pilot.@@N@@
namespace Jvm.Pilot.@@N@@
open Jvm Jvm.ClassFile Sem Op Lib Jvm.Free Jvm.Stand Jvm.Pilot.@@N@@.Jvm.D
/-! MADE BY PROGRAM (witnessworld.py) out of the Statement's table words and the real class files: 9 classes; the members and pool entries that the words name. The judged class is class 1, her method 1. -/
namespace start1
open Jvm.ClassFile
def u (s : String) : CpInfo := .utf8 (stringToUtf16 s)
/-- a pool by its gaps: so many unusable entries, then the entry; so many at the end -/
def gap : Nat → List CpInfo → List CpInfo
  | 0, r => r
  | n + 1, r => .unusable :: gap n r
def poolList (es : List (Nat × CpInfo)) (last : Nat) : List CpInfo := es.foldr (fun e r => gap e.1 (e.2 :: r)) (gap last [])
def pool (es : List (Nat × CpInfo)) (last : Nat) : Array CpInfo := ⟨poolList es last⟩
def fileOf (pool : Array CpInfo) (this : Nat) (attrs : Array Attribute := #[]) (ms : Array MethodInfo := #[]) (fl : Nat := 33) (sup : Nat := 0) (ifs : Array Nat := #[]) (fds : Array FieldInfo := #[]) : ClassFile where
  minorVersion := 0
  majorVersion := 65
  constantPool := pool
  accessFlags := fl
  thisClass := this
  superClass := sup
  interfaces := ifs
  fields := fds
  methods := ms
  attributes := attrs
def plain (name : String) (sup : Option ClassId) : Class where
  name := name
  kind := .ordinary
  loader := none
  accessFlags := 33
  super := sup
  interfaces := #[]
  cf := none
  fields := #[]
  methods := #[]
  instanceTypes := #[]
  staticTypes := #[]
  resolved := #[]
  callSites := []
  init := .initialized
  statics := none
  mirror := none

def pool0 : Array CpInfo := pool [(5, u "<init>"), (0, u "()V"), (1, .class_ 10), (1, u "java/lang/Object")] 113

def k0c0 : Code := { maxStack := 0, maxLocals := 1, code := object_method_1_code, exceptionTable := #[], attributes := #[] }
def k0m0 : Method := { name := "<init>", desc := "()V", sig := { parameters := [], returnType := none }, accessFlags := 1, code := some k0c0 }
/-- java/lang/Object -/
def k0 : Class := { plain "java/lang/Object" none with
  accessFlags := 33
  interfaces := #[]
  cf := some (fileOf pool0 8 #[] #[{ accessFlags := 1, nameIndex := 5, descriptorIndex := 6, attributes := #[] }] 33 0 #[] #[])
  fields := #[]
  methods := #[k0m0]
  instanceTypes := #[]
  staticTypes := #[]
  resolved := Array.replicate 124 none
  statics := none }

def pool1 : Array CpInfo := pool [(2, .class_ 4), (1, u "java/lang/Object"), (0, u "<init>"), (0, u "()V"), (0, .class_ 8), (0, u "com/example/pivotwise/pivotwise/retrieval/Scores"), (0, .methodref 7 10), (0, .nameAndType 5 11), (0, u "(I)V"), (0, .methodref 7 13), (0, .nameAndType 14 15), (0, u "documents"), (0, u "()[I"), (0, .methodref 7 17), (0, .nameAndType 18 19), (0, u "values"), (0, u "()[D"), (0, .methodref 7 21), (0, .nameAndType 22 6), (0, u "start"), (0, .methodref 7 24), (0, .nameAndType 25 26), (0, u "add"), (0, u "(ID)V"), (0, .methodref 7 28), (0, .nameAndType 29 30), (0, u "count"), (0, u "()I"), (0, .methodref 32 33), (0, .class_ 34), (0, .nameAndType 35 36), (0, u "com/example/pivotwise/pivotwise/retrieval/ScoresAddPinLaw"), (0, u "sum"), (0, u "(IIIIIII)D"), (2, u "law"), (0, u "(IIIII)Z")] 7

def k1m0 : Method := { name := "<init>", desc := "()V", sig := { parameters := [], returnType := none }, accessFlags := 1, code := none }
def k1c1 : Code := { maxStack := 9, maxLocals := 16, code := code, exceptionTable := #[], attributes := #[] }
def k1m1 : Method := { name := "law", desc := "(IIIII)Z", sig := { parameters := [.int, .int, .int, .int, .int], returnType := some .boolean }, accessFlags := 9, code := some k1c1 }
def k1c2 : Code := { maxStack := 4, maxLocals := 9, code := method_3_code, exceptionTable := #[], attributes := #[] }
def k1m2 : Method := { name := "sum", desc := "(IIIIIII)D", sig := { parameters := [.int, .int, .int, .int, .int, .int, .int], returnType := some .double }, accessFlags := 10, code := some k1c2 }
/-- com/example/pivotwise/pivotwise/retrieval/ScoresAddPinLaw -/
def k1 : Class := { plain "com/example/pivotwise/pivotwise/retrieval/ScoresAddPinLaw" (some 0) with
  accessFlags := 49
  interfaces := #[]
  cf := some (fileOf pool1 32 #[] #[{ accessFlags := 1, nameIndex := 5, descriptorIndex := 6, attributes := #[] }, { accessFlags := 9, nameIndex := 39, descriptorIndex := 40, attributes := #[] }, { accessFlags := 10, nameIndex := 35, descriptorIndex := 36, attributes := #[] }] 49 2 #[] #[])
  fields := #[]
  methods := #[k1m0, k1m1, k1m2]
  instanceTypes := #[]
  staticTypes := #[]
  resolved := Array.replicate 48 none
  statics := none }

def pool2 : Array CpInfo := pool [(1, .methodref 2 3), (0, .class_ 4), (0, .nameAndType 5 6), (0, u "java/lang/Object"), (0, u "<init>"), (0, u "()V"), (0, .fieldref 8 9), (0, .class_ 10), (0, .nameAndType 11 12), (0, u "com/example/pivotwise/pivotwise/retrieval/Scores"), (0, u "scores"), (0, u "[D"), (0, .fieldref 8 14), (0, .nameAndType 15 16), (0, u "scoredFor"), (0, u "[I"), (0, .fieldref 8 18), (0, .nameAndType 19 16), (0, u "scored"), (0, .fieldref 8 21), (0, .nameAndType 22 23), (0, u "query"), (0, u "I"), (0, .fieldref 8 25), (0, .nameAndType 26 23), (0, u "count"), (0, u "(I)V"), (2, u "start"), (0, u "add"), (0, u "(ID)V"), (1, u "()I"), (0, u "documents"), (0, u "()[I"), (0, u "values"), (0, u "()[D")] 2

def k2c0 : Code := { maxStack := 2, maxLocals := 2, code := prog_174_method_1_code, exceptionTable := #[], attributes := #[] }
def k2m0 : Method := { name := "<init>", desc := "(I)V", sig := { parameters := [.int], returnType := none }, accessFlags := 0, code := some k2c0 }
def k2c1 : Code := { maxStack := 3, maxLocals := 1, code := prog_174_method_2_code, exceptionTable := #[], attributes := #[] }
def k2m1 : Method := { name := "start", desc := "()V", sig := { parameters := [], returnType := none }, accessFlags := 0, code := some k2c1 }
def k2c2 : Code := { maxStack := 6, maxLocals := 4, code := prog_174_method_3_code, exceptionTable := #[], attributes := #[] }
def k2m2 : Method := { name := "add", desc := "(ID)V", sig := { parameters := [.int, .double], returnType := none }, accessFlags := 1, code := some k2c2 }
def k2c3 : Code := { maxStack := 1, maxLocals := 1, code := prog_174_method_4_code, exceptionTable := #[], attributes := #[] }
def k2m3 : Method := { name := "count", desc := "()I", sig := { parameters := [], returnType := some .int }, accessFlags := 0, code := some k2c3 }
def k2c4 : Code := { maxStack := 1, maxLocals := 1, code := prog_174_method_5_code, exceptionTable := #[], attributes := #[] }
def k2m4 : Method := { name := "documents", desc := "()[I", sig := { parameters := [], returnType := some (.array .int) }, accessFlags := 0, code := some k2c4 }
def k2c5 : Code := { maxStack := 1, maxLocals := 1, code := prog_174_method_6_code, exceptionTable := #[], attributes := #[] }
def k2m5 : Method := { name := "values", desc := "()[D", sig := { parameters := [], returnType := some (.array .double) }, accessFlags := 0, code := some k2c5 }
/-- com/example/pivotwise/pivotwise/retrieval/Scores -/
def k2 : Class := { plain "com/example/pivotwise/pivotwise/retrieval/Scores" (some 0) with
  accessFlags := 49
  interfaces := #[]
  cf := some (fileOf pool2 8 #[] #[{ accessFlags := 0, nameIndex := 5, descriptorIndex := 27, attributes := #[] }, { accessFlags := 0, nameIndex := 30, descriptorIndex := 6, attributes := #[] }, { accessFlags := 1, nameIndex := 31, descriptorIndex := 32, attributes := #[] }, { accessFlags := 0, nameIndex := 26, descriptorIndex := 34, attributes := #[] }, { accessFlags := 0, nameIndex := 35, descriptorIndex := 36, attributes := #[] }, { accessFlags := 0, nameIndex := 37, descriptorIndex := 38, attributes := #[] }] 49 2 #[] #[{ accessFlags := 18, nameIndex := 11, descriptorIndex := 12, attributes := #[] }, { accessFlags := 18, nameIndex := 15, descriptorIndex := 16, attributes := #[] }, { accessFlags := 18, nameIndex := 19, descriptorIndex := 16, attributes := #[] }, { accessFlags := 2, nameIndex := 26, descriptorIndex := 23, attributes := #[] }, { accessFlags := 2, nameIndex := 22, descriptorIndex := 23, attributes := #[] }])
  fields := #[{ name := "scores", type := (.array .double), accessFlags := 18, slot := 0, constantValue := 0 }, { name := "scoredFor", type := (.array .int), accessFlags := 18, slot := 1, constantValue := 0 }, { name := "scored", type := (.array .int), accessFlags := 18, slot := 2, constantValue := 0 }, { name := "count", type := .int, accessFlags := 2, slot := 3, constantValue := 0 }, { name := "query", type := .int, accessFlags := 2, slot := 4, constantValue := 0 }]
  methods := #[k2m0, k2m1, k2m2, k2m3, k2m4, k2m5]
  instanceTypes := #[(.array .double), (.array .int), (.array .int), .int, .int]
  staticTypes := #[]
  resolved := Array.replicate 41 none
  statics := none }

def pool3 : Array CpInfo := pool [(1, u "java/lang/Cloneable"), (0, .class_ 1), (0, u "java/lang/Object"), (0, .class_ 3)] 3

/-- java/lang/Cloneable -/
def k3 : Class := { plain "java/lang/Cloneable" (some 0) with
  accessFlags := 1537
  interfaces := #[]
  cf := some (fileOf pool3 2 #[] #[] 1537 4 #[] #[])
  fields := #[]
  methods := #[]
  instanceTypes := #[]
  staticTypes := #[]
  resolved := Array.replicate 8 none
  statics := none }

def pool4 : Array CpInfo := pool [(1, u "java/io/Serializable"), (0, .class_ 1), (0, u "java/lang/Object"), (0, .class_ 3)] 3

/-- java/io/Serializable -/
def k4 : Class := { plain "java/io/Serializable" (some 0) with
  accessFlags := 1537
  interfaces := #[]
  cf := some (fileOf pool4 2 #[] #[] 1537 4 #[] #[])
  fields := #[]
  methods := #[]
  instanceTypes := #[]
  staticTypes := #[]
  resolved := Array.replicate 8 none
  statics := none }

/-- the primitive byte -/
def k5 : Class := { plain "byte" none with kind := .primitive 'B', accessFlags := 0x411 }
/-- [B -/
def k6 : Class := { plain "[B" (some 0) with kind := .array 5 .byte, interfaces := #[3, 4], accessFlags := 1041 }

/-- the primitive int -/
def k7 : Class := { plain "int" none with kind := .primitive 'I', accessFlags := 0x411 }
/-- [I -/
def k8 : Class := { plain "[I" (some 0) with kind := .array 7 .int, interfaces := #[3, 4], accessFlags := 1041 }

/-- the primitive double -/
def k9 : Class := { plain "double" none with kind := .primitive 'D', accessFlags := 0x411 }
/-- [D -/
def k10 : Class := { plain "[D" (some 0) with kind := .array 9 .double, interfaces := #[3, 4], accessFlags := 1041 }

def heap : Heap := #[]
def classes : Array Class := #[k0, k1, k2, k3, k4, k5, k6, k7, k8, k9, k10]
def interned : List (Array UInt16 × Addr) := []
def slotsUsed : Nat := 0
def theMethod : MethodId := ⟨1, 1⟩
def args0 : Array Value := #[.int 27, .int 5, .int 6, .int 7, .int 8]
def aboutOver (below : List Frame) : State where
  vm := { classes := classes, interned := interned.toArray }
  heap := heap
  slotsUsed := slotsUsed
  threads := #[{ frames := .invoking theMethod args0 :: below }]
def below0 : List Frame := [.native { method := ⟨0, 0⟩, args := #[] }]
def about1 : State := aboutOver below0
def p0 : Program := .bare "" "" ""
def e0 : Env := launch0.env 0 0 0
theorem w_frames : about1.frames = Frame.invoking theMethod args0 :: below0 := rfl
set_option maxRecDepth 65536 in
theorem w_args : argsFit about1.vm theMethod args0 = true := by decide +kernel
set_option maxRecDepth 65536 in
theorem w_heap : heapFits about1 = true := by decide +kernel
set_option maxRecDepth 65536 in
theorem w_runnable : about1.curStatus? = some .runnable := by decide +kernel
set_option maxRecDepth 65536 in
theorem w_alone : about1.alone = true := by decide +kernel
set_option maxRecDepth 65536 in
theorem w_named : about1.methodNamed? x = some theMethod := by decide +kernel
set_option maxRecDepth 65536 in
theorem w_hears : about1.hears theMethod below0 = true := by decide +kernel
set_option maxRecDepth 65536 in
theorem w_ripe : about1.ripe theMethod args0 below0 = true := by decide +kernel
theorem w_running : about1.status = .running := rfl
set_option maxRecDepth 65536 in
theorem w_room : about1.hasRoom e0.platform room_1 = true :=
  launch0.hasRoom_least _ room_1 (by decide +kernel) (by decide +kernel) (by decide +kernel) (by decide +kernel) (by decide +kernel) (by decide +kernel)
theorem allAtoms_all (ts : List Jvm.Cond) (a : Array Jvm.Value) (st : Jvm.State) : (allAtoms ts).before a st = ts.all (fun c => c.before a st) := by
  induction ts with
  | nil => rfl
  | cons c t ih =>
    show (Jvm.Cond.and c (allAtoms t)).before a st = _
    rw [Jvm.Cond.before_and, ih, List.all_cons]
def words1 : List Jvm.Cond := Jvm.Cond.code x code maxLocals ret :: tables_1
/-- a 'code' word, met by the world's own term for the bytes: nothing is compared byte by byte -/
theorem code_word {y : MethodName} {bytes : ByteArray} {mx : Nat} {rt : Option FieldType} {a : Array Value} {s : State} {m : MethodId} {meth : Method} {c : Code} (h1 : s.methodNamed? y = some m) (h2 : s.vm.method? m = some meth) (h3 : meth.code = some c) (h4 : c.code = bytes)
    (h5 : (c.maxLocals == mx && c.exceptionTable.isEmpty && decide (c.maxStack ≤ mostOperands) && decide (meth.sig.returnType = rt) && !meth.locks && decide (parseMethodDescriptor y.desc = some meth.sig)) = true) : (Jvm.Cond.code y bytes mx rt).before a s = true := by
  simp only [Bool.and_eq_true, beq_iff_eq, Bool.not_eq_true', decide_eq_true_eq] at h5
  obtain ⟨⟨⟨⟨⟨g1, g2⟩, g3⟩, g4⟩, g5⟩, g6⟩ := h5
  simp [Cond.before, Cond.holds, Cond.value, h1, h2, h3, h4, g1, g2, g3, g4, g5, g6]
def isCode : Jvm.Cond → Bool
  | .code _ _ _ _ => true
  | _ => false
theorem all_split {L : List Jvm.Cond} {P : Jvm.Cond → Bool} (h1 : L.all (fun c => isCode c || P c) = true) (h2 : ∀ c ∈ L.filter isCode, P c = true) : L.all P = true := by
  refine List.all_eq_true.mpr fun c hc => ?_
  have h := List.all_eq_true.mp h1 c hc
  rcases Bool.eq_false_or_eq_true (isCode c) with hi | hi
  · exact h2 c (List.mem_filter.mpr ⟨hc, hi⟩)
  · simpa [hi] using h
set_option maxRecDepth 65536 in
theorem w_c0 : (Jvm.Cond.code x code maxLocals ret).before args0 about1 = true := code_word (m := ⟨1, 1⟩) (meth := k1m1) (c := k1c1) (by decide +kernel) rfl rfl rfl (by decide +kernel)
set_option maxRecDepth 65536 in
theorem w_c1 : (Jvm.Cond.code ({ cls := "com/example/pivotwise/pivotwise/retrieval/Scores", name := "<init>", desc := "(I)V" } : Jvm.MethodName) prog_174_method_1_code (2 : Nat) (Option.none : Option Jvm.ClassFile.FieldType)).before args0 about1 = true := code_word (m := ⟨2, 0⟩) (meth := k2m0) (c := k2c0) (by decide +kernel) rfl rfl rfl (by decide +kernel)
set_option maxRecDepth 65536 in
theorem w_c2 : (Jvm.Cond.code ({ cls := "java/lang/Object", name := "<init>", desc := "()V" } : Jvm.MethodName) object_method_1_code (1 : Nat) (Option.none : Option Jvm.ClassFile.FieldType)).before args0 about1 = true := code_word (m := ⟨0, 0⟩) (meth := k0m0) (c := k0c0) (by decide +kernel) rfl rfl rfl (by decide +kernel)
set_option maxRecDepth 65536 in
theorem w_c3 : (Jvm.Cond.code ({ cls := "com/example/pivotwise/pivotwise/retrieval/Scores", name := "documents", desc := "()[I" } : Jvm.MethodName) prog_174_method_5_code (1 : Nat) (Option.some (Jvm.ClassFile.FieldType.array Jvm.ClassFile.FieldType.int))).before args0 about1 = true := code_word (m := ⟨2, 4⟩) (meth := k2m4) (c := k2c4) (by decide +kernel) rfl rfl rfl (by decide +kernel)
set_option maxRecDepth 65536 in
theorem w_c4 : (Jvm.Cond.code ({ cls := "com/example/pivotwise/pivotwise/retrieval/Scores", name := "values", desc := "()[D" } : Jvm.MethodName) prog_174_method_6_code (1 : Nat) (Option.some (Jvm.ClassFile.FieldType.array Jvm.ClassFile.FieldType.double))).before args0 about1 = true := code_word (m := ⟨2, 5⟩) (meth := k2m5) (c := k2c5) (by decide +kernel) rfl rfl rfl (by decide +kernel)
set_option maxRecDepth 65536 in
theorem w_c5 : (Jvm.Cond.code ({ cls := "com/example/pivotwise/pivotwise/retrieval/Scores", name := "start", desc := "()V" } : Jvm.MethodName) prog_174_method_2_code (1 : Nat) (Option.none : Option Jvm.ClassFile.FieldType)).before args0 about1 = true := code_word (m := ⟨2, 1⟩) (meth := k2m1) (c := k2c1) (by decide +kernel) rfl rfl rfl (by decide +kernel)
set_option maxRecDepth 65536 in
theorem w_c6 : (Jvm.Cond.code ({ cls := "com/example/pivotwise/pivotwise/retrieval/Scores", name := "add", desc := "(ID)V" } : Jvm.MethodName) prog_174_method_3_code (4 : Nat) (Option.none : Option Jvm.ClassFile.FieldType)).before args0 about1 = true := code_word (m := ⟨2, 2⟩) (meth := k2m2) (c := k2c2) (by decide +kernel) rfl rfl rfl (by decide +kernel)
set_option maxRecDepth 65536 in
theorem w_c7 : (Jvm.Cond.code ({ cls := "com/example/pivotwise/pivotwise/retrieval/Scores", name := "count", desc := "()I" } : Jvm.MethodName) prog_174_method_4_code (1 : Nat) (Option.some Jvm.ClassFile.FieldType.int)).before args0 about1 = true := code_word (m := ⟨2, 3⟩) (meth := k2m3) (c := k2c3) (by decide +kernel) rfl rfl rfl (by decide +kernel)
set_option maxRecDepth 65536 in
theorem w_c8 : (Jvm.Cond.code ({ cls := "com/example/pivotwise/pivotwise/retrieval/ScoresAddPinLaw", name := "sum", desc := "(IIIIIII)D" } : Jvm.MethodName) method_3_code (9 : Nat) (Option.some Jvm.ClassFile.FieldType.double)).before args0 about1 = true := code_word (m := ⟨1, 2⟩) (meth := k1m2) (c := k1c2) (by decide +kernel) rfl rfl rfl (by decide +kernel)
def codes1 : List Jvm.Cond := [Jvm.Cond.code x code maxLocals ret, Jvm.Cond.code ({ cls := "com/example/pivotwise/pivotwise/retrieval/Scores", name := "<init>", desc := "(I)V" } : Jvm.MethodName) prog_174_method_1_code (2 : Nat) (Option.none : Option Jvm.ClassFile.FieldType), Jvm.Cond.code ({ cls := "java/lang/Object", name := "<init>", desc := "()V" } : Jvm.MethodName) object_method_1_code (1 : Nat) (Option.none : Option Jvm.ClassFile.FieldType), Jvm.Cond.code ({ cls := "com/example/pivotwise/pivotwise/retrieval/Scores", name := "documents", desc := "()[I" } : Jvm.MethodName) prog_174_method_5_code (1 : Nat) (Option.some (Jvm.ClassFile.FieldType.array Jvm.ClassFile.FieldType.int)), Jvm.Cond.code ({ cls := "com/example/pivotwise/pivotwise/retrieval/Scores", name := "values", desc := "()[D" } : Jvm.MethodName) prog_174_method_6_code (1 : Nat) (Option.some (Jvm.ClassFile.FieldType.array Jvm.ClassFile.FieldType.double)), Jvm.Cond.code ({ cls := "com/example/pivotwise/pivotwise/retrieval/Scores", name := "start", desc := "()V" } : Jvm.MethodName) prog_174_method_2_code (1 : Nat) (Option.none : Option Jvm.ClassFile.FieldType), Jvm.Cond.code ({ cls := "com/example/pivotwise/pivotwise/retrieval/Scores", name := "add", desc := "(ID)V" } : Jvm.MethodName) prog_174_method_3_code (4 : Nat) (Option.none : Option Jvm.ClassFile.FieldType), Jvm.Cond.code ({ cls := "com/example/pivotwise/pivotwise/retrieval/Scores", name := "count", desc := "()I" } : Jvm.MethodName) prog_174_method_4_code (1 : Nat) (Option.some Jvm.ClassFile.FieldType.int), Jvm.Cond.code ({ cls := "com/example/pivotwise/pivotwise/retrieval/ScoresAddPinLaw", name := "sum", desc := "(IIIIIII)D" } : Jvm.MethodName) method_3_code (9 : Nat) (Option.some Jvm.ClassFile.FieldType.double)]
set_option maxRecDepth 65536 in
theorem codes_eq : words1.filter isCode = codes1 := rfl
theorem w_codes : ∀ c ∈ words1.filter isCode, c.before args0 about1 = true := by
  rw [codes_eq]
  intro c hc
  simp only [codes1, List.mem_cons, List.not_mem_nil, or_false] at hc
  rcases hc with rfl | rfl | rfl | rfl | rfl | rfl | rfl | rfl | rfl
  · exact w_c0
  · exact w_c1
  · exact w_c2
  · exact w_c3
  · exact w_c4
  · exact w_c5
  · exact w_c6
  · exact w_c7
  · exact w_c8
set_option maxRecDepth 65536 in
theorem w_t1 : (words1.take 24).all (fun c => isCode c || c.before args0 about1) = true := by decide +kernel
set_option maxRecDepth 65536 in
theorem w_t2 : ((words1.drop 24).take 24).all (fun c => isCode c || c.before args0 about1) = true := by decide +kernel
set_option maxRecDepth 65536 in
theorem w_t3 : ((words1.drop 24).drop 24).all (fun c => isCode c || c.before args0 about1) = true := by decide +kernel
theorem w_tables : (allAtoms (Jvm.Cond.code x code maxLocals ret :: tables_1)).before args0 about1 = true := by
  rw [allAtoms_all]
  show words1.all (fun c => c.before args0 about1) = true
  refine all_split ?_ w_codes
  rw [← List.take_append_drop 24 words1, List.all_append, w_t1, ← List.take_append_drop 24 (words1.drop 24), List.all_append, w_t2, w_t3]
  rfl
set_option maxRecDepth 65536 in
theorem w_case : (Jvm.Cond.and given_1 narrow_1).before args0 about1 = true := by decide +kernel
theorem w_applies : (headSpec (Jvm.Cond.code x code maxLocals ret :: tables_1) room_1).applies x e0.platform about1 = true :=
  (Spec.applies_iff w_frames).mpr ⟨w_running, w_runnable, w_alone, w_named, w_hears, w_ripe, w_room, w_tables⟩
theorem atStart : AtStart classFile x code maxLocals ret World_1 tables_1 room_1 Calls_1 rest_1 Pre_1 launch0 p0 e0 about1 theMethod args0 below0 :=
  ⟨lists_1, trivial, launch0.admits_env _ _ _, launch0.least_env, fairChoices_fair.cas, fairChoices_fair.clock, w_frames, w_args, w_heap, w_applies, trivial, trivial, w_case⟩
end start1
theorem witness_1 : WitnessClaimed_1 := ⟨start1.p0, start1.e0, start1.about1, start1.theMethod, start1.args0, start1.below0, start1.atStart⟩
end Jvm.Pilot.@@N@@
