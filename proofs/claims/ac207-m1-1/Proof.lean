import JvmDerived
import JvmDerived.Pilot.@@N@@Statement
import JvmDerived.Pilot.@@N@@Code
set_option linter.unusedVariables false
set_option linter.unusedSimpArgs false
namespace Jvm.RoadKit
open Sem ClassFile Op Lib Jvm.Stand Jvm.Free Jvm.LawKit
section Own
variable {p : Program} {l : Launch} {e : Env} {R : Room} {s : State} {m : MethodId} {args : Array Value} {below : List Frame} {meth : Method} {c : Code} {T T' : State} {locs : List Loc} {cells slots : Nat} {CC SS : Nat} {Q : Option Value → Heap → List Loc → Prop} {g g' : JFrame}
/-- from the frame g over T the run returns, and what it leaves is as Q says -/
def Done (p : Program) (e : Env) (s : State) (below : List Frame) (CC SS : Nat) (Q : Option Value → Heap → List Loc → Prop) (T : State) (g : JFrame) : Prop :=
  ∃ s₂ o, Steps p.tables e below (T.setTop g) s₂ ∧ s₂.status = .running ∧ Ended s₂ below o ∧ ∃ v L, o = .returned v ∧ Q v s₂.heap L ∧ FrameEnd s o s₂ L CC SS
theorem Done.go (st : ∀ t, Steps p.tables e below (T'.setTop g') t → Steps p.tables e below (T.setTop g) t) (k : Done p e s below CC SS Q T' g') : Done p e s below CC SS Q T g := by
  obtain ⟨s2, o, h, r⟩ := k; exact ⟨s2, o, st _ h, r⟩
theorem Done.via (st : Steps p.tables e below (T.setTop g) (T'.setTop g')) (k : Done p e s below CC SS Q T' g') : Done p e s below CC SS Q T g := by
  obtain ⟨s2, o, h, r⟩ := k; exact ⟨s2, o, st.trans h, r⟩
theorem Done.ret (X : Stand p l e R s m args below meth c T locs cells slots) (hlk : meth.locks = false) {v : Option Value} (hv : meth.sig.returnType = none → v = none)
    (st : ∀ fs : List Frame, (∀ (f : JFrame) (acts : List Action), f.method = m → f.locked = none → f.entered = [] → (doReturn e (T.setTop f) acts v).1 = T.setFrames fs) → Steps p.tables e below (T.setTop g) (T.setFrames fs))
    (hq : Q v T.heap locs) (hc : cells ≤ CC) (hs : slots ≤ SS) : Done p e s below CC SS Q T g := by
  obtain ⟨fs, hr, hrun, hended, hW, hsame⟩ := X.leave (v := v) hv hlk
  exact ⟨_, _, st fs hr, hrun, hended, _, _, rfl, hq, ⟨_, rfl⟩, hW, hsame.mono hc hs⟩
theorem Done.retI (X : Stand p l e R s m args below meth c T locs cells slots) (hx : p.tables.exec = Jvm.exec) (hlk : meth.locks = false) {pc : Nat} {Ls : Array Slot} {z : Int32} {rest : List Value} (hret : meth.sig.returnType = some .int) (hd : decode c.code pc = .ok (.ireturn, 1))
    (hq : Q (some (.int z)) T.heap locs) (hc : cells ≤ CC) (hs : slots ≤ SS) : Done p e s below CC SS Q T (mkF m pc Ls (.int z :: rest)) := by
  refine Done.ret X hlk (fun h => by rw [hret] at h; cases h) (fun fs hl => ?_) hq hc hs
  have hm' : T.vm.method? m = some meth := X.method'
  have hn : narrow .int (.int z) = .int z := rfl
  show Steps p.tables e below (T.setTop { method := m, pc := pc, locals := Ls, stack := _ :: rest, locked := none }) _
  jvm_step X.here [X.here.top, hx, hd, hm', hret, hn]
  first | (intro acts; rw [hl _ acts rfl rfl rfl]) | rw [hl _ _ rfl rfl rfl]
  exact Steps.refl _
theorem Done.retJ (X : Stand p l e R s m args below meth c T locs cells slots) (hx : p.tables.exec = Jvm.exec) (hlk : meth.locks = false) {pc : Nat} {Ls : Array Slot} {z : Int64} {rest : List Value} (hret : meth.sig.returnType = some .long) (hd : decode c.code pc = .ok (.lreturn, 1))
    (hq : Q (some (.long z)) T.heap locs) (hc : cells ≤ CC) (hs : slots ≤ SS) : Done p e s below CC SS Q T (mkF m pc Ls (.long z :: rest)) := by
  refine Done.ret X hlk (fun h => by rw [hret] at h; cases h) (fun fs hl => ?_) hq hc hs
  have hm' : T.vm.method? m = some meth := X.method'
  show Steps p.tables e below (T.setTop { method := m, pc := pc, locals := Ls, stack := _ :: rest, locked := none }) _
  jvm_step X.here [X.here.top, hx, hd, hm', hret]
  first | (intro acts; rw [hl _ acts rfl rfl rfl]) | rw [hl _ _ rfl rfl rfl]
  exact Steps.refl _
theorem Done.retR (X : Stand p l e R s m args below meth c T locs cells slots) (hx : p.tables.exec = Jvm.exec) (hlk : meth.locks = false) {pc : Nat} {Ls : Array Slot} {v : Value} {t : FieldType} {rest : List Value} (hret : meth.sig.returnType = some t) (ht : t.isReference = true) (hv : v.isRef = true) (hd : decode c.code pc = .ok (.areturn, 1))
    (hq : Q (some v) T.heap locs) (hc : cells ≤ CC) (hs : slots ≤ SS) : Done p e s below CC SS Q T (mkF m pc Ls (v :: rest)) := by
  refine Done.ret X hlk (fun h => by rw [hret] at h; cases h) (fun fs hl => ?_) hq hc hs
  have hm' : T.vm.method? m = some meth := X.method'
  show Steps p.tables e below (T.setTop { method := m, pc := pc, locals := Ls, stack := _ :: rest, locked := none }) _
  jvm_step X.here [X.here.top, hx, hd, hm', hret, ht, hv]
  first | (intro acts; rw [hl _ acts rfl rfl rfl]) | rw [hl _ _ rfl rfl rfl]
  exact Steps.refl _
theorem Done.retV (X : Stand p l e R s m args below meth c T locs cells slots) (hx : p.tables.exec = Jvm.exec) (hlk : meth.locks = false) {pc : Nat} {Ls : Array Slot} (hret : meth.sig.returnType = none) (hd : decode c.code pc = .ok (.return_, 1))
    (hq : Q none T.heap locs) (hc : cells ≤ CC) (hs : slots ≤ SS) : Done p e s below CC SS Q T (mkF m pc Ls []) :=
  Done.ret X hlk (fun _ => rfl) (fun fs hl => X.returnOut hx hret hd hl) hq hc hs
theorem Done.retN (X : Stand p l e R s m args below meth c T locs cells slots) (hx : p.tables.exec = Jvm.exec) (hlk : meth.locks = false) {pc : Nat} {Ls : Array Slot} {z z' : Int32} {t : FieldType} {rest : List Value} (hret : meth.sig.returnType = some t) (ht : t = .boolean ∨ t = .byte ∨ t = .char ∨ t = .short) (hz : nar t z = z')
    (hd : decode c.code pc = .ok (.ireturn, 1)) (hq : Q (some (.int z')) T.heap locs) (hc : cells ≤ CC) (hs : slots ≤ SS) : Done p e s below CC SS Q T (mkF m pc Ls (.int z :: rest)) := by
  subst hz
  exact Done.ret X hlk (fun h => by rw [hret] at h; cases h) (fun fs hl => Jvm.RoadKit.retN X hx hret ht hd hl) hq hc hs
theorem own_backG {rc rs : Nat} {rest : List Value} {Q0 : Option Value → Heap → List Loc → Prop} (h : ∃ (v : Option Value) (vm₁ : Vm) (B : Pt), s.WarmedH vm₁ ∧ Stand p l e R s m args below meth c B.U B.locs B.cells B.slots ∧ (∃ L, Q0 v B.U.heap L ∧ B.locs = locs ++ L ∧ B.cells = cells + rc ∧ B.slots = slots + rs) ∧
      ∀ target, Steps p.tables e below (B.U.setTop { g with pc := g.pc + 3, stack := v.toList ++ rest }) target → Steps p.tables e below (T.setTop g) target) :
    ∃ v T' Lc, Stand p l e R s m args below meth c T' (locs ++ Lc) (cells + rc) (slots + rs) ∧ Q0 v T'.heap Lc ∧ ∀ target, Steps p.tables e below (T'.setTop { g with pc := g.pc + 3, stack := v.toList ++ rest }) target → Steps p.tables e below (T.setTop g) target := by
  obtain ⟨v, vm, ⟨U, L, k, n⟩, -, X, ⟨Lc, hQ, rfl, rfl, rfl⟩, st⟩ := h
  exact ⟨v, U, Lc, X, hQ, st⟩
theorem own_backV {rc rs : Nat} {rest : List Value} {Q0 : Option Value → Heap → List Loc → Prop} (h : ∃ (v : Option Value) (vm₁ : Vm) (B : Pt), s.WarmedH vm₁ ∧ Stand p l e R s m args below meth c B.U B.locs B.cells B.slots ∧ (∃ L, Q0 v B.U.heap L ∧ B.locs = locs ++ L ∧ B.cells = cells + rc ∧ B.slots = slots + rs) ∧
      Steps p.tables e below (T.setTop g) (B.U.setTop { g with pc := g.pc + 3, stack := v.toList ++ rest })) :
    ∃ v T' Lc, Stand p l e R s m args below meth c T' (locs ++ Lc) (cells + rc) (slots + rs) ∧ Q0 v T'.heap Lc ∧ ∀ target, Steps p.tables e below (T'.setTop { g with pc := g.pc + 3, stack := v.toList ++ rest }) target → Steps p.tables e below (T.setTop g) target := by
  obtain ⟨v, vm, ⟨U, L, k, n⟩, -, X, ⟨Lc, hQ, rfl, rfl, rfl⟩, st⟩ := h
  exact ⟨v, U, Lc, X, hQ, fun _ k => st.trans k⟩
theorem own_backI {rc rs : Nat} {rest : List Value} {Q0 : Option Value → Heap → List Loc → Prop} (h : ∃ (v : Option Value) (vm₁ : Vm) (B : Pt), s.WarmedH vm₁ ∧ Stand p l e R s m args below meth c B.U B.locs B.cells B.slots ∧ (∃ L, Q0 v B.U.heap L ∧ B.locs = locs ++ L ∧ B.cells = cells + rc ∧ B.slots = slots + rs) ∧
      Steps p.tables e below (T.setTop g) (B.U.setTop { g with pc := g.pc + 5, stack := v.toList ++ rest })) :
    ∃ v T' Lc, Stand p l e R s m args below meth c T' (locs ++ Lc) (cells + rc) (slots + rs) ∧ Q0 v T'.heap Lc ∧ ∀ target, Steps p.tables e below (T'.setTop { g with pc := g.pc + 5, stack := v.toList ++ rest }) target → Steps p.tables e below (T.setTop g) target := by
  obtain ⟨v, vm, ⟨U, L, k, n⟩, -, X, ⟨Lc, hQ, rfl, rfl, rfl⟩, st⟩ := h
  exact ⟨v, U, Lc, X, hQ, fun _ k => st.trans k⟩
theorem own_narB (x : Int32) : nar .byte x.toInt8.toInt32 = x.toInt8.toInt32 := by simp [nar]
end Own
end Jvm.RoadKit
namespace Jvm.RoadKit
open Sem ClassFile Op Lib Jvm.Stand Jvm.Free Jvm.LawKit
section OwnA
variable {p : Program} {l : Launch} {e : Env} {R : Room} {s : State} {m : MethodId} {args : Array Value} {below : List Frame} {meth : Method} {c : Code} {T T' : State} {locs : List Loc} {cells slots : Nat} {CC SS : Nat} {Q : Option Value → Heap → List Loc → Prop} {g g' : JFrame} {Z : State} {h h' : Heap} {a b : Addr} {ty : FieldType} {n : Nat} {f f' : Nat → Int32} {ws : List Addr} {sl : Nat} {v : Value}
/-- an array of n places at a; place i holds f i -/
def Ari (Z : State) (h : Heap) (a : Addr) (ty : FieldType) (n : Nat) (f : Nat → Int32) : Prop := ∃ cl : Cell, Arr Z h a cl ty ∧ cl.slots.size = n ∧ n < 2 ^ 31 ∧ ∀ i, i < n → cl.slots[i]? = some (.int (f i))
theorem Ari.lt (F : Ari Z h a ty n f) : a < h.size := by obtain ⟨_, A, -⟩ := F; exact A.lt
theorem Ari.ext (F : Ari Z h a ty n f) (E : Ext h h') : Ari Z h' a ty n f := by obtain ⟨cl, A, r⟩ := F; exact ⟨cl, A.ext E, r⟩
theorem Ari.other (F : Ari Z h b ty n f) (W : Wr h h' a sl v) (q : b ≠ a) : Ari Z h' b ty n f := by obtain ⟨cl, A, r⟩ := F; exact ⟨cl, A.other W q, r⟩
theorem Ari.keep (F : Ari Z h a ty n f) (K : Keep h h' ws) (q : a ∉ ws) : Ari Z h' a ty n f := by obtain ⟨cl, A, r⟩ := F; exact ⟨cl, ⟨K.2.1 a cl A.1 q, A.2⟩, r⟩
theorem Ari.congr (F : Ari Z h a ty n f) (q : ∀ i, i < n → f i = f' i) : Ari Z h a ty n f' := by obtain ⟨cl, A, r1, r2, r⟩ := F; exact ⟨cl, A, r1, r2, fun i hi => by rw [r i hi, q i hi]⟩
theorem Ari.small (F : Ari Z h a ty n f) : n < 2 ^ 31 := by obtain ⟨_, _, _, r, _⟩ := F; exact r
theorem Ari.set {j : Nat} {w : Int32} (F : Ari Z h a ty n f) (W : Wr h h' a j (.int w)) : Ari Z h' a ty n (fun i => if i = j then w else f i) := by
  obtain ⟨cl, A, r1, r2, r⟩ := F
  refine ⟨_, A.same W, by rw [sz_set]; exact r1, r2, fun i hi => ?_⟩
  by_cases u : i = j
  · subst u; simp [Cell.setSlot, r1, hi]
  · have := r i hi; simp only [Cell.setSlot, if_neg u]; rw [Array.getElem?_setIfInBounds_ne (Ne.symm u)]; exact this
theorem Ari.new {k : ClassId} {z : Int32} (A : Arr Z h a (newA k ty z) ty) (q : ¬ z < 0) (hz : z.toNatClampNeg = n) (hd : defaultValue ty = .int 0) : Ari Z h a ty n (fun _ => 0) :=
  ⟨_, A, by rw [sz_new, hz], by have := (back32 q).2; rw [hz] at this; exact this, fun i hi => by simp [newA, hz, hi, hd]⟩
theorem Ari.inb {cl : Cell} {j : Int32} {i : Nat} (hs : cl.slots.size = n) (hj : ¬ j < 0) (hi : j.toNatClampNeg = i) (hn : i < n) : ¬ (j < 0 ∨ cl.slots.size ≤ j.toNatClampNeg) := by
  rintro (q | q)
  · exact hj q
  · rw [hs, hi] at q; omega
theorem own_stB (X : Stand p l e R s m args below meth c T locs cells slots) (hx : p.tables.exec = Jvm.exec) (hZ : Z.Warmed39 s.vm) (eT : T.heap = h) (F : Ari Z h a .byte n f) {j x : Int32} (i : Nat) (hj : ¬ j < 0) (hi : j.toNatClampNeg = i) (hn : i < n) {g : JFrame} (hg : g.method = m) {rest : List Value} (hs : g.stack = .int x :: .int j :: .ref a :: rest) (hd : decode c.code g.pc = .ok (.bastore, 1)) :
    ∃ T' h', Stand p l e R s m args below meth c T' (locs ++ [⟨a, i⟩]) cells slots ∧ T'.heap = h' ∧ Wr h h' a i (.int (nar .byte x)) ∧ Ari Z h' a .byte n (fun k => if k = i then nar .byte x else f k) ∧ ∀ target, Steps p.tables e below (T'.setTop { g with pc := g.pc + 1, stack := rest }) target → Steps p.tables e below (T.setTop g) target := by
  obtain ⟨cl, A, r1, r2, r⟩ := F
  obtain ⟨T', h', X', e', W, st⟩ := stB X hx hZ eT A (j := j) (x := x) (Ari.inb r1 hj hi hn) hg hs hd
  rw [hi] at X' W
  exact ⟨T', h', X', e', W, Ari.set ⟨cl, A, r1, r2, r⟩ W, st⟩
theorem Done.ldB (X : Stand p l e R s m args below meth c T locs cells slots) (hx : p.tables.exec = Jvm.exec) (hZ : Z.Warmed39 s.vm) (eT : T.heap = h) (F : Ari Z h a .byte n f) {j w : Int32} (i : Nat) (hj : ¬ j < 0) (hi : j.toNatClampNeg = i) (hn : i < n) (hw : f i = w) {pc : Nat} {Ls : Array Slot} {rest : List Value} (hd : decode c.code pc = .ok (.baload, 1))
    (k : Done p e s below CC SS Q T (mkF m (pc + 1) Ls (.int w :: rest))) : Done p e s below CC SS Q T (mkF m pc Ls (.int j :: .ref a :: rest)) := by
  obtain ⟨cl, A, r1, r2, r⟩ := F
  refine Done.go (fun t kk => X.baloadBytes hx (j := j) (v := .int w) (by rw [eT]; exact A.1) (State.isArrayOf_alike hZ.alike A.2.1) A.2.2 (Ari.inb r1 hj hi hn) (by rw [hi, ← hw]; exact r i hn) (g := (mkF m pc Ls (.int j :: .ref a :: rest))) rfl rfl hd t kk) k
theorem Done.len (X : Stand p l e R s m args below meth c T locs cells slots) (hx : p.tables.exec = Jvm.exec) (hZ : Z.Warmed39 s.vm) (eT : T.heap = h) (F : Ari Z h a ty n f) {z : Int32} (hz : n.toInt32 = z) {pc : Nat} {Ls : Array Slot} {rest : List Value} (hd : decode c.code pc = .ok (.arraylength, 1))
    (k : Done p e s below CC SS Q T (mkF m (pc + 1) Ls (.int z :: rest))) : Done p e s below CC SS Q T (mkF m pc Ls (.ref a :: rest)) := by
  obtain ⟨cl, A, r1, r2, r⟩ := F
  subst r1 hz
  exact Done.go (fun t kk => X.arraylength hx (by rw [eT]; exact A.1) (State.isArrayOf_alike hZ.alike A.2.1) (g := (mkF m pc Ls (.ref a :: rest))) rfl rfl hd t kk) k
theorem own_nt {a b : Prop} (h : a ↔ b) (q : ¬ a) : ¬ b := fun r => q (h.mpr r)
theorem own_lt32 {x y : Int32} (hx : ¬ x < 0) (hy : ¬ y < 0) : x < y ↔ x.toNatClampNeg < y.toNatClampNeg := by
  have h0 : (0 : Int32).toInt = 0 := rfl
  rw [Int32.lt_iff_toInt_lt, h0] at hx hy
  rw [Int32.lt_iff_toInt_lt]
  simp only [Int32.toNatClampNeg]; omega
theorem own_mask (x m : Int32) (k : Nat) (hk : k ≤ 31) (hm : m.toBitVec.toNat = 2 ^ k - 1) : ¬ (x &&& m) < 0 ∧ (x &&& m).toNatClampNeg < 2 ^ k := by
  have h := c_mask x m k hk hm
  have hp : (0 : Int) < (2 ^ k : Nat) := by exact_mod_cast Nat.two_pow_pos k
  have h1 := Int.emod_nonneg x.toInt (Int.ne_of_gt hp)
  have h2 := Int.emod_lt_of_pos x.toInt hp
  have h0 : (0 : Int32).toInt = 0 := rfl
  rw [Int32.lt_iff_toInt_lt, h0]
  simp only [Int32.toNatClampNeg]
  constructor
  · omega
  · rw [h]; omega
end OwnA
end Jvm.RoadKit
namespace Jvm.RoadKit
open Sem ClassFile Op Lib Jvm.Stand Jvm.Free Jvm.LawKit
theorem own_plainE {Z : State} {h : Heap} {a : Addr} {C : String} (E : Exa Z h a C) : ∃ c : Cell, h[a]? = some c ∧ c.vm.isStatics = false := by obtain ⟨c, _, h1, -, -, h4, -⟩ := E; exact ⟨c, h1, h4⟩
theorem Sta.own_keepL {Z : State} {h h' : Heap} {C n d : String} {w : Value} {ws : List Addr} (F : Sta Z h C n d w) (K : Keep h h' ws) (q : ∀ a ∈ ws, ∃ c : Cell, h[a]? = some c ∧ c.vm.isStatics = false) : Sta Z h' C n d w := by
  obtain ⟨cf, i, kk, ff, st, cell, h1, h2, h3, h4, h5, h6, h7⟩ := F
  have ne : st ∉ ws := fun e => by
    obtain ⟨c, u1, u2⟩ := q st e
    cases h5.symm.trans u1
    rw [u2] at h6; cases h6
  exact ⟨cf, i, kk, ff, st, cell, h1, h2, h3, h4, K.2.1 st cell h5 ne, h6, h7⟩
end Jvm.RoadKit
namespace Jvm.RoadKit
open Sem ClassFile Op Lib Jvm.Stand Jvm.Free Jvm.LawKit
section OwnC
variable {p : Program} {l : Launch} {e : Env} {R : Room} {s : State} {m : MethodId} {args : Array Value} {below : List Frame} {meth : Method} {c : Code} {T : State} {locs : List Loc} {cells slots : Nat} {Z : State} {h : Heap} {a : Addr} {n : Nat} {f : Nat → Int32}
theorem own_stC (X : Stand p l e R s m args below meth c T locs cells slots) (hx : p.tables.exec = Jvm.exec) (hZ : Z.Warmed39 s.vm) (eT : T.heap = h) (F : Ari Z h a .char n f) {j x : Int32} (i : Nat) (hj : ¬ j < 0) (hi : j.toNatClampNeg = i) (hn : i < n) {g : JFrame} (hg : g.method = m) {rest : List Value} (hs : g.stack = .int x :: .int j :: .ref a :: rest) (hd : decode c.code g.pc = .ok (.castore, 1)) :
    ∃ T' h', Stand p l e R s m args below meth c T' (locs ++ [⟨a, i⟩]) cells slots ∧ T'.heap = h' ∧ Wr h h' a i (.int (nar .char x)) ∧ Ari Z h' a .char n (fun k => if k = i then nar .char x else f k) ∧ ∀ target, Steps p.tables e below (T'.setTop { g with pc := g.pc + 1, stack := rest }) target → Steps p.tables e below (T.setTop g) target := by
  obtain ⟨cl, A, r1, r2, r⟩ := F
  obtain ⟨T', h', X', e', W, st⟩ := stC X hx hZ eT A (j := j) (x := x) (Ari.inb r1 hj hi hn) hg hs hd
  rw [hi] at X' W
  exact ⟨T', h', X', e', W, Ari.set ⟨cl, A, r1, r2, r⟩ W, st⟩
theorem Ari.arv {cs : List Int32} (F : Ari Z h a .char n f) (hn : cs.length = n) (hf : ∀ i, i < n → f i = cs.getD i 0) (hp : ∀ c ∈ cs, ¬ c < 0 ∧ ¬ (255 : Int32) < c) {N : Int32} (hN : N.toNatClampNeg = n) (hN0 : ¬ N < 0) : ∃ k, Arv Z h a k .char N (cs.map Value.int) (.int 0) := by
  obtain ⟨cl, A, r1, r2, r⟩ := F
  have key : ∀ i, i < n → (cs.map Value.int).getD i (.int 0) = .int (cs.getD i 0) := fun i hi => by
    simp only [List.getD_eq_getElem?_getD, List.getElem?_map]
    rw [List.getElem?_eq_getElem (by omega)]; rfl
  refine ⟨_, cl, A, rfl, by rw [r1, hN], hN0, fun i hi => ?_, fun i hi => ?_⟩
  · rw [r1] at hi; rw [r i hi, key i hi, hf i hi]
  · rw [r1] at hi; rw [key i hi]
    have hm : cs.getD i 0 ∈ cs := by rw [List.getD_eq_getElem?_getD, List.getElem?_eq_getElem (by omega)]; exact List.getElem_mem _
    obtain ⟨u1, u2⟩ := hp _ hm
    generalize cs.getD i 0 = x at u1 u2
    rw [Int32.lt_iff_toInt_lt] at u1 u2
    simp only [fits, Bool.and_eq_true, decide_eq_true_eq, Int32.le_iff_toInt_le]
    have z0 : (0 : Int32).toInt = 0 := rfl
    have z1 : (255 : Int32).toInt = 255 := by decide
    have z2 : (65535 : Int32).toInt = 65535 := by decide
    omega
end OwnC
end Jvm.RoadKit
namespace Jvm.RoadKit
open Sem ClassFile Op Lib Jvm.Stand Jvm.Free Jvm.LawKit
section OwnWD
variable {p : Program} {l : Launch} {e : Env} {R : Room} {s bs : State} {m : MethodId} {args : Array Value} {below : List Frame} {meth : Method} {c : Code} {T T' : State} {locs : List Loc} {cells slots : Nat} {CC SS : Nat} {Q : Option Value → Heap → List Loc → Prop} {g g' : JFrame}
theorem own_dummyW : True := trivial
/-- the base bs over which a walk stands, and the true start s: what was interned since lies below k -/
def Sn (s bs : State) (k : Nat) : Prop := ∃ vm, bs = s.setVm vm ∧ s.Since vm k
theorem Sn.start (s : State) (k : Nat) : Sn s s k := ⟨s.vm, rfl, (State.WarmedH.refl s).since k⟩
def DoneW (p : Program) (e : Env) (s : State) (below : List Frame) (CC SS : Nat) (Q : Option Value → Heap → List Loc → Prop) (T : State) (g : JFrame) : Prop :=
  ∃ s₂ o, Steps p.tables e below (T.setTop g) s₂ ∧ s₂.status = .running ∧ Ended s₂ below o ∧ ∃ v L, o = .returned v ∧ Q v s₂.heap L ∧ ReturnedEndW s o s₂ L CC SS
theorem DoneW.ret (X : Stand p l e R bs m args below meth c T locs cells slots) (hlk : meth.locks = false ∧ ∃ k, Sn s bs k ∧ k ≤ T.heap.size) {v : Option Value} (hv : meth.sig.returnType = none → v = none)
    (st : ∀ fs : List Frame, (∀ (f : JFrame) (acts : List Action), f.method = m → f.locked = none → f.entered = [] → (doReturn e (T.setTop f) acts v).1 = T.setFrames fs) → Steps p.tables e below (T.setTop g) (T.setFrames fs))
    (hq : Q v T.heap locs) (hc : cells ≤ CC) (hs : slots ≤ SS) : DoneW p e s below CC SS Q T g := by
  obtain ⟨hl, k, ⟨vm, rfl, hS⟩, hk⟩ := hlk
  obtain ⟨fs, hr, hrun, hended, hW⟩ := X.leaveW hS hk (v := v) hv hl
  exact ⟨_, _, st fs hr, hrun, hended, _, _, rfl, hq, hW.1, hW.2.1, hW.2.2.1, hW.2.2.2.mono hc hs⟩
theorem DoneW.go (st : ∀ t, Steps p.tables e below (T'.setTop g') t → Steps p.tables e below (T.setTop g) t) (k : DoneW p e s below CC SS Q T' g') : DoneW p e s below CC SS Q T g := by
  obtain ⟨s2, o, h, r⟩ := k; exact ⟨s2, o, st _ h, r⟩
theorem DoneW.via (st : Steps p.tables e below (T.setTop g) (T'.setTop g')) (k : DoneW p e s below CC SS Q T' g') : DoneW p e s below CC SS Q T g := by
  obtain ⟨s2, o, h, r⟩ := k; exact ⟨s2, o, st.trans h, r⟩
theorem DoneW.retI (X : Stand p l e R bs m args below meth c T locs cells slots) (hx : p.tables.exec = Jvm.exec) (hlk : meth.locks = false ∧ ∃ k, Sn s bs k ∧ k ≤ T.heap.size) {pc : Nat} {Ls : Array Slot} {z : Int32} {rest : List Value} (hret : meth.sig.returnType = some .int) (hd : decode c.code pc = .ok (.ireturn, 1))
    (hq : Q (some (.int z)) T.heap locs) (hc : cells ≤ CC) (hs : slots ≤ SS) : DoneW p e s below CC SS Q T (mkF m pc Ls (.int z :: rest)) := by
  refine DoneW.ret X hlk (fun h => by rw [hret] at h; cases h) (fun fs hl => ?_) hq hc hs
  have hm' : T.vm.method? m = some meth := X.method'
  have hn : narrow .int (.int z) = .int z := rfl
  show Steps p.tables e below (T.setTop { method := m, pc := pc, locals := Ls, stack := _ :: rest, locked := none }) _
  jvm_step X.here [X.here.top, hx, hd, hm', hret, hn]
  first | (intro acts; rw [hl _ acts rfl rfl rfl]) | rw [hl _ _ rfl rfl rfl]
  exact Steps.refl _
theorem DoneW.retJ (X : Stand p l e R bs m args below meth c T locs cells slots) (hx : p.tables.exec = Jvm.exec) (hlk : meth.locks = false ∧ ∃ k, Sn s bs k ∧ k ≤ T.heap.size) {pc : Nat} {Ls : Array Slot} {z : Int64} {rest : List Value} (hret : meth.sig.returnType = some .long) (hd : decode c.code pc = .ok (.lreturn, 1))
    (hq : Q (some (.long z)) T.heap locs) (hc : cells ≤ CC) (hs : slots ≤ SS) : DoneW p e s below CC SS Q T (mkF m pc Ls (.long z :: rest)) := by
  refine DoneW.ret X hlk (fun h => by rw [hret] at h; cases h) (fun fs hl => ?_) hq hc hs
  have hm' : T.vm.method? m = some meth := X.method'
  show Steps p.tables e below (T.setTop { method := m, pc := pc, locals := Ls, stack := _ :: rest, locked := none }) _
  jvm_step X.here [X.here.top, hx, hd, hm', hret]
  first | (intro acts; rw [hl _ acts rfl rfl rfl]) | rw [hl _ _ rfl rfl rfl]
  exact Steps.refl _
theorem DoneW.retR (X : Stand p l e R bs m args below meth c T locs cells slots) (hx : p.tables.exec = Jvm.exec) (hlk : meth.locks = false ∧ ∃ k, Sn s bs k ∧ k ≤ T.heap.size) {pc : Nat} {Ls : Array Slot} {v : Value} {t : FieldType} {rest : List Value} (hret : meth.sig.returnType = some t) (ht : t.isReference = true) (hv : v.isRef = true) (hd : decode c.code pc = .ok (.areturn, 1))
    (hq : Q (some v) T.heap locs) (hc : cells ≤ CC) (hs : slots ≤ SS) : DoneW p e s below CC SS Q T (mkF m pc Ls (v :: rest)) := by
  refine DoneW.ret X hlk (fun h => by rw [hret] at h; cases h) (fun fs hl => ?_) hq hc hs
  have hm' : T.vm.method? m = some meth := X.method'
  show Steps p.tables e below (T.setTop { method := m, pc := pc, locals := Ls, stack := _ :: rest, locked := none }) _
  jvm_step X.here [X.here.top, hx, hd, hm', hret, ht, hv]
  first | (intro acts; rw [hl _ acts rfl rfl rfl]) | rw [hl _ _ rfl rfl rfl]
  exact Steps.refl _
theorem DoneW.retV (X : Stand p l e R bs m args below meth c T locs cells slots) (hx : p.tables.exec = Jvm.exec) (hlk : meth.locks = false ∧ ∃ k, Sn s bs k ∧ k ≤ T.heap.size) {pc : Nat} {Ls : Array Slot} (hret : meth.sig.returnType = none) (hd : decode c.code pc = .ok (.return_, 1))
    (hq : Q none T.heap locs) (hc : cells ≤ CC) (hs : slots ≤ SS) : DoneW p e s below CC SS Q T (mkF m pc Ls []) :=
  DoneW.ret X hlk (fun _ => rfl) (fun fs hl => X.returnOut hx hret hd hl) hq hc hs
theorem DoneW.retN (X : Stand p l e R bs m args below meth c T locs cells slots) (hx : p.tables.exec = Jvm.exec) (hlk : meth.locks = false ∧ ∃ k, Sn s bs k ∧ k ≤ T.heap.size) {pc : Nat} {Ls : Array Slot} {z z' : Int32} {t : FieldType} {rest : List Value} (hret : meth.sig.returnType = some t) (ht : t = .boolean ∨ t = .byte ∨ t = .char ∨ t = .short) (hz : nar t z = z')
    (hd : decode c.code pc = .ok (.ireturn, 1)) (hq : Q (some (.int z')) T.heap locs) (hc : cells ≤ CC) (hs : slots ≤ SS) : DoneW p e s below CC SS Q T (mkF m pc Ls (.int z :: rest)) := by
  subst hz
  exact DoneW.ret X hlk (fun h => by rw [hret] at h; cases h) (fun fs hl => Jvm.RoadKit.retN X hx hret ht hd hl) hq hc hs
end OwnWD
section OwnW
variable {p : Program} {l : Launch} {e : Env} {R : Room} {s bs : State} {m : MethodId} {args : Array Value} {below : List Frame} {meth : Method} {c : Code} {T T' : State} {locs : List Loc} {cells slots : Nat} {Z : State} {a0 : Array Value} {h : Heap} {g : JFrame}
theorem own_ldcS (X : Stand p l e R bs m args below meth c T locs cells slots) (hx : p.tables.exec = Jvm.exec) (hZ : Z.Warmed39 bs.vm) {own text : String} {index : Nat} (hown : bs.vm.findClass own = some m.cls) (w : (Cond.stringLink own index text).before a0 Z = true) (wS : ∀ a ∈ Bundle.stringAtoms, a.before a0 Z = true)
    (eT : T.heap = h) {k0 : Nat} (hS : Sn s bs k0) (hk : k0 ≤ h.size) (hg : g.method = m) (hd : decode c.code g.pc = .ok (.ldc index, 2)) {n : Nat} (hn : 4 * text.toList.length ≤ n) (hbig : n ≤ 536870912) (hc : cells + 2 ≤ R.cells) (hl : slots + (n + 4) ≤ R.slots) :
    ∃ (a : Addr) (T' : State) (h' : Heap) (b' : State) (k1 : Nat), Stand p l e R b' m args below meth c T' locs (cells + 2) (slots + (n + 4)) ∧ T'.heap = h' ∧ Ext h h' ∧ Sn s b' k1 ∧ k1 ≤ h'.size ∧ Z.Warmed39 b'.vm ∧ b'.vm.findClass own = some m.cls ∧
      ∀ target, Steps p.tables e below (T'.setTop { g with pc := g.pc + 2, stack := .ref a :: g.stack }) target → Steps p.tables e below (T.setTop g) target := by
  obtain ⟨vm0, rfl, hS⟩ := hS
  obtain ⟨a, T', h', k1, X', e', E, hS', hk', hZ', hown', st⟩ := ldcS X hx hZ hown w wS eT hS hk hg hd hn hbig hc hl
  exact ⟨a, T', h', _, k1, X', e', E, ⟨_, rfl, hS'⟩, hk', hZ', hown', st⟩
theorem own_backW {rc rs : Nat} {rest : List Value} {own : String} {k0 : Nat} {Q0 : Option Value → Heap → List Loc → Prop} (hZ : Z.Warmed39 bs.vm) (hown : bs.vm.findClass own = some m.cls) (hS : Sn s bs k0) (hk : k0 ≤ T.heap.size)
    (h : ∃ (v : Option Value) (vm₁ : Vm) (B : Pt), bs.WarmedH vm₁ ∧ Stand p l e R (bs.setVm B.U.vm) m args below meth c B.U B.locs B.cells B.slots ∧ bs.Since B.U.vm B.U.heap.size ∧ T.heap.size ≤ B.U.heap.size ∧ (∃ L, Q0 v B.U.heap L ∧ B.locs = locs ++ L ∧ B.cells = cells + rc ∧ B.slots = slots + rs) ∧
      Steps p.tables e below (T.setTop g) (B.U.setTop { g with pc := g.pc + 3, stack := v.toList ++ rest })) :
    ∃ v T' Lc b', Stand p l e R b' m args below meth c T' (locs ++ Lc) (cells + rc) (slots + rs) ∧ Q0 v T'.heap Lc ∧ Sn s b' T'.heap.size ∧ Z.Warmed39 b'.vm ∧ b'.vm.findClass own = some m.cls ∧ ∀ target, Steps p.tables e below (T'.setTop { g with pc := g.pc + 3, stack := v.toList ++ rest }) target → Steps p.tables e below (T.setTop g) target := by
  obtain ⟨v, vm, ⟨U, L, k, n⟩, -, X, hS2, hgr, ⟨Lc, hQ, rfl, rfl, rfl⟩, st⟩ := h
  obtain ⟨vm0, rfl, hS⟩ := hS
  exact ⟨v, U, Lc, _, X, hQ, ⟨_, rfl, hS.trans hS2 (Nat.le_trans hk hgr)⟩, State.Warmed39.trans hZ hS2.1, by rw [show ((s.setVm vm0).setVm U.vm).vm = U.vm from rfl, hS2.1.alike.findClass]; exact hown, fun _ k => st.trans k⟩
end OwnW
end Jvm.RoadKit
/- laws to paste: Road.backV (cut by pick.py; bodies as the Statement names them) -/
namespace Jvm.Pilot.@@N@@
namespace StrChars
open Jvm Sem ClassFile Op Lib Jvm.Stand Jvm.Free.XT Jvm.Free.ALB Jvm.Free.JM Jvm.Free
open Jvm.Lib.Cold (StaticIs)
/-- a char array whose places are chars -/
def Ch (a : Addr) (A : Cell) (U : State) : Prop := Arr .char a A U ∧ Typed .char A
theorem Ch.mv {a : Addr} {A : Cell} {U U' : State} (h : Ch a A U) (hal : U.vm.Alike U'.vm) (hh : U'.heap = U.heap) : Ch a A U' := ⟨h.1.mv hal hh, h.2⟩
theorem Ch.keep {a : Addr} {A : Cell} {U U' : State} (h : Ch a A U) (hal : U.vm.Alike U'.vm) (hk : U'.heap[a]? = some A) : Ch a A U' := ⟨h.1.keep hal hk, h.2⟩
/-- what place i of a char[]'s cell holds -/
def cv (A : Cell) (i : Nat) : Int32 := match A.slots[i]? with | some (.int x) => x | _ => 0
theorem Ch.get {a : Addr} {A : Cell} {U : State} (h : Ch a A U) {i : Nat} (hi : i < A.slots.size) : A.slots[i]? = some (.int (cv A i)) := by
  have e := Array.getElem?_eq_getElem hi
  have f := h.2 i _ e
  unfold cv; rw [e]
  generalize A.slots[i] = v at f
  cases v <;> simp [fits] at f ⊢
/-- the byte that i2b leaves of a char -/
def lo8 (x : Int32) : Int32 := x.toInt8.toInt32
theorem fits_lo8 (y : Int32) : fits .byte (.int (lo8 y)) = true := by
  have h1 := y.toInt8.le_toInt
  have h2 := y.toInt8.toInt_lt
  simp only [lo8, fits, Bool.and_eq_true, decide_eq_true_eq, Int32.le_iff_toInt_le, Int8.toInt_toInt32, show (-128 : Int32).toInt = -128 from by decide, show (127 : Int32).toInt = 127 from by decide]
  omega
/-- A' is A but that each place j of lo .. hi - 1 holds f j -/
def Laid (A A' : Cell) (lo hi : Nat) (f : Nat → Value) : Prop := A'.cls = A.cls ∧ A'.vm = A.vm ∧ A'.slots.size = A.slots.size ∧ ∀ i, A'.slots[i]? = if lo ≤ i ∧ i < hi then some (f i) else A.slots[i]?
theorem Laid.zero (A : Cell) (lo : Nat) (f : Nat → Value) : Laid A A lo (lo + 0) f := ⟨rfl, rfl, rfl, fun i => by rw [if_neg (by omega)]⟩
theorem Laid.step {A Ak : Cell} {lo k : Nat} {f : Nat → Value} {v : Value} (h : Laid A Ak lo k f) (hlo : lo ≤ k) (hk : k < Ak.slots.size) (hv : v = f k) : Laid A (Ak.setSlot k v) lo (k + 1) f := by
  refine ⟨h.1, h.2.1, by simpa [Cell.setSlot] using h.2.2.1, fun i => ?_⟩
  by_cases e : k = i
  · subst e; rw [Cell.slots_setSlot_self v hk, if_pos (by omega), hv]
  · rw [Cell.slots_setSlot_ne v e, h.2.2.2 i]
    by_cases q : lo ≤ i ∧ i < k
    · rw [if_pos q, if_pos (by omega)]
    · rw [if_neg q, if_neg (by omega)]
def U16 : String := "java/lang/StringUTF16"
namespace Cmp5
def yN : MethodName := ⟨"java/lang/StringUTF16", "compress", "([CI[BII)I"⟩
abbrev yB : ByteArray := jdk_52_method_21_code
theorem d0 : decode yB 0 = .ok (.iconst 0, 1) := by decide +kernel
theorem d1 : decode yB 1 = .ok (.istore 5, 2) := by decide +kernel
theorem d3 : decode yB 3 = .ok (.iload 5, 2) := by decide +kernel
theorem d5 : decode yB 5 = .ok (.iload 4, 2) := by decide +kernel
theorem d7 : decode yB 7 = .ok (.if_icmp (.ge) 37, 3) := by decide +kernel
theorem d10 : decode yB 10 = .ok (.aload_n 0, 1) := by decide +kernel
theorem d11 : decode yB 11 = .ok (.iload_n 1, 1) := by decide +kernel
theorem d12 : decode yB 12 = .ok (.caload, 1) := by decide +kernel
theorem d13 : decode yB 13 = .ok (.istore 6, 2) := by decide +kernel
theorem d15 : decode yB 15 = .ok (.iload 6, 2) := by decide +kernel
theorem d17 : decode yB 17 = .ok (.sipush 255, 3) := by decide +kernel
theorem d20 : decode yB 20 = .ok (.if_icmp (.le) 6, 3) := by decide +kernel
theorem d26 : decode yB 26 = .ok (.aload_n 2, 1) := by decide +kernel
theorem d27 : decode yB 27 = .ok (.iload_n 3, 1) := by decide +kernel
theorem d28 : decode yB 28 = .ok (.iload 6, 2) := by decide +kernel
theorem d30 : decode yB 30 = .ok (.i2b, 1) := by decide +kernel
theorem d31 : decode yB 31 = .ok (.bastore, 1) := by decide +kernel
theorem d32 : decode yB 32 = .ok (.iinc 1 1, 3) := by decide +kernel
theorem d35 : decode yB 35 = .ok (.iinc 3 1, 3) := by decide +kernel
theorem d38 : decode yB 38 = .ok (.iinc 5 1, 3) := by decide +kernel
theorem d41 : decode yB 41 = .ok (.goto (-38), 3) := by decide +kernel
theorem d44 : decode yB 44 = .ok (.iload 4, 2) := by decide +kernel
theorem d46 : decode yB 46 = .ok (.ireturn, 1) := by decide +kernel
def site : List Cond := []
def tab : Cond := tabOf yN yB 7 (some .int) site
def P (b : Addr) (A : Cell) (d : Addr) (B : Cell) (o q len : Nat) (args : Array Value) (s : State) : Prop := args = #[.ref b, .int (Int32.ofNat o), .ref d, .int (Int32.ofNat q), .int (Int32.ofNat len)] ∧ Ch b A s ∧ Arr .byte d B s ∧ b ≠ d ∧ o + len ≤ A.slots.size ∧ q + len ≤ B.slots.size ∧ ∀ i, i < len → ¬ 255 < cv A (o + i)
def E (b : Addr) (A : Cell) (d : Addr) (B : Cell) (o q len : Nat) (r : Option Value) (s u : State) : Prop := r = some (.int (Int32.ofNat len)) ∧ ∃ B', Put d B' s u ∧ Laid B B' q (q + len) (fun j => Value.int (lo8 (cv A (o + (j - q)))))
/-- no char of the range above 255: len; the places written hold each char's low byte -/
theorem law (l : Launch) (b : Addr) (A : Cell) (d : Addr) (B : Cell) (o q len : Nat) : Law l yN 5 5 0 0 yB 7 (some .int) site (P b A d B o q len) (E b A d B o q len) (copyLocs d q len) 0 0 := by
  refine Law.of_walk (plainFor_of_name (by decide +kernel)) (by decide +kernel) (by decide +kernel) (by decide) (fun _ _ h => by rw [h.1]; rfl) (fun _ U U' hal hh h => ⟨h.1, h.2.1.mv hal hh, h.2.2.1.mv hal hh, h.2.2.2⟩) (fun r U U' V V' h1 hal h2 h => ⟨h.1, h.2.elim fun B' q => ⟨B', q.1.mv h1 h2, q.2⟩⟩) ?_
  intro p e s m args below meth c s₁ X0 hexec hbytes hml hret hlk hnm hown hh0 W hP
  obtain ⟨rfl, hA, hB, hne, l1, l2, hp⟩ := hP
  have c1 : Steps p.tables e below (s₁.setTop (entryFrame m #[.ref b, .int (Int32.ofNat o), .ref d, .int (Int32.ofNat q), .int (Int32.ofNat len)] 7)) (s₁.setTop (mkF m 0 #[.val (.ref b), .val (.int (Int32.ofNat o)), .val (.ref d), .val (.int (Int32.ofNat q)), .val (.int (Int32.ofNat len)), .unset, .unset] [])) := entry rfl
  have hA0 := hA.1.mv X0.warmed.alike hh0
  have hB0 := hB.mv X0.warmed.alike hh0
  have a31 := hA.1.2.2.2
  have c2 : Steps p.tables e below (s₁.setTop (entryFrame m #[.ref b, .int (Int32.ofNat o), .ref d, .int (Int32.ofNat q), .int (Int32.ofNat len)] 7)) (s₁.setTop (mkF m 3 #[.val (.ref b), .val (.int (Int32.ofNat o)), .val (.ref d), .val (.int (Int32.ofNat q)), .val (.int (Int32.ofNat len)), .val (.int 0), .unset] [])) := c1.trans (by
    refine iconstV X0.here hexec rfl 0 (hb hbytes d0) (by decide) ?_
    refine XS.istore X0.here hexec rfl (hb hbytes d1) rfl rfl ?_
    exact Steps.refl _)
  have loop : ∀ (r i : Nat), i + r = len → ∀ (z : Slot), (z = .unset ∨ ∃ w, z = .val w ∧ w.category = 1) → ∀ (Tl : State) (Bk : Cell), Stand p l e { frames := 0, locals := 0, cells := 0, slots := 0 } s m #[.ref b, .int (Int32.ofNat o), .ref d, .int (Int32.ofNat q), .int (Int32.ofNat len)] below meth c Tl ([] ++ copyLocs d q i) 0 0 → Put d Bk s₁ Tl → Laid B Bk q (q + i) (fun j => Value.int (lo8 (cv A (o + (j - q))))) →
      Steps p.tables e below (s₁.setTop (entryFrame m #[.ref b, .int (Int32.ofNat o), .ref d, .int (Int32.ofNat q), .int (Int32.ofNat len)] 7)) (Tl.setTop (mkF m 3 #[.val (.ref b), .val (.int (Int32.ofNat (o + i))), .val (.ref d), .val (.int (Int32.ofNat (q + i))), .val (.int (Int32.ofNat len)), .val (.int (Int32.ofNat i)), z] [])) → ∃ (T' : State) (B' : Cell) (z' : Slot), Stand p l e { frames := 0, locals := 0, cells := 0, slots := 0 } s m #[.ref b, .int (Int32.ofNat o), .ref d, .int (Int32.ofNat q), .int (Int32.ofNat len)] below meth c T' ([] ++ copyLocs d q len) 0 0 ∧ Put d B' s₁ T' ∧ Laid B B' q (q + len) (fun j => Value.int (lo8 (cv A (o + (j - q))))) ∧
      Steps p.tables e below (s₁.setTop (entryFrame m #[.ref b, .int (Int32.ofNat o), .ref d, .int (Int32.ofNat q), .int (Int32.ofNat len)] 7)) (T'.setTop (mkF m 3 #[.val (.ref b), .val (.int (Int32.ofNat (o + len))), .val (.ref d), .val (.int (Int32.ofNat (q + len))), .val (.int (Int32.ofNat len)), .val (.int (Int32.ofNat len)), z'] [])) := by
    intro r
    induction r with
    | zero =>
      intro i hi z hz Tl Bk Xl pl fl cl
      have hil : i = len := by omega
      rw [hil] at Xl fl cl
      exact ⟨Tl, Bk, z, Xl, pl, fl, cl⟩
    | succ r ih =>
      intro i hi z hz Tl Bk Xl pl fl cl
      have all := X0.warmed.alike.symm.trans Xl.warmed.alike
      have hAl := hA0.keep all (pl.other hne hA0.1)
      have hBk := hB0.like all pl.1 fl.1 fl.2.1 fl.2.2.1
      have hlt : q + i < Bk.slots.size := by rw [fl.2.2.1]; omega
      have c3 : Steps p.tables e below (s₁.setTop (entryFrame m #[.ref b, .int (Int32.ofNat o), .ref d, .int (Int32.ofNat q), .int (Int32.ofNat len)] 7)) (Tl.setTop (mkF m 12 #[.val (.ref b), .val (.int (Int32.ofNat (o + i))), .val (.ref d), .val (.int (Int32.ofNat (q + i))), .val (.int (Int32.ofNat len)), .val (.int (Int32.ofNat i)), z] [.int (Int32.ofNat (o + i)), .ref b])) := cl.trans (by
        refine XS.iload Xl.here hexec rfl (hb hbytes d3) rfl ?_
        refine XS.iload Xl.here hexec rfl (hb hbytes d5) rfl ?_
        refine XS.icmpNo Xl.here hexec rfl (hb hbytes d7) rfl (ii_ge_f (lt32 (by omega) (by omega))) ?_
        refine XS.aloadN Xl.here hexec rfl (hb hbytes d10) rfl rfl ?_
        refine XS.iloadN Xl.here hexec rfl (hb hbytes d11) rfl ?_
        exact Steps.refl _)
      have c4 : Steps p.tables e below (s₁.setTop (entryFrame m #[.ref b, .int (Int32.ofNat o), .ref d, .int (Int32.ofNat q), .int (Int32.ofNat len)] 7)) (Tl.setTop (mkF m 13 #[.val (.ref b), .val (.int (Int32.ofNat (o + i))), .val (.ref d), .val (.int (Int32.ofNat (q + i))), .val (.int (Int32.ofNat len)), .val (.int (Int32.ofNat i)), z] [.int (cv A (o + i))])) := c3.trans (by
        refine Xl.aget hexec hAl rfl (hA.get (i := o + i) (by omega)) rfl rfl (hb hbytes d12) ?_
        exact Steps.refl _)
      have c5 : Steps p.tables e below (s₁.setTop (entryFrame m #[.ref b, .int (Int32.ofNat o), .ref d, .int (Int32.ofNat q), .int (Int32.ofNat len)] 7)) (Tl.setTop (mkF m 15 #[.val (.ref b), .val (.int (Int32.ofNat (o + i))), .val (.ref d), .val (.int (Int32.ofNat (q + i))), .val (.int (Int32.ofNat len)), .val (.int (Int32.ofNat i)), .val (.int (cv A (o + i)))] [])) := c4.trans (by
        refine XS.istoreS Xl.here hexec rfl (hb hbytes d13) rfl rfl hz ?_
        exact Steps.refl _)
      have c6 : Steps p.tables e below (s₁.setTop (entryFrame m #[.ref b, .int (Int32.ofNat o), .ref d, .int (Int32.ofNat q), .int (Int32.ofNat len)] 7)) (Tl.setTop (mkF m 31 #[.val (.ref b), .val (.int (Int32.ofNat (o + i))), .val (.ref d), .val (.int (Int32.ofNat (q + i))), .val (.int (Int32.ofNat len)), .val (.int (Int32.ofNat i)), .val (.int (cv A (o + i)))] [.int (lo8 (cv A (o + i))), .int (Int32.ofNat (q + i)), .ref d])) := c5.trans (by
        refine XS.iload Xl.here hexec rfl (hb hbytes d15) rfl ?_
        refine sipushV Xl.here hexec rfl 255 (hb hbytes d17) (by decide) ?_
        refine XS.icmpYes Xl.here hexec rfl (pc0 := 20) rfl (hb hbytes d20) rfl (ii_le_t (hp i (by omega))) (by decide) rfl ?_
        refine XS.aloadN Xl.here hexec rfl (hb hbytes d26) rfl rfl ?_
        refine XS.iloadN Xl.here hexec rfl (hb hbytes d27) rfl ?_
        refine XS.iload Xl.here hexec rfl (hb hbytes d28) rfl ?_
        refine i2b Xl.here hexec rfl (hb hbytes d30) rfl ?_
        exact Steps.refl _)
      obtain ⟨T7, X7, p7, st7⟩ := Xl.aput hexec hBk rfl hlt rfl (fits_lo8 (cv A (o + i))) (g := (mkF m 31 #[.val (.ref b), .val (.int (Int32.ofNat (o + i))), .val (.ref d), .val (.int (Int32.ofNat (q + i))), .val (.int (Int32.ofNat len)), .val (.int (Int32.ofNat i)), .val (.int (cv A (o + i)))] [.int (lo8 (cv A (o + i))), .int (Int32.ofNat (q + i)), .ref d])) rfl (rest := []) rfl (hb hbytes d31)
      have c8 : Steps p.tables e below (s₁.setTop (entryFrame m #[.ref b, .int (Int32.ofNat o), .ref d, .int (Int32.ofNat q), .int (Int32.ofNat len)] 7)) (T7.setTop (mkF m 32 #[.val (.ref b), .val (.int (Int32.ofNat (o + i))), .val (.ref d), .val (.int (Int32.ofNat (q + i))), .val (.int (Int32.ofNat len)), .val (.int (Int32.ofNat i)), .val (.int (cv A (o + i)))] [])) := c6.trans (st7 _ (Steps.refl _))
      have c9 : Steps p.tables e below (s₁.setTop (entryFrame m #[.ref b, .int (Int32.ofNat o), .ref d, .int (Int32.ofNat q), .int (Int32.ofNat len)] 7)) (T7.setTop (mkF m 3 #[.val (.ref b), .val (.int (Int32.ofNat (o + i) + 1)), .val (.ref d), .val (.int (Int32.ofNat (q + i) + 1)), .val (.int (Int32.ofNat len)), .val (.int (Int32.ofNat i + 1)), .val (.int (cv A (o + i)))] [])) := c8.trans (by
        refine iincV X7.here hexec rfl 1 (hb hbytes d32) (by decide) rfl rfl ?_
        refine iincV X7.here hexec rfl 1 (hb hbytes d35) (by decide) rfl rfl ?_
        refine iincV X7.here hexec rfl 1 (hb hbytes d38) (by decide) rfl rfl ?_
        refine XS.goto X7.here hexec rfl (pc0 := 41) rfl (hb hbytes d41) (by decide) rfl ?_
        exact Steps.refl _)
      have c10 : Steps p.tables e below (s₁.setTop (entryFrame m #[.ref b, .int (Int32.ofNat o), .ref d, .int (Int32.ofNat q), .int (Int32.ofNat len)] 7)) (T7.setTop (mkF m 3 #[.val (.ref b), .val (.int (Int32.ofNat (o + (i + 1)))), .val (.ref d), .val (.int (Int32.ofNat (q + (i + 1)))), .val (.int (Int32.ofNat len)), .val (.int (Int32.ofNat (i + 1))), .val (.int (cv A (o + i)))] [])) := by
        have := c9
        rw [succ32, succ32, succ32] at this
        exact this
      exact ih (i + 1) (by omega) _ (Or.inr ⟨_, rfl, rfl⟩) T7 _ (by rw [copyLocs_step, ← List.append_assoc]; exact X7) (pl.trans p7) (fl.step (by omega) hlt (by simp)) c10
  obtain ⟨T9, B9, z9, X9, p9, f9, g9⟩ := loop len 0 (by omega) .unset (Or.inl rfl) s₁ B (by simpa [copyLocs] using X0) ⟨hB0.1, fun _ _ => rfl, rfl⟩ (Laid.zero _ _ _) c2
  have c11 : Steps p.tables e below (s₁.setTop (entryFrame m #[.ref b, .int (Int32.ofNat o), .ref d, .int (Int32.ofNat q), .int (Int32.ofNat len)] 7)) (T9.setTop (mkF m 46 #[.val (.ref b), .val (.int (Int32.ofNat (o + len))), .val (.ref d), .val (.int (Int32.ofNat (q + len))), .val (.int (Int32.ofNat len)), .val (.int (Int32.ofNat len)), z9] [.int (Int32.ofNat len)])) := g9.trans (by
    refine XS.iload X9.here hexec rfl (hb hbytes d3) rfl ?_
    refine XS.iload X9.here hexec rfl (hb hbytes d5) rfl ?_
    refine XS.icmpYes X9.here hexec rfl (pc0 := 7) rfl (hb hbytes d7) rfl (ii_ge_t (nlt32 (by omega) (Nat.le_refl _))) (by decide) rfl ?_
    refine XS.iload X9.here hexec rfl (hb hbytes d44) rfl ?_
    exact Steps.refl _)
  exact ⟨T9, some (.int (Int32.ofNat len)), _, _, _, X9, by simp, rfl, rfl, (fun h => by cases h), ⟨rfl, B9, p9.from hh0, f9⟩, fun fs hl => c11.trans (X9.ireturnOut hexec hret rfl (Or.inl rfl) (hb hbytes d46) hl)⟩
end Cmp5
namespace Cmp3
def yN : MethodName := ⟨"java/lang/StringUTF16", "compress", "([CII)[B"⟩
abbrev yB : ByteArray := jdk_52_method_16_code
theorem d0 : decode yB 0 = .ok (.iload_n 2, 1) := by decide +kernel
theorem d1 : decode yB 1 = .ok (.newarray .byte, 2) := by decide +kernel
theorem d3 : decode yB 3 = .ok (.astore_n 3, 1) := by decide +kernel
theorem d4 : decode yB 4 = .ok (.aload_n 0, 1) := by decide +kernel
theorem d5 : decode yB 5 = .ok (.iload_n 1, 1) := by decide +kernel
theorem d6 : decode yB 6 = .ok (.aload_n 3, 1) := by decide +kernel
theorem d7 : decode yB 7 = .ok (.iconst 0, 1) := by decide +kernel
theorem d8 : decode yB 8 = .ok (.iload_n 2, 1) := by decide +kernel
theorem d9 : decode yB 9 = .ok (.invokestatic 115, 3) := by decide +kernel
theorem d12 : decode yB 12 = .ok (.istore 4, 2) := by decide +kernel
theorem d14 : decode yB 14 = .ok (.iload 4, 2) := by decide +kernel
theorem d16 : decode yB 16 = .ok (.iload_n 2, 1) := by decide +kernel
theorem d17 : decode yB 17 = .ok (.if_icmp (.eq) 40, 3) := by decide +kernel
theorem d57 : decode yB 57 = .ok (.aload_n 3, 1) := by decide +kernel
theorem d58 : decode yB 58 = .ok (.areturn, 1) := by decide +kernel
def site : List Cond := [.arrayClass .byte, Cmp5.tab] ++ staticW U16 115 Cmp5.yN
def tab : Cond := tabOf yN yB 6 (some (.array .byte)) site
def P (b : Addr) (A : Cell) (o len : Nat) (args : Array Value) (s : State) : Prop := args = #[.ref b, .int (Int32.ofNat o), .int (Int32.ofNat len)] ∧ Ch b A s ∧ o + len ≤ A.slots.size ∧ len ≤ 536870912 ∧ ∀ i, i < len → ¬ 255 < cv A (o + i)
def E (b : Addr) (A : Cell) (o len : Nat) (r : Option Value) (s u : State) : Prop := NewArr .byte "[B" len (fun j => .int (lo8 (cv A (o + j)))) r s u ∧ u.heap.size = s.heap.size + 1
/-- no char of the range above 255: a new byte[] of their low bytes -/
theorem law (l : Launch) (b : Addr) (A : Cell) (o len : Nat) : Law l yN 3 3 1 18 yB 6 (some (.array .byte)) site (P b A o len) (E b A o len) [] 1 len := by
  refine Law.of_walk (plainFor_of_name (by decide +kernel)) (by decide +kernel) (by decide +kernel) (by decide) (fun _ _ h => by rw [h.1]; rfl) (fun _ U U' hal hh h => ⟨h.1, h.2.1.mv hal hh, h.2.2⟩) (fun r U U' V V' h1 hal h2 h => ⟨NewArr.mv r U U' V V' h1 hal h2 h.1, by rw [h1, h2]; exact h.2⟩) ?_
  intro p e s m args below meth c s₁ X0 hexec hbytes hml hret hlk hnm hown hh0 W hP
  obtain ⟨rfl, hA, l1, l2, hp⟩ := hP
  have a31 := hA.1.2.2.2
  have c1 : Steps p.tables e below (s₁.setTop (entryFrame m #[.ref b, .int (Int32.ofNat o), .int (Int32.ofNat len)] 6)) (s₁.setTop (mkF m 0 #[.val (.ref b), .val (.int (Int32.ofNat o)), .val (.int (Int32.ofNat len)), .unset, .unset, .unset] [])) := entry rfl
  have c2 : Steps p.tables e below (s₁.setTop (entryFrame m #[.ref b, .int (Int32.ofNat o), .int (Int32.ofNat len)] 6)) (s₁.setTop (mkF m 1 #[.val (.ref b), .val (.int (Int32.ofNat o)), .val (.int (Int32.ofNat len)), .unset, .unset, .unset] [.int (Int32.ofNat len)])) := c1.trans (by
    refine XS.iloadN X0.here hexec rfl (hb hbytes d0) rfl ?_
    exact Steps.refl _)
  obtain ⟨T3, B3, X3, ba3, bs3, bv3, bh3, bf3, st3⟩ := X0.anew hexec (atype := .byte) (wk W (.arrayClass .byte)) rfl (by show len * 1 ≤ _; omega) (by omega) (g := (mkF m 1 #[.val (.ref b), .val (.int (Int32.ofNat o)), .val (.int (Int32.ofNat len)), .unset, .unset, .unset] [.int (Int32.ofNat len)])) rfl (hb hbytes d1) (rest := []) rfl (Nat.le_refl _) (by show 0 + len ≤ len; omega)
  rw [hh0] at ba3 st3
  have kp3 : XT.Kept s T3 := (XT.Kept.of_eq hh0).push bh3
  have hA3 := hA.keep X3.warmed.alike (kp3 _ _ hA.1.1)
  have hne : b ≠ s.heap.size := hA.1.ne
  have c4 : Steps p.tables e below (s₁.setTop (entryFrame m #[.ref b, .int (Int32.ofNat o), .int (Int32.ofNat len)] 6)) (T3.setTop (mkF m 3 #[.val (.ref b), .val (.int (Int32.ofNat o)), .val (.int (Int32.ofNat len)), .unset, .unset, .unset] [.ref s.heap.size])) := c2.trans (st3 _ (Steps.refl _))
  have c5 : Steps p.tables e below (s₁.setTop (entryFrame m #[.ref b, .int (Int32.ofNat o), .int (Int32.ofNat len)] 6)) (T3.setTop (mkF m 9 #[.val (.ref b), .val (.int (Int32.ofNat o)), .val (.int (Int32.ofNat len)), .val (.ref s.heap.size), .unset, .unset] [.int (Int32.ofNat len), .int 0, .ref s.heap.size, .int (Int32.ofNat o), .ref b])) := c4.trans (by
    refine XS.astoreN X3.here hexec rfl (hb hbytes d3) rfl rfl rfl ?_
    refine XS.aloadN X3.here hexec rfl (hb hbytes d4) rfl rfl ?_
    refine XS.iloadN X3.here hexec rfl (hb hbytes d5) rfl ?_
    refine XS.aloadN X3.here hexec rfl (hb hbytes d6) rfl rfl ?_
    refine iconstV X3.here hexec rfl 0 (hb hbytes d7) (by decide) ?_
    refine XS.iloadN X3.here hexec rfl (hb hbytes d8) rfl ?_
    exact Steps.refl _)
  obtain ⟨v6, T6, X6, E6, g6⟩ := X3.callS hexec (Cmp5.law l b A s.heap.size B3 o 0 len) hown (wks W (staticW U16 115 Cmp5.yN)) (wk W Cmp5.tab) (W := 0) (Nat.le_of_ble_eq_true rfl) (Nat.le_of_ble_eq_true rfl) (Nat.le_refl _) (by show 0 + len + 0 ≤ len; omega) (g := (mkF m 9 #[.val (.ref b), .val (.int (Int32.ofNat o)), .val (.int (Int32.ofNat len)), .val (.ref s.heap.size), .unset, .unset] [.int (Int32.ofNat len), .int (Int32.ofNat 0), .ref s.heap.size, .int (Int32.ofNat o), .ref b])) rfl (by rw [hml]; rfl) c5 (argsL := [.ref b, .int (Int32.ofNat o), .ref s.heap.size, .int (Int32.ofNat 0), .int (Int32.ofNat len)]) (rest := []) rfl rfl (by show 2 * 0 + 0 ≤ _; decide) (hb hbytes d9) (⟨rfl, hA3, ba3, hne, l1, by rw [bs3]; simp, hp⟩)
  obtain ⟨rfl, B6, p6, f6⟩ := E6
  have c7 : Steps p.tables e below (s₁.setTop (entryFrame m #[.ref b, .int (Int32.ofNat o), .int (Int32.ofNat len)] 6)) (T6.setTop (mkF m 12 #[.val (.ref b), .val (.int (Int32.ofNat o)), .val (.int (Int32.ofNat len)), .val (.ref s.heap.size), .unset, .unset] [.int (Int32.ofNat len)])) := g6
  have c8 : Steps p.tables e below (s₁.setTop (entryFrame m #[.ref b, .int (Int32.ofNat o), .int (Int32.ofNat len)] 6)) (T6.setTop (mkF m 58 #[.val (.ref b), .val (.int (Int32.ofNat o)), .val (.int (Int32.ofNat len)), .val (.ref s.heap.size), .val (.int (Int32.ofNat len)), .unset] [.ref s.heap.size])) := c7.trans (by
    refine XS.istore X6.here hexec rfl (hb hbytes d12) rfl rfl ?_
    refine XS.iload X6.here hexec rfl (hb hbytes d14) rfl ?_
    refine XS.iloadN X6.here hexec rfl (hb hbytes d16) rfl ?_
    refine XS.icmpYes X6.here hexec rfl (pc0 := 17) rfl (hb hbytes d17) rfl (ii_eq_t rfl) (by decide) rfl ?_
    refine XS.aloadN X6.here hexec rfl (hb hbytes d57) rfl rfl ?_
    exact Steps.refl _)
  have X8 := X6.wide (L' := []) (cells' := 1) (slots' := len) (fun x hx hlt => by
    simp only [List.nil_append, copyLocs, List.mem_map, List.mem_range] at hx
    obtain ⟨i, -, rfl⟩ := hx
    exact absurd hlt (Nat.lt_irrefl _)) (Nat.le_refl _) (by omega)
  exact ⟨T6, some (.ref s.heap.size), _, _, _, X8, rfl, rfl, rfl, (fun h => by cases h), ⟨⟨rfl, B6, ba3.like (X3.warmed.alike.symm.trans X6.warmed.alike) p6.1 f6.1 f6.2.1 f6.2.2.1, f6.2.1.trans bv3, by rw [X6.warmed.alike.findClass, f6.1]; exact bf3, by rw [f6.2.2.1, bs3]; simp, fun j hj => by rw [f6.2.2.2 j, if_pos (by omega)]; rfl, kp3.put p6 (Nat.le_refl _)⟩, by rw [p6.2.2, bh3, hh0]; simp⟩, fun fs hl => c8.trans (X8.areturnOut hexec rfl hret rfl (hb hbytes d58) hl)⟩
end Cmp3
namespace CodL
def yN : MethodName := ⟨"java/lang/StringUTF16", "coderFromArrayLen", "([BI)B"⟩
abbrev yB : ByteArray := jdk_52_method_15_code
theorem d0 : decode yB 0 = .ok (.iload_n 1, 1) := by decide +kernel
theorem d1 : decode yB 1 = .ok (.aload_n 0, 1) := by decide +kernel
theorem d2 : decode yB 2 = .ok (.arraylength, 1) := by decide +kernel
theorem d3 : decode yB 3 = .ok (.isub, 1) := by decide +kernel
theorem d4 : decode yB 4 = .ok (.bipush 31, 2) := by decide +kernel
theorem d6 : decode yB 6 = .ok (.iushr, 1) := by decide +kernel
theorem d7 : decode yB 7 = .ok (.i2b, 1) := by decide +kernel
theorem d8 : decode yB 8 = .ok (.ireturn, 1) := by decide +kernel
def site : List Cond := []
def tab : Cond := tabOf yN yB 2 (some .byte) site
def P (d : Addr) (B : Cell) (args : Array Value) (s : State) : Prop := args = #[.ref d, .int (Int32.ofNat B.slots.size)] ∧ Arr .byte d B s
def E (r : Option Value) (s u : State) : Prop := XT.PureE (some (.int 0)) r s u
/-- an array as long as the number of chars: LATIN1 -/
theorem law (l : Launch) (d : Addr) (B : Cell) : Law l yN 2 2 0 0 yB 2 (some .byte) site (P d B) E [] 0 0 := by
  refine Law.of_walk (plainFor_of_name (by decide +kernel)) (by decide +kernel) (by decide +kernel) (by decide) (fun _ _ h => by rw [h.1]; rfl) (fun _ U U' hal hh h => ⟨h.1, h.2.mv hal hh⟩) (fun r U U' V V' h1 hal h2 h => XT.PureE.mv r U U' V V' h1 hal h2 h) ?_
  intro p e s m args below meth c s₁ X0 hexec hbytes hml hret hlk hnm hown hh0 W hP
  obtain ⟨rfl, hB⟩ := hP
  have hB0 := hB.mv X0.warmed.alike hh0
  have c1 : Steps p.tables e below (s₁.setTop (entryFrame m #[.ref d, .int (Int32.ofNat B.slots.size)] 2)) (s₁.setTop (mkF m 0 #[.val (.ref d), .val (.int (Int32.ofNat B.slots.size))] [])) := entry rfl
  have c2 : Steps p.tables e below (s₁.setTop (entryFrame m #[.ref d, .int (Int32.ofNat B.slots.size)] 2)) (s₁.setTop (mkF m 2 #[.val (.ref d), .val (.int (Int32.ofNat B.slots.size))] [.ref d, .int (Int32.ofNat B.slots.size)])) := c1.trans (by
    refine XS.iloadN X0.here hexec rfl (hb hbytes d0) rfl ?_
    refine XS.aloadN X0.here hexec rfl (hb hbytes d1) rfl rfl ?_
    exact Steps.refl _)
  have c3 : Steps p.tables e below (s₁.setTop (entryFrame m #[.ref d, .int (Int32.ofNat B.slots.size)] 2)) (s₁.setTop (mkF m 8 #[.val (.ref d), .val (.int (Int32.ofNat B.slots.size))] [.int (lo8 (ushr (Int32.ofNat B.slots.size - Int32.ofNat B.slots.size) 31))])) := c2.trans (by
    refine X0.alen hexec hB0 rfl rfl (hb hbytes d2) ?_
    refine XS.isub X0.here hexec rfl (hb hbytes d3) rfl ?_
    refine bipushV X0.here hexec rfl 31 (hb hbytes d4) (by decide) ?_
    refine iushr X0.here hexec rfl (hb hbytes d6) rfl ?_
    refine i2b X0.here hexec rfl (hb hbytes d7) rfl ?_
    exact Steps.refl _)
  have e0 : lo8 (ushr (Int32.ofNat B.slots.size - Int32.ofNat B.slots.size) 31) = 0 := by rw [Int32.sub_self]; decide
  rw [e0] at c3
  exact ⟨s₁, some (.int 0), _, _, _, X0, rfl, rfl, rfl, (fun h => by cases h), ⟨rfl, hh0⟩, fun fs hl => c3.trans (X0.ireturnOut hexec hret rfl (Or.inr (Or.inr (Or.inl rfl))) (hb hbytes d8) hl)⟩
end CodL
/-- the String at a is Latin-1 over a new byte[] (the heap's one new cell): the low bytes of the len chars of A from o on; every cell but a is kept -/
def Got (a : Addr) (D : Cell) (fV fC : Field) (A : Cell) (o len : Nat) (r : Option Value) (s u : State) : Prop := r = none ∧ ∃ D' V : Cell, Blank "java/lang/String" a D' u ∧ Same D D' [fV.slot, fC.slot] ∧ D'.slots[fV.slot]? = some (.ref s.heap.size) ∧ D'.slots[fC.slot]? = some (.int 0) ∧ Arr .byte s.heap.size V u ∧ V.vm = .none ∧ u.vm.findClass "[B" = some V.cls ∧ V.slots.size = len ∧ (∀ j, j < len → V.slots[j]? = some (.int (lo8 (cv A (o + j))))) ∧ (∀ (y : Addr) (c : Cell), y ≠ a → s.heap[y]? = some c → u.heap[y]? = some c) ∧ u.heap.size = s.heap.size + 1
theorem Got.mv {a : Addr} {D A : Cell} {fV fC : Field} {o len : Nat} : ∀ r (U U' V V' : State), U'.heap = U.heap → V.vm.Alike V'.vm → V'.heap = V.heap → Got a D fV fC A o len r U V → Got a D fV fC A o len r U' V' :=
  fun r U U' V V' h1 hal h2 ⟨e0, D', X, a1, a2, a3, a4, a5, a6, a7, a8, a9, a10, a11⟩ => ⟨e0, D', X, a1.mv hal h2, a2, by rw [h1]; exact a3, a4, by rw [h1]; exact a5.mv hal h2, a6, by rw [hal.findClass]; exact a7, a8, a9, by rw [h1, h2]; exact a10, by rw [h1, h2]; exact a11⟩
namespace New4
def yN : MethodName := ⟨"java/lang/String", "<init>", "([CIILjava/lang/Void;)V"⟩
abbrev yB : ByteArray := jdk_42_method_149_code
theorem d0 : decode yB 0 = .ok (.aload_n 0, 1) := by decide +kernel
theorem d1 : decode yB 1 = .ok (.invokespecial 1, 3) := by decide +kernel
theorem d4 : decode yB 4 = .ok (.iload_n 3, 1) := by decide +kernel
theorem d5 : decode yB 5 = .ok (.ifCond (.ne) 22, 3) := by decide +kernel
theorem d27 : decode yB 27 = .ok (.getstatic 38, 3) := by decide +kernel
theorem d30 : decode yB 30 = .ok (.ifCond (.eq) 28, 3) := by decide +kernel
theorem d33 : decode yB 33 = .ok (.aload_n 1, 1) := by decide +kernel
theorem d34 : decode yB 34 = .ok (.iload_n 2, 1) := by decide +kernel
theorem d35 : decode yB 35 = .ok (.iload_n 3, 1) := by decide +kernel
theorem d36 : decode yB 36 = .ok (.invokestatic 177, 3) := by decide +kernel
theorem d39 : decode yB 39 = .ok (.astore 5, 2) := by decide +kernel
theorem d41 : decode yB 41 = .ok (.aload_n 0, 1) := by decide +kernel
theorem d42 : decode yB 42 = .ok (.aload 5, 2) := by decide +kernel
theorem d44 : decode yB 44 = .ok (.iload_n 3, 1) := by decide +kernel
theorem d45 : decode yB 45 = .ok (.invokestatic 47, 3) := by decide +kernel
theorem d48 : decode yB 48 = .ok (.putfield 15, 3) := by decide +kernel
theorem d51 : decode yB 51 = .ok (.aload_n 0, 1) := by decide +kernel
theorem d52 : decode yB 52 = .ok (.aload 5, 2) := by decide +kernel
theorem d54 : decode yB 54 = .ok (.putfield 9, 3) := by decide +kernel
theorem d57 : decode yB 57 = .ok (.return_, 1) := by decide +kernel
def site : List Cond := [.fieldLink "java/lang/String" 38 "java/lang/String" "COMPACT_STRINGS" "Z", Cmp3.tab, CodL.tab, .laysFinal "java/lang/String" "java/lang/String" "value" "[B", .fieldLink "java/lang/String" 9 "java/lang/String" "value" "[B", .laysFinal "java/lang/String" "java/lang/String" "coder" "B", .fieldLink "java/lang/String" 15 "java/lang/String" "coder" "B"] ++ objW "java/lang/String" 1 ++ staticW "java/lang/String" 177 Cmp3.yN ++ staticW "java/lang/String" 47 CodL.yN
def tab : Cond := tabOf yN yB 6 none site
def P (a : Addr) (D : Cell) (fV fC : Field) (b : Addr) (A : Cell) (z : Int32) (o len : Nat) (args : Array Value) (s : State) : Prop := args = #[.ref a, .ref b, .int (Int32.ofNat o), .int (Int32.ofNat len), .null] ∧ Blank "java/lang/String" a D s ∧ Found "java/lang/String" "value" "[B" fV s ∧ Found "java/lang/String" "coder" "B" fC s ∧ Ch b A s ∧ StaticIs s "java/lang/String" "COMPACT_STRINGS" "Z" (.int z) ∧ ¬ z = 0 ∧ 0 < len ∧ o + len ≤ A.slots.size ∧ len ≤ 536870912 ∧ ∀ i, i < len → ¬ 255 < cv A (o + i)
def E (a : Addr) (D : Cell) (fV fC : Field) (A : Cell) (o len : Nat) (r : Option Value) (s u : State) : Prop := Got a D fV fC A o len r s u
/-- len > 0, no char of the range above 255: a Latin-1 String of their low bytes -/
theorem law (l : Launch) (a : Addr) (D : Cell) (fV fC : Field) (b : Addr) (A : Cell) (z : Int32) (o len : Nat) : Law l yN 5 4 2 35 yB 6 none site (P a D fV fC b A z o len) (E a D fV fC A o len) [⟨a, fC.slot⟩, ⟨a, fV.slot⟩] 1 len := by
  refine Law.of_walk (plainFor_of_name (by decide +kernel)) (by decide +kernel) (by decide +kernel) (by decide) (fun _ _ h => by rw [h.1]; rfl) (fun _ U U' hal hh h => ⟨h.1, h.2.1.mv hal hh, h.2.2.1.al hal, h.2.2.2.1.al hal, h.2.2.2.2.1.mv hal hh, h.2.2.2.2.2.1.there hal hh, h.2.2.2.2.2.2⟩) (fun r U U' V V' h1 hal h2 h => Got.mv r U U' V V' h1 hal h2 h) ?_
  intro p e s m args below meth c s₁ X0 hexec hbytes hml hret hlk hnm hown hh0 W hP
  obtain ⟨rfl, hB, f1, f2, hA, s1, hz, l0, l1, l2, hp⟩ := hP
  have a31 := hA.1.2.2.2
  have c1 : Steps p.tables e below (s₁.setTop (entryFrame m #[.ref a, .ref b, .int (Int32.ofNat o), .int (Int32.ofNat len), .null] 6)) (s₁.setTop (mkF m 0 #[.val (.ref a), .val (.ref b), .val (.int (Int32.ofNat o)), .val (.int (Int32.ofNat len)), .val .null, .unset] [])) := entry rfl
  have c2 : Steps p.tables e below (s₁.setTop (entryFrame m #[.ref a, .ref b, .int (Int32.ofNat o), .int (Int32.ofNat len), .null] 6)) (s₁.setTop (mkF m 1 #[.val (.ref a), .val (.ref b), .val (.int (Int32.ofNat o)), .val (.int (Int32.ofNat len)), .val .null, .unset] [.ref a])) := c1.trans (by
    refine XS.aloadN X0.here hexec rfl (hb hbytes d0) rfl rfl ?_
    exact Steps.refl _)
  obtain ⟨T3, X3, q3, st3⟩ := X0.oinit hexec hown (wks W (objW "java/lang/String" 1)) (g := (mkF m 1 #[.val (.ref a), .val (.ref b), .val (.int (Int32.ofNat o)), .val (.int (Int32.ofNat len)), .val .null, .unset] [.ref a])) rfl (by rw [hml]; rfl) (rest := []) rfl (hb hbytes d1) (W := 0) (by show 2 * 0 + 0 ≤ _; decide) (Nat.le_of_ble_eq_true rfl) (Nat.le_of_ble_eq_true rfl)
  have hh3 := q3.trans hh0
  have c4 : Steps p.tables e below (s₁.setTop (entryFrame m #[.ref a, .ref b, .int (Int32.ofNat o), .int (Int32.ofNat len), .null] 6)) (T3.setTop (mkF m 27 #[.val (.ref a), .val (.ref b), .val (.int (Int32.ofNat o)), .val (.int (Int32.ofNat len)), .val .null, .unset] [])) := (c2.trans (st3 _ (Steps.refl _))).trans (by
    refine XS.iloadN X3.here hexec rfl (hb hbytes d4) rfl ?_
    refine XS.ifYes X3.here hexec rfl (pc0 := 5) rfl (hb hbytes d5) rfl (i0_ne_t (nz32 (by omega) l0)) (by decide) rfl ?_
    exact Steps.refl _)
  obtain ⟨T5, X5, q5, st5⟩ := X3.sget hexec hown (wk W (.fieldLink "java/lang/String" 38 "java/lang/String" "COMPACT_STRINGS" "Z")) s1 (fun _ _ h => by rw [hh3]; exact h) (g := (mkF m 27 #[.val (.ref a), .val (.ref b), .val (.int (Int32.ofNat o)), .val (.int (Int32.ofNat len)), .val .null, .unset] [])) rfl (hb hbytes d27)
  have hh5 := q5.trans hh3
  have c6 : Steps p.tables e below (s₁.setTop (entryFrame m #[.ref a, .ref b, .int (Int32.ofNat o), .int (Int32.ofNat len), .null] 6)) (T5.setTop (mkF m 30 #[.val (.ref a), .val (.ref b), .val (.int (Int32.ofNat o)), .val (.int (Int32.ofNat len)), .val .null, .unset] [.int z])) := c4.trans (st5 _ (Steps.refl _))
  have c7 : Steps p.tables e below (s₁.setTop (entryFrame m #[.ref a, .ref b, .int (Int32.ofNat o), .int (Int32.ofNat len), .null] 6)) (T5.setTop (mkF m 36 #[.val (.ref a), .val (.ref b), .val (.int (Int32.ofNat o)), .val (.int (Int32.ofNat len)), .val .null, .unset] [.int (Int32.ofNat len), .int (Int32.ofNat o), .ref b])) := c6.trans (by
    refine XS.ifNo X5.here hexec rfl (hb hbytes d30) rfl (i0_eq_f hz) ?_
    refine XS.aloadN X5.here hexec rfl (hb hbytes d33) rfl rfl ?_
    refine XS.iloadN X5.here hexec rfl (hb hbytes d34) rfl ?_
    refine XS.iloadN X5.here hexec rfl (hb hbytes d35) rfl ?_
    exact Steps.refl _)
  obtain ⟨v8, T8, X8, E8, g8⟩ := X5.callS hexec (Cmp3.law l b A o len) hown (wks W (staticW "java/lang/String" 177 Cmp3.yN)) (wk W Cmp3.tab) (W := 0) (Nat.le_of_ble_eq_true rfl) (Nat.le_of_ble_eq_true rfl) (Nat.le_refl _) (by show 0 + len ≤ len; omega) (g := (mkF m 36 #[.val (.ref a), .val (.ref b), .val (.int (Int32.ofNat o)), .val (.int (Int32.ofNat len)), .val .null, .unset] [.int (Int32.ofNat len), .int (Int32.ofNat o), .ref b])) rfl (by rw [hml]; rfl) c7 (argsL := [.ref b, .int (Int32.ofNat o), .int (Int32.ofNat len)]) (rest := []) rfl rfl (by show 2 * 0 + 0 ≤ _; decide) (hb hbytes d36) (⟨rfl, hA.mv X5.warmed.alike hh5, l1, l2, hp⟩)
  obtain ⟨e8, z8⟩ := E8
  obtain ⟨rfl, N, n1, n2, n3, n4, n5, n6⟩ := NewArr.mv _ T5 s _ _ hh5.symm (Vm.Alike.refl _) rfl e8
  rw [hh5] at z8
  have hB1 := hB.keep X8.warmed.alike (n6 _ _ hB.1)
  have hne : s.heap.size ≠ a := (Nat.ne_of_lt (Array.getElem?_eq_some_iff.mp hB.1).1).symm
  have c9 : Steps p.tables e below (s₁.setTop (entryFrame m #[.ref a, .ref b, .int (Int32.ofNat o), .int (Int32.ofNat len), .null] 6)) (T8.setTop (mkF m 39 #[.val (.ref a), .val (.ref b), .val (.int (Int32.ofNat o)), .val (.int (Int32.ofNat len)), .val .null, .unset] [.ref s.heap.size])) := g8
  have c10 : Steps p.tables e below (s₁.setTop (entryFrame m #[.ref a, .ref b, .int (Int32.ofNat o), .int (Int32.ofNat len), .null] 6)) (T8.setTop (mkF m 45 #[.val (.ref a), .val (.ref b), .val (.int (Int32.ofNat o)), .val (.int (Int32.ofNat len)), .val .null, .val (.ref s.heap.size)] [.int (Int32.ofNat N.slots.size), .ref s.heap.size, .ref a])) := by
    have hc : Steps p.tables e below (s₁.setTop (entryFrame m #[.ref a, .ref b, .int (Int32.ofNat o), .int (Int32.ofNat len), .null] 6)) (T8.setTop (mkF m 45 #[.val (.ref a), .val (.ref b), .val (.int (Int32.ofNat o)), .val (.int (Int32.ofNat len)), .val .null, .val (.ref s.heap.size)] [.int (Int32.ofNat len), .ref s.heap.size, .ref a])) := c9.trans (by
      refine XS.astore X8.here hexec rfl (hb hbytes d39) rfl rfl rfl ?_
      refine XS.aloadN X8.here hexec rfl (hb hbytes d41) rfl rfl ?_
      refine XS.aload X8.here hexec rfl (hb hbytes d42) rfl rfl ?_
      refine XS.iloadN X8.here hexec rfl (hb hbytes d44) rfl ?_
      exact Steps.refl _)
    rw [n4]; exact hc
  obtain ⟨v11, T11, X11, E11, g11⟩ := X8.callS hexec (CodL.law l s.heap.size N) hown (wks W (staticW "java/lang/String" 47 CodL.yN)) (wk W CodL.tab) (W := 1) (Nat.le_of_ble_eq_true rfl) (Nat.le_of_ble_eq_true rfl) (Nat.le_refl _) (by show 0 + len + 0 ≤ len; omega) (g := (mkF m 45 #[.val (.ref a), .val (.ref b), .val (.int (Int32.ofNat o)), .val (.int (Int32.ofNat len)), .val .null, .val (.ref s.heap.size)] [.int (Int32.ofNat N.slots.size), .ref s.heap.size, .ref a])) rfl (by rw [hml]; rfl) c10 (argsL := [.ref s.heap.size, .int (Int32.ofNat N.slots.size)]) (rest := [.ref a]) rfl rfl (by show 2 * 0 + (1 + 0) ≤ _; decide) (hb hbytes d45) (⟨rfl, n1⟩)
  obtain ⟨rfl, q11⟩ := E11
  have hB11 := hB1.mv (X8.warmed.alike.symm.trans X11.warmed.alike) q11
  have c12 : Steps p.tables e below (s₁.setTop (entryFrame m #[.ref a, .ref b, .int (Int32.ofNat o), .int (Int32.ofNat len), .null] 6)) (T11.setTop (mkF m 48 #[.val (.ref a), .val (.ref b), .val (.int (Int32.ofNat o)), .val (.int (Int32.ofNat len)), .val .null, .val (.ref s.heap.size)] [.int 0, .ref a])) := g11
  obtain ⟨T13, X13, p13, bl13, sl13, st13⟩ := X11.finit hexec hown (wk W (.fieldLink "java/lang/String" 15 "java/lang/String" "coder" "B")) (Or.inr ⟨_, (wk W (.laysFinal "java/lang/String" "java/lang/String" "coder" "B"))⟩) (Or.inl ⟨rfl, hnm⟩) f2 (Or.inl rfl) hB11 (t := .byte) (by decide +kernel) rfl (g := (mkF m 48 #[.val (.ref a), .val (.ref b), .val (.int (Int32.ofNat o)), .val (.int (Int32.ofNat len)), .val .null, .val (.ref s.heap.size)] [.int 0, .ref a])) rfl (rest := []) rfl (hb hbytes d48)
  have c14 : Steps p.tables e below (s₁.setTop (entryFrame m #[.ref a, .ref b, .int (Int32.ofNat o), .int (Int32.ofNat len), .null] 6)) (T13.setTop (mkF m 54 #[.val (.ref a), .val (.ref b), .val (.int (Int32.ofNat o)), .val (.int (Int32.ofNat len)), .val .null, .val (.ref s.heap.size)] [.ref s.heap.size, .ref a])) := (c12.trans (st13 _ (Steps.refl _))).trans (by
    refine XS.aloadN X13.here hexec rfl (hb hbytes d51) rfl rfl ?_
    refine XS.aload X13.here hexec rfl (hb hbytes d52) rfl rfl ?_
    exact Steps.refl _)
  obtain ⟨T15, X15, p15, bl15, sl15, st15⟩ := X13.finit hexec hown (wk W (.fieldLink "java/lang/String" 9 "java/lang/String" "value" "[B")) (Or.inr ⟨_, (wk W (.laysFinal "java/lang/String" "java/lang/String" "value" "[B"))⟩) (Or.inl ⟨rfl, hnm⟩) f1 (Or.inl rfl) bl13 (t := (.array .byte)) (by decide +kernel) rfl (g := (mkF m 54 #[.val (.ref a), .val (.ref b), .val (.int (Int32.ofNat o)), .val (.int (Int32.ofNat len)), .val .null, .val (.ref s.heap.size)] [.ref s.heap.size, .ref a])) rfl (rest := []) rfl (hb hbytes d54)
  have c16 : Steps p.tables e below (s₁.setTop (entryFrame m #[.ref a, .ref b, .int (Int32.ofNat o), .int (Int32.ofNat len), .null] 6)) (T15.setTop (mkF m 57 #[.val (.ref a), .val (.ref b), .val (.int (Int32.ofNat o)), .val (.int (Int32.ofNat len)), .val .null, .val (.ref s.heap.size)] [])) := c14.trans (st15 _ (Steps.refl _))
  have ap := apart (Or.inr ⟨_, (wk W (.laysFinal "java/lang/String" "java/lang/String" "value" "[B"))⟩) (Or.inr ⟨_, (wk W (.laysFinal "java/lang/String" "java/lang/String" "coder" "B"))⟩) f1 f2 (t₁ := .array .byte) (t₂ := .byte) (by decide +kernel) (by decide +kernel) (by decide)
  have al := X8.warmed.alike.symm.trans X15.warmed.alike
  have n7 : T11.heap[s.heap.size]? = some N := by rw [q11]; exact n1.1
  exact ⟨T15, none, _, _, _, X15, by simp, rfl, by omega, (fun _ => rfl), ⟨rfl, _, N, bl15, ((Same.refl D _).set _ (by simp)).set _ (by simp), sl15, (Cell.slots_setSlot_ne _ ap).trans sl13, n1.keep al (p15.other hne (p13.other hne n7)), n2, by rw [al.findClass]; exact n3, n4, n5, fun y c h1 h2 => p15.other h1 (p13.other h1 (by rw [q11]; exact n6 y c h2)), by rw [p15.2.2, p13.2.2, q11]; exact z8⟩, fun fs hl => c16.trans (X15.returnOut hexec hret (hb hbytes d57) hl)⟩
end New4
namespace New1
def yN : MethodName := ⟨"java/lang/String", "<init>", "([C)V"⟩
abbrev yB : ByteArray := jdk_42_method_3_code
theorem d0 : decode yB 0 = .ok (.aload_n 0, 1) := by decide +kernel
theorem d1 : decode yB 1 = .ok (.aload_n 1, 1) := by decide +kernel
theorem d2 : decode yB 2 = .ok (.iconst 0, 1) := by decide +kernel
theorem d3 : decode yB 3 = .ok (.aload_n 1, 1) := by decide +kernel
theorem d4 : decode yB 4 = .ok (.arraylength, 1) := by decide +kernel
theorem d5 : decode yB 5 = .ok (.aconst_null, 1) := by decide +kernel
theorem d6 : decode yB 6 = .ok (.invokespecial 27, 3) := by decide +kernel
theorem d9 : decode yB 9 = .ok (.return_, 1) := by decide +kernel
def site : List Cond := [New4.tab] ++ initW "java/lang/String" 27 New4.yN
def tab : Cond := tabOf yN yB 2 none site
def P (a : Addr) (D : Cell) (fV fC : Field) (b : Addr) (A : Cell) (z : Int32) (args : Array Value) (s : State) : Prop := args = #[.ref a, .ref b] ∧ Blank "java/lang/String" a D s ∧ Found "java/lang/String" "value" "[B" fV s ∧ Found "java/lang/String" "coder" "B" fC s ∧ Ch b A s ∧ StaticIs s "java/lang/String" "COMPACT_STRINGS" "Z" (.int z) ∧ ¬ z = 0 ∧ 0 < A.slots.size ∧ A.slots.size ≤ 536870912 ∧ ∀ i, i < A.slots.size → ¬ 255 < cv A i
def E (a : Addr) (D : Cell) (fV fC : Field) (A : Cell) (r : Option Value) (s u : State) : Prop := Got a D fV fC A 0 A.slots.size r s u
/-- new String(chars), not empty, no char above 255: a Latin-1 String of their low bytes -/
theorem law (l : Launch) (a : Addr) (D : Cell) (fV fC : Field) (b : Addr) (A : Cell) (z : Int32) : Law l yN 2 1 3 52 yB 2 none site (P a D fV fC b A z) (E a D fV fC A) [⟨a, fC.slot⟩, ⟨a, fV.slot⟩] 1 A.slots.size := by
  refine Law.of_walk (plainFor_of_name (by decide +kernel)) (by decide +kernel) (by decide +kernel) (by decide) (fun _ _ h => by rw [h.1]; rfl) (fun _ U U' hal hh h => ⟨h.1, h.2.1.mv hal hh, h.2.2.1.al hal, h.2.2.2.1.al hal, h.2.2.2.2.1.mv hal hh, h.2.2.2.2.2.1.there hal hh, h.2.2.2.2.2.2⟩) (fun r U U' V V' h1 hal h2 h => Got.mv r U U' V V' h1 hal h2 h) ?_
  intro p e s m args below meth c s₁ X0 hexec hbytes hml hret hlk hnm hown hh0 W hP
  obtain ⟨rfl, hB, f1, f2, hA, s1, hz, l0, l2, hp⟩ := hP
  have c1 : Steps p.tables e below (s₁.setTop (entryFrame m #[.ref a, .ref b] 2)) (s₁.setTop (mkF m 0 #[.val (.ref a), .val (.ref b)] [])) := entry rfl
  have c2 : Steps p.tables e below (s₁.setTop (entryFrame m #[.ref a, .ref b] 2)) (s₁.setTop (mkF m 6 #[.val (.ref a), .val (.ref b)] [.null, .int (Int32.ofNat A.slots.size), .int 0, .ref b, .ref a])) := c1.trans (by
    refine XS.aloadN X0.here hexec rfl (hb hbytes d0) rfl rfl ?_
    refine XS.aloadN X0.here hexec rfl (hb hbytes d1) rfl rfl ?_
    refine iconstV X0.here hexec rfl 0 (hb hbytes d2) (by decide) ?_
    refine XS.aloadN X0.here hexec rfl (hb hbytes d3) rfl rfl ?_
    refine X0.alen hexec (hA.1.mv X0.warmed.alike hh0) rfl rfl (hb hbytes d4) ?_
    refine XS.aconstNull X0.here hexec rfl (hb hbytes d5) ?_
    exact Steps.refl _)
  obtain ⟨v3, T3, X3, E3, g3⟩ := X0.callN hexec (New4.law l a D fV fC b A z 0 A.slots.size) rfl hown (wks W (initW "java/lang/String" 27 New4.yN)) (W New4.tab (by simp only [site, List.mem_cons, List.mem_append, true_or, or_true])) (W := 0) (Nat.le_of_ble_eq_true rfl) (Nat.le_of_ble_eq_true rfl) (Nat.le_refl _) (by show 0 + A.slots.size ≤ A.slots.size; omega) (g := (mkF m 6 #[.val (.ref a), .val (.ref b)] [.null, .int (Int32.ofNat A.slots.size), .int (Int32.ofNat 0), .ref b, .ref a])) rfl (by rw [hml]; rfl) c2 (argsL := [.ref b, .int (Int32.ofNat 0), .int (Int32.ofNat A.slots.size), .null]) (rest := []) rfl rfl (by show 2 * 0 + 0 ≤ _; decide) (hb hbytes d6) (⟨rfl, hB.mv X0.warmed.alike hh0, f1.al X0.warmed.alike, f2.al X0.warmed.alike, hA.mv X0.warmed.alike hh0, s1.there X0.warmed.alike hh0, hz, l0, by omega, l2, fun i hi => by rw [Nat.zero_add]; exact hp i hi⟩)
  have e0 := Got.mv _ s₁ s _ _ hh0.symm (Vm.Alike.refl _) rfl E3
  obtain rfl := e0.1
  have c4 : Steps p.tables e below (s₁.setTop (entryFrame m #[.ref a, .ref b] 2)) (T3.setTop (mkF m 9 #[.val (.ref a), .val (.ref b)] [])) := g3
  exact ⟨T3, none, _, _, _, X3, by simp, rfl, by omega, (fun _ => rfl), e0, fun fs hl => c4.trans (X3.returnOut hexec hret (hb hbytes d9) hl)⟩
theorem pays {l : Launch} {R : Room} {p : Program} {e : Env} {below : List Frame} {s : State} {sargs : Array Value} {len W : Nat} (a : Addr) (D : Cell) (fV fC : Field) (b : Addr) (A : Cell) (z : Int32) (htab : tab.before sargs s = true) (hfr : 4 ≤ R.frames) (hlo : W + 65 ≤ R.locals) :
    Back l R p e below s sargs yN len W (fun A₁ a₁ => A₁.cells + 1 ≤ R.cells ∧ A₁.slots + A.slots.size ≤ R.slots ∧ P a D fV fC b A z a₁ A₁.U) (fun A₁ _ v₁ B₁ => E a D fV fC A v₁ A₁.U B₁.U ∧ B₁.locs = A₁.locs ++ [⟨a, fC.slot⟩, ⟨a, fV.slot⟩] ∧ B₁.cells = A₁.cells + 1 ∧ B₁.slots = A₁.slots + A.slots.size) :=
  (law l a D fV fC b A z).pays htab hfr (by omega)
end New1
end StrChars
namespace StrChars.Road
open Jvm Sem ClassFile Op Lib Jvm.Stand Jvm.Free Jvm.Free.XT
open Jvm.Lib.Cold (StaticIs)
abbrev ST : String := "java/lang/String"
/-- every table word that New1's law asks, flat -/
abbrev words : List Jvm.Cond := [.code New1.yN New1.yB 2 none, .initialized ST, .methodLink ST 27 New4.yN, .instanceMethod New4.yN,
  .code New4.yN New4.yB 6 none, .fieldLink ST 38 ST "COMPACT_STRINGS" "Z", .laysFinal ST ST "value" "[B", .fieldLink ST 9 ST "value" "[B", .laysFinal ST ST "coder" "B", .fieldLink ST 15 ST "coder" "B",
  .methodLink ST 1 Lib.objectInit, .instanceMethod Lib.objectInit, .code Lib.objectInit ⟨#[0xb1]⟩ 1 none, .methodLink ST 177 Cmp3.yN, .static Cmp3.yN, .methodLink ST 47 CodL.yN, .static CodL.yN,
  .code Cmp3.yN Cmp3.yB 6 (some (.array .byte)), .initialized U16, .arrayClass .byte, .methodLink U16 115 Cmp5.yN, .static Cmp5.yN, .code Cmp5.yN Cmp5.yB 7 (some .int), .code CodL.yN CodL.yB 2 (some .byte)]
theorem tab_of {a : Array Value} {s : State} (h : ∀ w ∈ words, w.before a s = true) : New1.tab.before a s = true := by
  have h5 : Cmp5.tab.before a s = true := unparts (wk h (.code Cmp5.yN Cmp5.yB 7 (some .int))) (wks h (.initialized Cmp5.yN.cls :: Cmp5.site))
  have hc : CodL.tab.before a s = true := unparts (wk h (.code CodL.yN CodL.yB 2 (some .byte))) (wks h (.initialized CodL.yN.cls :: CodL.site))
  have q5 : ∀ w ∈ Cmp5.tab :: words, w.before a s = true := fun w hw => (List.mem_cons.mp hw).elim (fun e => e ▸ h5) (h w)
  have h3 : Cmp3.tab.before a s = true := unparts (wk q5 (.code Cmp3.yN Cmp3.yB 6 (some (.array .byte)))) (wks q5 (.initialized Cmp3.yN.cls :: Cmp3.site))
  have q3 : ∀ w ∈ Cmp3.tab :: CodL.tab :: words, w.before a s = true := fun w hw => (List.mem_cons.mp hw).elim (fun e => e ▸ h3) fun hw => (List.mem_cons.mp hw).elim (fun e => e ▸ hc) (h w)
  have h4 : New4.tab.before a s = true := unparts (wk q3 (.code New4.yN New4.yB 6 none)) (wks q3 (.initialized New4.yN.cls :: New4.site))
  have q4 : ∀ w ∈ New4.tab :: words, w.before a s = true := fun w hw => (List.mem_cons.mp hw).elim (fun e => e ▸ h4) (h w)
  exact unparts (wk q4 (.code New1.yN New1.yB 2 none)) (wks q4 (.initialized New1.yN.cls :: New1.site))
/-- the words ride from the start Z to the walk's own state -/
theorem moved {Z s : State} {a0 args : Array Value} (hZ : Z.Warmed39 s.vm) (hw : ∀ d ∈ words, d.before a0 Z = true) : ∀ d ∈ words, d.before args s = true := fun d hd => by
  have q := hw d hd
  have t : ∀ d ∈ words, d = .arrayClass .byte ∨ (d.onTables && d.keepsFace) = true := by decide +kernel
  rcases t d hd with rfl | t
  · exact RoadKit.mvA hZ q
  · exact RoadKit.mv hZ q t
/-- WHAT COMES BACK, over the tables of the start Z: h the heap at the call, h' behind it -/
def Q (Z : State) (x : Addr) (A : Cell) (h : Heap) (v : Option Value) (h' : Heap) (L : List Loc) : Prop := v = none ∧ (∀ y ∈ L, y.base = x) ∧ RoadKit.Keep h h' [x] ∧ h'.size = h.size + 1 ∧ RoadKit.Exa Z h' x ST ∧ RoadKit.Fld Z h' x ST "value" "[B" (.ref h.size) ∧ RoadKit.Fld Z h' x ST "coder" "B" (.int 0) ∧
  (∃ V : Cell, RoadKit.Arr Z h' h.size V .byte ∧ V.vm = .none ∧ Z.vm.findClass "[B" = some V.cls ∧ V.slots.size = A.slots.size ∧ ∀ j, j < A.slots.size → V.slots[j]? = some (.int (lo8 (cv A j)))) ∧
  ∀ (O n d : String) (w : Value), RoadKit.Fld Z h x O n d w → RoadKit.slotOf Z O n d ≠ RoadKit.slotOf Z ST "value" "[B" → RoadKit.slotOf Z O n d ≠ RoadKit.slotOf Z ST "coder" "B" → RoadKit.Fld Z h' x O n d w
/-- **new String(chars) AT A CALL, IN THE ROAD'S FORM**: for specialBack behind newO: x the fresh String, b the char[] with the cell A -/
theorem back {p : Program} {l : Launch} {e : Env} {R : Room} {s : State} {args : Array Value} {below : List Frame} {len W : Nat} {Z : State} {a0 : Array Value} {h : Heap} (hZ : Z.Warmed39 s.vm) (hw : ∀ d ∈ words, d.before a0 Z = true) {kI : Nat} (wi : (Jvm.Cond.instantiable ST kI).before a0 Z = true)
    {x b : Addr} {A : Cell} {z : Int32} {v0 c0 : Value} (E : RoadKit.Exa Z h x ST) (V : RoadKit.Fld Z h x ST "value" "[B" v0) (C : RoadKit.Fld Z h x ST "coder" "B" c0) (K : RoadKit.Arr Z h b A .char) (hty : Typed .char A) (S : RoadKit.Sta Z h ST "COMPACT_STRINGS" "Z" (.int z)) (hz : ¬ z = 0)
    (l0 : 0 < A.slots.size) (l2 : A.slots.size ≤ 536870912) (hp : ∀ i, i < A.slots.size → ¬ 255 < cv A i) (hfr : 4 ≤ R.frames) (hlo : W + 65 ≤ R.locals) :
    Back l R p e below s args New1.yN len W (fun P a => a = #[.ref x, .ref b] ∧ P.U.heap = h ∧ P.cells + 1 ≤ R.cells ∧ P.slots + A.slots.size ≤ R.slots)
      (fun P _ v B => ∃ L, Q Z x A h v B.U.heap L ∧ B.locs = P.locs ++ L ∧ B.cells = P.cells + 1 ∧ B.slots = P.slots + A.slots.size) := by
  intro m meth c P g ig mk a X hg hsize hdg hW hn hp'
  obtain ⟨rfl, rfl, r1, r2⟩ := hp'
  have al : Z.vm.Alike P.U.vm := hZ.alike.trans X.warmed.alike
  obtain ⟨D, cfV, kV, iV, fV, hD, gV, stV, knV, obV, asV, slV⟩ := id V
  obtain ⟨D', cfC, kC, iC, fC, hD', gC, stC, -, -, asC, slC⟩ := id C
  cases hD.symm.trans hD'
  obtain ⟨D2, kD, e1, e2, e3, e4, e5⟩ := id E
  cases hD.symm.trans e1
  obtain ⟨c2, k2, i1, i2, i3, -⟩ := Cond.instantiable_spec wi
  cases e2.symm.trans i1
  cases e3.symm.trans i2
  obtain ⟨kU, u1, u2⟩ := al.2.2 _ _ e3
  have hB : Blank ST x D P.U := ⟨hD, ⟨knV, fun q hq => by rw [hq] at obV; cases obV⟩, by rw [al.findClass]; exact e2, kU, u1, by rw [u2]; exact i3, by rw [u2]; exact e5 i3⟩
  have F1 : Found ST "value" "[B" fV P.U := ⟨SBG.found_only al ⟨cfV, kV, iV, gV⟩, stV⟩
  have F2 : Found ST "coder" "B" fC P.U := ⟨SBG.found_only al ⟨cfC, kC, iC, gC⟩, stC⟩
  have hA : Ch b A P.U := ⟨⟨K.1, State.isArrayOf_alike al K.2.1, K.2.2, by omega⟩, hty⟩
  have hS : StaticIs P.U ST "COMPACT_STRINGS" "Z" (.int z) := by
    obtain ⟨cfS, iS, kS, fS, st, cS, t1, t2, t3, t4, t5, t6, t7⟩ := S
    exact StaticIs.there (s := { Z with heap := P.U.heap }) ⟨cfS, iS, kS, fS, st, cS, t1, t2, t3, t4, t5, (fun q => by rw [q] at t6; cases t6), t7⟩ al rfl
  obtain ⟨v, B, X', ⟨⟨hv, E', V', q1, q2, q3, q4, q5, q6, q7, q8, q9, q10, q11⟩, hl, hc, hs⟩, st⟩ := New1.pays x D fV fC b A z (tab_of (moved hZ hw)) hfr hlo m meth c P g ig mk _ X hg hsize hdg hW hn ⟨r1, r2, rfl, hB, F1, F2, hA, hS, hz, l0, l2, hp⟩
  have al' : Z.vm.Alike B.U.vm := hZ.alike.trans X'.warmed.alike
  have hsz : E'.slots.size = D.slots.size := by
    obtain ⟨-, -, -, kB, w1, w2, w3⟩ := q1
    obtain ⟨kB', y1, y2⟩ := al'.2.2 _ _ e3
    rw [q2.2.1] at w1
    cases w1.symm.trans y1
    rw [w3, e5 i3, y2]
  refine ⟨v, B, X', ⟨_, ⟨hv, ?_, ⟨by omega, fun y cy hy hn' => q10 y cy (by simpa using hn') hy, fun y cy hy => ?_⟩, q11, ⟨E', _, q1.1, by rw [q2.2.1]; exact e2, by rw [q2.2.1]; exact e3, by rw [q2.1]; exact obV, fun _ => by rw [hsz]; exact e5 i3⟩,
    ⟨E', cfV, kV, iV, fV, q1.1, gV, stV, by rw [q2.1]; exact knV, by rw [q2.1]; exact obV, by rw [q2.2.1]; exact asV, q3⟩, ⟨E', cfC, kC, iC, fC, q1.1, gC, stC, by rw [q2.1]; exact knV, by rw [q2.1]; exact obV, by rw [q2.2.1]; exact asC, q4⟩,
    ⟨V', ⟨q5.1, State.isArrayOf_alike al'.symm q5.2.1, q5.2.2.1⟩, q6, by rw [← al'.findClass]; exact q7, q8, fun j hj => by have := q9 j hj; rwa [Nat.zero_add] at this⟩, fun O n d w F n1 n2 => ?_⟩, hl, hc, hs⟩, st⟩
  · intro y hy
    simp only [List.mem_cons, List.not_mem_nil, or_false] at hy
    rcases hy with rfl | rfl <;> rfl
  · by_cases q : y = x
    · subst q
      cases hD.symm.trans hy
      exact ⟨E', q1.1, q2.2.1, q2.1, hsz⟩
    · exact ⟨cy, q10 y cy q hy, rfl, rfl, rfl⟩
  · obtain ⟨D3, cf, k, i, f, g1, g2, g3, g4, g5, g6, g7⟩ := F
    cases hD.symm.trans g1
    simp only [RoadKit.slotOf, g2, gV, gC, Option.map_some, Option.getD_some] at n1 n2
    exact ⟨E', cf, k, i, f, q1.1, g2, g3, by rw [q2.1]; exact g4, by rw [q2.1]; exact g5, by rw [q2.2.1]; exact g6, by rw [q2.2.2 f.slot (by simp [n1, n2])]; exact g7⟩
end StrChars.Road
namespace StrChars.Road
open Jvm Sem ClassFile Op Lib Jvm.Stand Jvm.Free Jvm.Free.XT
/-- WHAT COMES BACK, the byte[] as a list of values -/
def QA (Z : State) (x : Addr) (zn : Int32) (cs : List Int32) (h : Heap) (v : Option Value) (h' : Heap) (L : List Loc) : Prop := v = none ∧ (∀ y ∈ L, y.base = x) ∧ RoadKit.Keep h h' [x] ∧ h'.size = h.size + 1 ∧ RoadKit.Exa Z h' x ST ∧ RoadKit.Fld Z h' x ST "value" "[B" (.ref h.size) ∧ RoadKit.Fld Z h' x ST "coder" "B" (.int 0) ∧
  (∃ kb, Z.vm.findClass "[B" = some kb ∧ RoadKit.Arv Z h' h.size kb .byte zn (cs.map fun c => .int (lo8 c)) (.int 0)) ∧
  ∀ (O n d : String) (w : Value), RoadKit.Fld Z h x O n d w → RoadKit.slotOf Z O n d ≠ RoadKit.slotOf Z ST "value" "[B" → RoadKit.slotOf Z O n d ≠ RoadKit.slotOf Z ST "coder" "B" → RoadKit.Fld Z h' x O n d w
/-- **new String(chars) AT A CALL, THE ARRAYS AS LISTS**: the char[] at b holds cs, not empty, no char above 255 -/
theorem backArv {p : Program} {l : Launch} {e : Env} {R : Room} {s : State} {args : Array Value} {below : List Frame} {len W : Nat} {Z : State} {a0 : Array Value} {h : Heap} (hZ : Z.Warmed39 s.vm) (hw : ∀ d ∈ words, d.before a0 Z = true) {kI : Nat} (wi : (Jvm.Cond.instantiable ST kI).before a0 Z = true)
    {x b : Addr} {k : ClassId} {zn z : Int32} {cs : List Int32} {dv v0 c0 : Value} (E : RoadKit.Exa Z h x ST) (V : RoadKit.Fld Z h x ST "value" "[B" v0) (C : RoadKit.Fld Z h x ST "coder" "B" c0) (K : RoadKit.Arv Z h b k .char zn (cs.map Value.int) dv) (S : RoadKit.Sta Z h ST "COMPACT_STRINGS" "Z" (.int z)) (hz : ¬ z = 0)
    (hlen : zn.toNatClampNeg = cs.length) (h0 : 0 < cs.length) (hbig : cs.length ≤ 536870912) (hall : ∀ c ∈ cs, ¬ 255 < c) (hfr : 4 ≤ R.frames) (hlo : W + 65 ≤ R.locals) :
    Back l R p e below s args New1.yN len W (fun P a => a = #[.ref x, .ref b] ∧ P.U.heap = h ∧ P.cells + 1 ≤ R.cells ∧ P.slots + cs.length ≤ R.slots)
      (fun P _ v B => ∃ L, QA Z x zn cs h v B.U.heap L ∧ B.locs = P.locs ++ L ∧ B.cells = P.cells + 1 ∧ B.slots = P.slots + cs.length) := by
  obtain ⟨A, K1, K2, K3, K4, K5, K6⟩ := K
  have e : A.slots.size = cs.length := K3.trans hlen
  have hat : ∀ (i : Nat) (hi : i < cs.length), A.slots[i]? = some (.int cs[i]) := fun i hi => by rw [K5 i (by omega)]; simp [List.getD_eq_getElem?_getD, hi]
  have hcv : ∀ (i : Nat) (hi : i < cs.length), cv A i = cs[i] := fun i hi => by unfold cv; rw [hat i hi]
  have hty : Typed .char A := fun i v hv => by
    have hi : i < A.slots.size := (Array.getElem?_eq_some_iff.mp hv).1
    have q := K5 i hi
    rw [hv] at q
    rw [Option.some.inj q]
    exact K6 i hi
  refine Back.mono (back hZ hw wi E V C K1 hty S hz (by omega) (by omega) (fun i hi => by rw [hcv i (by omega)]; exact hall _ (List.getElem_mem _)) hfr hlo) (fun P a hp => ⟨hp.1, hp.2.1, hp.2.2.1, by rw [e]; exact hp.2.2.2⟩) (fun P a v B hp hq => ?_)
  obtain ⟨L, ⟨q1, q2, q3, q4, q5, q6, q7, ⟨V', v1, v2, v3, v4, v5⟩, q9⟩, hl, hc, hs⟩ := hq
  refine ⟨L, ⟨q1, q2, q3, q4, q5, q6, q7, ⟨V'.cls, v3, V', v1, rfl, by rw [v4, e, hlen], K4, fun i hi => ?_, fun i hi => ?_⟩, q9⟩, hl, hc, by rw [hs, e]⟩
  · have hi' : i < cs.length := by omega
    rw [v5 i (by omega), hcv i hi']; simp [List.getD_eq_getElem?_getD, hi']
  · have hi' : i < cs.length := by omega
    simp only [List.getD_eq_getElem?_getD, List.getElem?_map, List.getElem?_eq_getElem hi', Option.map_some, Option.getD_some]
    exact fits_lo8 _
end StrChars.Road
namespace StrChars.Road
open Jvm Sem ClassFile Op Lib Jvm.Stand Jvm.Free Jvm.Free.XT
/-- WHAT COMES BACK, in the writer's own shape -/
def QV (Z : State) (x : Addr) (N : Int32) (bs : List Int32) (h : Heap) (n0 : Nat) (v : Option Value) (h' : Heap) (L : List Loc) : Prop := v = none ∧ RoadKit.Fr n0 L ∧ RoadKit.Keep h h' [x] ∧ RoadKit.Exa Z h' x ST ∧ RoadKit.Fld Z h' x ST "coder" "B" (.int 0) ∧
  ∃ (t : Addr) (kb : ClassId), n0 ≤ t ∧ h.size ≤ t ∧ ¬ t = x ∧ RoadKit.Fld Z h' x ST "value" "[B" (.ref t) ∧ RoadKit.Arv Z h' t kb .byte N (bs.map Value.int) (.int 0)
/-- **new String(chars) AT A CALL, FOR THE WRITER**: a char[] of n known ints, each 0 to 255 -/
theorem backV {p : Program} {l : Launch} {e : Env} {R : Room} {s : State} {args : Array Value} {below : List Frame} {len W : Nat} {Z : State} {a0 : Array Value} {h : Heap} (hZ : Z.Warmed39 s.vm) (hw : ∀ d ∈ words, d.before a0 Z = true) {kI : Nat} (wi : (Jvm.Cond.instantiable ST kI).before a0 Z = true)
    {x b : Addr} {kC : ClassId} {cs bs : List Int32} {d v0 c0 : Value} {z N : Int32} {n n0 : Nat} (hx0 : n0 ≤ x) (hh0 : n0 ≤ h.size) (E : RoadKit.Exa Z h x ST) (V : RoadKit.Fld Z h x ST "value" "[B" v0) (C : RoadKit.Fld Z h x ST "coder" "B" c0) (K : RoadKit.Arv Z h b kC .char N (cs.map Value.int) d) (S : RoadKit.Sta Z h ST "COMPACT_STRINGS" "Z" (.int z)) (hz : ¬ z = 0)
    (hn : cs.length = n) (hN : N = Int32.ofNat n) (l0 : 0 < n) (l2 : n ≤ 4000) (hp : ∀ c ∈ cs, ¬ c < 0 ∧ ¬ (255 : Int32) < c) (hb : bs = cs.map (fun c => c.toInt8.toInt32)) (hfr : 4 ≤ R.frames) (hlo : W + 65 ≤ R.locals) :
    Back l R p e below s args (⟨"java/lang/String", "<init>", "([C)V"⟩ : MethodName) len W (fun P a => a = #[.ref x, .ref b] ∧ P.U.heap = h ∧ P.cells + 1 ≤ R.cells ∧ P.slots + n ≤ R.slots)
      (fun P _ v B => ∃ L, QV Z x N bs h n0 v B.U.heap L ∧ B.locs = P.locs ++ L ∧ B.cells = P.cells + 1 ∧ B.slots = P.slots + n) := by
  subst hn hN hb
  refine Back.mono (backArv hZ hw wi E V C K S hz (n32 (by omega)) l0 (by omega) (fun c hc => (hp c hc).2) hfr hlo) (fun P a hp => hp) (fun P a v B hp hq => ?_)
  obtain ⟨L, ⟨q1, q2, q3, q4, q5, q6, q7, ⟨kb, v1, v2⟩, q9⟩, hl, hc, hs⟩ := hq
  exact ⟨L, ⟨q1, fun y hy => by rw [q2 y hy]; exact hx0, q3, q5, q7, h.size, kb, hh0, Nat.le_refl _, Nat.ne_of_gt E.lt, q6, by rw [List.map_map]; exact v2⟩, hl, hc, hs⟩
end StrChars.Road
end Jvm.Pilot.@@N@@
namespace Jvm.Pilot.@@N@@
open Jvm Jvm.ClassFile Sem Op Lib Jvm.Free Jvm.Stand Jvm.LawKit Jvm.RoadKit Bundle Jvm.Pilot.@@N@@.Jvm.D
theorem own_wS {Z : State} {a0 : Array Value} (hw : ∀ d ∈ tables_1, d.before a0 Z = true) : ∀ a ∈ Bundle.stringAtoms, a.before a0 Z = true := fun a ha => by
  simp only [Bundle.stringAtoms, List.mem_cons, List.not_mem_nil, or_false] at ha
  rcases ha with rfl | rfl | rfl | rfl | rfl | rfl | rfl
  · exact (hw _ (List.mem_of_getElem? (i := 16) rfl))
  · exact (hw _ (List.mem_of_getElem? (i := 17) rfl))
  · exact (hw _ (List.mem_of_getElem? (i := 18) rfl))
  · exact (hw _ (List.mem_of_getElem? (i := 19) rfl))
  · exact (hw _ (List.mem_of_getElem? (i := 20) rfl))
  · exact (hw _ (List.mem_of_getElem? (i := 21) rfl))
  · exact (hw _ (List.mem_of_getElem? (i := 22) rfl))
theorem own_ch (x : Int32) : ¬ nar .char ((x &&& (255 : Int32)).toUInt32.toUInt16.toUInt32.toInt32) < 0 ∧ ¬ (255 : Int32) < nar .char ((x &&& (255 : Int32)).toUInt32.toUInt16.toUInt32.toInt32) := by
  have e : nar .char ((x &&& (255 : Int32)).toUInt32.toUInt16.toUInt32.toInt32) = x &&& 255 := by show ((x &&& (255 : Int32)).toUInt32.toUInt16.toUInt32.toInt32).toUInt32.toUInt16.toUInt32.toInt32 = _; rw [i2c_mask, i2c_mask]
  rw [e, Int32.lt_iff_toInt_lt, Int32.lt_iff_toInt_lt]
  have q := c_and x 255 (by decide)
  have z0 : (0 : Int32).toInt = 0 := rfl
  have z1 : (255 : Int32).toInt = 255 := by decide
  omega
theorem own_pd0 : parseMethodDescriptor "()V" = some ⟨[], none⟩ := by decide +kernel
theorem own_pd1 : parseMethodDescriptor "(Ljava/lang/Object;Ljava/lang/String;)Ljava/lang/Object;" = some ⟨[(.object "java/lang/Object"), (.object "java/lang/String")], some (.object "java/lang/Object")⟩ := by decide +kernel
theorem own_pd2 : parseMethodDescriptor "(I)Lspinecode/identifier/Kind;" = some ⟨[.int], some (.object "spinecode/identifier/Kind")⟩ := by decide +kernel
theorem own_pd3 : parseMethodDescriptor "(I)Lspinecode/identifier/Reason;" = some ⟨[.int], some (.object "spinecode/identifier/Reason")⟩ := by decide +kernel
theorem own_pd4 : parseMethodDescriptor "([C)V" = some ⟨[(.array .char)], none⟩ := by decide +kernel
theorem own_pd5 : parseMethodDescriptor "(Lspinecode/identifier/Kind;Ljava/lang/String;Lspinecode/identifier/Reason;)V" = some ⟨[(.object "spinecode/identifier/Kind"), (.object "java/lang/String"), (.object "spinecode/identifier/Reason")], none⟩ := by decide +kernel
theorem own_pd6 : parseMethodDescriptor "()Z" = some ⟨[], some .boolean⟩ := by decide +kernel
def QR (h0 : Heap) (n0 : Nat) (v : Option Value) (h : Heap) (L : List Loc) : Prop := ∃ r : Addr, v = some (.ref r) ∧ Fr n0 L ∧ h = h0
theorem d1_0 : decode method_2_code 0 = .ok (.iload_n 0, 1) := by decide +kernel
theorem d1_1 : decode method_2_code 1 = .ok (.ifCond .ne 7, 3) := by decide +kernel
theorem d1_4 : decode method_2_code 4 = .ok (.getstatic 7, 3) := by decide +kernel
theorem d1_7 : decode method_2_code 7 = .ok (.areturn, 1) := by decide +kernel
theorem d1_8 : decode method_2_code 8 = .ok (.iload_n 0, 1) := by decide +kernel
theorem d1_9 : decode method_2_code 9 = .ok (.iconst 1, 1) := by decide +kernel
theorem d1_10 : decode method_2_code 10 = .ok (.if_icmp .ne 7, 3) := by decide +kernel
theorem d1_13 : decode method_2_code 13 = .ok (.getstatic 13, 3) := by decide +kernel
theorem d1_16 : decode method_2_code 16 = .ok (.areturn, 1) := by decide +kernel
theorem d1_17 : decode method_2_code 17 = .ok (.iload_n 0, 1) := by decide +kernel
theorem d1_18 : decode method_2_code 18 = .ok (.iconst 2, 1) := by decide +kernel
theorem d1_19 : decode method_2_code 19 = .ok (.if_icmp .ne 7, 3) := by decide +kernel
theorem d1_22 : decode method_2_code 22 = .ok (.getstatic 16, 3) := by decide +kernel
theorem d1_25 : decode method_2_code 25 = .ok (.areturn, 1) := by decide +kernel
theorem d1_26 : decode method_2_code 26 = .ok (.getstatic 19, 3) := by decide +kernel
theorem d1_29 : decode method_2_code 29 = .ok (.areturn, 1) := by decide +kernel
theorem own_pn0 : plainName "spinecode/identifier/JudgementIsValidPinLaw" = true := by first | (simp [plainName, overriddenIn]; done) | decide +kernel
theorem ef_rm1 (m : MethodId) (p1 : Int32) : entryFrame m #[(.int p1)] 1 = mkF m 0 #[.val (.int p1)] [] := by first | (simp [entryFrame, mkF, argsToLocals, Value.category]; done) | rfl
set_option maxRecDepth 65536 in
set_option maxHeartbeats 40000000 in
theorem rm1 (l : Launch) (Z : State) (a0 : Array Value) (hw : ∀ d ∈ tables_1, d.before a0 Z = true) (ws : List Jvm.Cond) (p1 : Int32) (ak0 : Addr) (ak1 : Addr) (ak2 : Addr) (ak3 : Addr) (h0 : Heap) (n0 : Nat) (Z0 : n0 ≤ h0.size) (Sk0 : Sta Z h0 "spinecode/identifier/Kind" "ISBN" "Lspinecode/identifier/Kind;" (.ref ak0)) (Sk1 : Sta Z h0 "spinecode/identifier/Kind" "ISSN" "Lspinecode/identifier/Kind;" (.ref ak1)) (Sk2 : Sta Z h0 "spinecode/identifier/Kind" "DOI" "Lspinecode/identifier/Kind;" (.ref ak2)) (Sk3 : Sta Z h0 "spinecode/identifier/Kind" "UNKNOWN" "Lspinecode/identifier/Kind;" (.ref ak3)) :
    MetFree l (⟨"spinecode/identifier/JudgementIsValidPinLaw", "pickKind", "(I)Lspinecode/identifier/Kind;"⟩ : MethodName) (head1 (Jvm.Cond.code (⟨"spinecode/identifier/JudgementIsValidPinLaw", "pickKind", "(I)Lspinecode/identifier/Kind;"⟩ : MethodName) method_2_code 1 (some (.object "spinecode/identifier/Kind")) :: ws) ({ frames := 0, cells := 0, slots := 0, locals := 0 } : Room)) (fun a U => a = #[(.int p1)] ∧ Z.Warmed39 U.vm ∧ U.heap = h0) (fun _ _ _ _ _ => True) (fun _ U o U' => ∃ vr Lr, o = .returned vr ∧ QR h0 n0 vr U'.heap Lr ∧ FrameEnd U o U' Lr 0 0) := by
  refine MetFree.of_bodySF (plainFor_of_name own_pn0) hisR ?_
  intro p e s m args below meth c s₁ Bd hml0 hP hK
  obtain ⟨rfl, hZ, hh⟩ := hP
  have hx := Bd.exec
  have hby := Bd.bytes
  have hml : c.maxLocals = 1 := hml0
  have hown : s.vm.findClass "spinecode/identifier/JudgementIsValidPinLaw" = some m.cls := findClass_of_methodNamed Bd.named
  have hnm := (name_of_methodNamed Bd.named Bd.method).1
  have hlk : meth.locks = false := Bd.notSynchronized
  have hrt := Bd.returns
  have X0 : Stand p l e ({ frames := 0, cells := 0, slots := 0, locals := 0 } : Room) s m #[(.int p1)] below meth c s₁ [] 0 0 := Stand.of_body Bd
  have e0 : s₁.heap = h0 := by rw [← hh, Bd.state]; rfl
  have N0 := Fr.nil n0
  show Done p e s below 0 0 (QR h0 n0) s₁ (entryFrame m #[(.int p1)] 1)
  rw [ef_rm1]
  show Done p e s below _ _ _ s₁ (mkF m 0 #[.val (.int p1)] [])
  refine Done.go (fun _ kt_ => XS.iloadN X0.here hx rfl (hb hby d1_0) rfl kt_) ?_
  show Done p e s below _ _ _ s₁ (mkF m 1 #[.val (.int p1)] [(.int p1)])
  by_cases hc1 : p1 = (0 : Int32)
  · skip
    refine Done.go (fun _ kt_ => XS.ifNo X0.here hx rfl (hb hby d1_1) rfl ((if0 _ _).trans (teq hc1).2) kt_) ?_
    show Done p e s below _ _ _ s₁ (mkF m 4 #[.val (.int p1)] [])
    obtain ⟨T1, X1, e1, st1⟩ := getS2 X0 hx hZ hown (host := "") (Or.inl (hw _ (List.mem_of_getElem? (i := 4) rfl))) Via.refl e0 Sk0 (g := (mkF m 4 #[.val (.int p1)] [])) rfl (hb hby d1_4)
    refine Done.go st1 ?_
    clear st1
    show Done p e s below _ _ _ T1 (mkF m 7 #[.val (.int p1)] [(.ref ak0)])
    refine Done.retR X1 hx hlk hrt rfl rfl (hb hby d1_7) ?_ (by first | decide | omega) (by first | decide | omega)
    rw [e1]
    exact ⟨_, rfl, N0, rfl⟩
  · skip
    refine Done.go (fun _ kt_ => XS.ifYes X0.here hx rfl (pc0 := 1) (pc' := 8) rfl (hb hby d1_1) rfl ((if0 _ _).trans (feq hc1).2) (by decide) (by decide) kt_) ?_
    show Done p e s below _ _ _ s₁ (mkF m 8 #[.val (.int p1)] [])
    refine Done.go (fun _ kt_ => XS.iloadN X0.here hx rfl (hb hby d1_8) rfl kt_) ?_
    show Done p e s below _ _ _ s₁ (mkF m 9 #[.val (.int p1)] [(.int p1)])
    refine Done.go (fun _ kt_ => XS.iconst X0.here hx rfl (hb hby d1_9) kt_) ?_
    show Done p e s below _ _ _ s₁ (mkF m 10 #[.val (.int p1)] [(.int (1 : Int32)), (.int p1)])
    by_cases hc10 : p1 = (1 : Int32)
    · skip
      refine Done.go (fun _ kt_ => XS.icmpNo X0.here hx rfl (hb hby d1_10) rfl (teq hc10).2 kt_) ?_
      show Done p e s below _ _ _ s₁ (mkF m 13 #[.val (.int p1)] [])
      obtain ⟨T2, X2, e2, st2⟩ := getS2 X0 hx hZ hown (host := "") (Or.inl (hw _ (List.mem_of_getElem? (i := 81) rfl))) Via.refl e0 Sk1 (g := (mkF m 13 #[.val (.int p1)] [])) rfl (hb hby d1_13)
      refine Done.go st2 ?_
      clear st2
      show Done p e s below _ _ _ T2 (mkF m 16 #[.val (.int p1)] [(.ref ak1)])
      refine Done.retR X2 hx hlk hrt rfl rfl (hb hby d1_16) ?_ (by first | decide | omega) (by first | decide | omega)
      rw [e2]
      exact ⟨_, rfl, N0, rfl⟩
    · skip
      refine Done.go (fun _ kt_ => XS.icmpYes X0.here hx rfl (pc0 := 10) (pc' := 17) rfl (hb hby d1_10) rfl (feq hc10).2 (by decide) (by decide) kt_) ?_
      show Done p e s below _ _ _ s₁ (mkF m 17 #[.val (.int p1)] [])
      refine Done.go (fun _ kt_ => XS.iloadN X0.here hx rfl (hb hby d1_17) rfl kt_) ?_
      show Done p e s below _ _ _ s₁ (mkF m 18 #[.val (.int p1)] [(.int p1)])
      refine Done.go (fun _ kt_ => XS.iconst X0.here hx rfl (hb hby d1_18) kt_) ?_
      show Done p e s below _ _ _ s₁ (mkF m 19 #[.val (.int p1)] [(.int (2 : Int32)), (.int p1)])
      by_cases hc19 : p1 = (2 : Int32)
      · skip
        refine Done.go (fun _ kt_ => XS.icmpNo X0.here hx rfl (hb hby d1_19) rfl (teq hc19).2 kt_) ?_
        show Done p e s below _ _ _ s₁ (mkF m 22 #[.val (.int p1)] [])
        obtain ⟨T3, X3, e3, st3⟩ := getS2 X0 hx hZ hown (host := "") (Or.inl (hw _ (List.mem_of_getElem? (i := 79) rfl))) Via.refl e0 Sk2 (g := (mkF m 22 #[.val (.int p1)] [])) rfl (hb hby d1_22)
        refine Done.go st3 ?_
        clear st3
        show Done p e s below _ _ _ T3 (mkF m 25 #[.val (.int p1)] [(.ref ak2)])
        refine Done.retR X3 hx hlk hrt rfl rfl (hb hby d1_25) ?_ (by first | decide | omega) (by first | decide | omega)
        rw [e3]
        exact ⟨_, rfl, N0, rfl⟩
      · skip
        refine Done.go (fun _ kt_ => XS.icmpYes X0.here hx rfl (pc0 := 19) (pc' := 26) rfl (hb hby d1_19) rfl (feq hc19).2 (by decide) (by decide) kt_) ?_
        show Done p e s below _ _ _ s₁ (mkF m 26 #[.val (.int p1)] [])
        obtain ⟨T4, X4, e4, st4⟩ := getS2 X0 hx hZ hown (host := "") (Or.inl (hw _ (List.mem_of_getElem? (i := 75) rfl))) Via.refl e0 Sk3 (g := (mkF m 26 #[.val (.int p1)] [])) rfl (hb hby d1_26)
        refine Done.go st4 ?_
        clear st4
        show Done p e s below _ _ _ T4 (mkF m 29 #[.val (.int p1)] [(.ref ak3)])
        refine Done.retR X4 hx hlk hrt rfl rfl (hb hby d1_29) ?_ (by first | decide | omega) (by first | decide | omega)
        rw [e4]
        exact ⟨_, rfl, N0, rfl⟩
theorem d2_0 : decode method_3_code 0 = .ok (.iload_n 0, 1) := by decide +kernel
theorem d2_1 : decode method_3_code 1 = .ok (.ifCond .ne 7, 3) := by decide +kernel
theorem d2_4 : decode method_3_code 4 = .ok (.getstatic 22, 3) := by decide +kernel
theorem d2_7 : decode method_3_code 7 = .ok (.areturn, 1) := by decide +kernel
theorem d2_8 : decode method_3_code 8 = .ok (.iload_n 0, 1) := by decide +kernel
theorem d2_9 : decode method_3_code 9 = .ok (.iconst 1, 1) := by decide +kernel
theorem d2_10 : decode method_3_code 10 = .ok (.if_icmp .ne 7, 3) := by decide +kernel
theorem d2_13 : decode method_3_code 13 = .ok (.getstatic 28, 3) := by decide +kernel
theorem d2_16 : decode method_3_code 16 = .ok (.areturn, 1) := by decide +kernel
theorem d2_17 : decode method_3_code 17 = .ok (.iload_n 0, 1) := by decide +kernel
theorem d2_18 : decode method_3_code 18 = .ok (.iconst 2, 1) := by decide +kernel
theorem d2_19 : decode method_3_code 19 = .ok (.if_icmp .ne 7, 3) := by decide +kernel
theorem d2_22 : decode method_3_code 22 = .ok (.getstatic 31, 3) := by decide +kernel
theorem d2_25 : decode method_3_code 25 = .ok (.areturn, 1) := by decide +kernel
theorem d2_26 : decode method_3_code 26 = .ok (.iload_n 0, 1) := by decide +kernel
theorem d2_27 : decode method_3_code 27 = .ok (.iconst 3, 1) := by decide +kernel
theorem d2_28 : decode method_3_code 28 = .ok (.if_icmp .ne 7, 3) := by decide +kernel
theorem d2_31 : decode method_3_code 31 = .ok (.getstatic 34, 3) := by decide +kernel
theorem d2_34 : decode method_3_code 34 = .ok (.areturn, 1) := by decide +kernel
theorem d2_35 : decode method_3_code 35 = .ok (.getstatic 37, 3) := by decide +kernel
theorem d2_38 : decode method_3_code 38 = .ok (.areturn, 1) := by decide +kernel
theorem ef_rm2 (m : MethodId) (p1 : Int32) : entryFrame m #[(.int p1)] 1 = mkF m 0 #[.val (.int p1)] [] := by first | (simp [entryFrame, mkF, argsToLocals, Value.category]; done) | rfl
set_option maxRecDepth 65536 in
set_option maxHeartbeats 40000000 in
theorem rm2 (l : Launch) (Z : State) (a0 : Array Value) (hw : ∀ d ∈ tables_1, d.before a0 Z = true) (ws : List Jvm.Cond) (p1 : Int32) (ar0 : Addr) (ar1 : Addr) (ar2 : Addr) (ar3 : Addr) (ar4 : Addr) (h0 : Heap) (n0 : Nat) (Z0 : n0 ≤ h0.size) (Sr0 : Sta Z h0 "spinecode/identifier/Reason" "CHARACTER" "Lspinecode/identifier/Reason;" (.ref ar0)) (Sr1 : Sta Z h0 "spinecode/identifier/Reason" "LENGTH" "Lspinecode/identifier/Reason;" (.ref ar1)) (Sr2 : Sta Z h0 "spinecode/identifier/Reason" "PREFIX" "Lspinecode/identifier/Reason;" (.ref ar2)) (Sr3 : Sta Z h0 "spinecode/identifier/Reason" "CHECK_DIGIT" "Lspinecode/identifier/Reason;" (.ref ar3)) (Sr4 : Sta Z h0 "spinecode/identifier/Reason" "SYNTAX" "Lspinecode/identifier/Reason;" (.ref ar4)) :
    MetFree l (⟨"spinecode/identifier/JudgementIsValidPinLaw", "pickReason", "(I)Lspinecode/identifier/Reason;"⟩ : MethodName) (head1 (Jvm.Cond.code (⟨"spinecode/identifier/JudgementIsValidPinLaw", "pickReason", "(I)Lspinecode/identifier/Reason;"⟩ : MethodName) method_3_code 1 (some (.object "spinecode/identifier/Reason")) :: ws) ({ frames := 0, cells := 0, slots := 0, locals := 0 } : Room)) (fun a U => a = #[(.int p1)] ∧ Z.Warmed39 U.vm ∧ U.heap = h0) (fun _ _ _ _ _ => True) (fun _ U o U' => ∃ vr Lr, o = .returned vr ∧ QR h0 n0 vr U'.heap Lr ∧ FrameEnd U o U' Lr 0 0) := by
  refine MetFree.of_bodySF (plainFor_of_name own_pn0) hisR ?_
  intro p e s m args below meth c s₁ Bd hml0 hP hK
  obtain ⟨rfl, hZ, hh⟩ := hP
  have hx := Bd.exec
  have hby := Bd.bytes
  have hml : c.maxLocals = 1 := hml0
  have hown : s.vm.findClass "spinecode/identifier/JudgementIsValidPinLaw" = some m.cls := findClass_of_methodNamed Bd.named
  have hnm := (name_of_methodNamed Bd.named Bd.method).1
  have hlk : meth.locks = false := Bd.notSynchronized
  have hrt := Bd.returns
  have X0 : Stand p l e ({ frames := 0, cells := 0, slots := 0, locals := 0 } : Room) s m #[(.int p1)] below meth c s₁ [] 0 0 := Stand.of_body Bd
  have e0 : s₁.heap = h0 := by rw [← hh, Bd.state]; rfl
  have N0 := Fr.nil n0
  show Done p e s below 0 0 (QR h0 n0) s₁ (entryFrame m #[(.int p1)] 1)
  rw [ef_rm2]
  show Done p e s below _ _ _ s₁ (mkF m 0 #[.val (.int p1)] [])
  refine Done.go (fun _ kt_ => XS.iloadN X0.here hx rfl (hb hby d2_0) rfl kt_) ?_
  show Done p e s below _ _ _ s₁ (mkF m 1 #[.val (.int p1)] [(.int p1)])
  by_cases hc1 : p1 = (0 : Int32)
  · skip
    refine Done.go (fun _ kt_ => XS.ifNo X0.here hx rfl (hb hby d2_1) rfl ((if0 _ _).trans (teq hc1).2) kt_) ?_
    show Done p e s below _ _ _ s₁ (mkF m 4 #[.val (.int p1)] [])
    obtain ⟨T5, X5, e5, st5⟩ := getS2 X0 hx hZ hown (host := "") (Or.inl (hw _ (List.mem_of_getElem? (i := 83) rfl))) Via.refl e0 Sr0 (g := (mkF m 4 #[.val (.int p1)] [])) rfl (hb hby d2_4)
    refine Done.go st5 ?_
    clear st5
    show Done p e s below _ _ _ T5 (mkF m 7 #[.val (.int p1)] [(.ref ar0)])
    refine Done.retR X5 hx hlk hrt rfl rfl (hb hby d2_7) ?_ (by first | decide | omega) (by first | decide | omega)
    rw [e5]
    exact ⟨_, rfl, N0, rfl⟩
  · skip
    refine Done.go (fun _ kt_ => XS.ifYes X0.here hx rfl (pc0 := 1) (pc' := 8) rfl (hb hby d2_1) rfl ((if0 _ _).trans (feq hc1).2) (by decide) (by decide) kt_) ?_
    show Done p e s below _ _ _ s₁ (mkF m 8 #[.val (.int p1)] [])
    refine Done.go (fun _ kt_ => XS.iloadN X0.here hx rfl (hb hby d2_8) rfl kt_) ?_
    show Done p e s below _ _ _ s₁ (mkF m 9 #[.val (.int p1)] [(.int p1)])
    refine Done.go (fun _ kt_ => XS.iconst X0.here hx rfl (hb hby d2_9) kt_) ?_
    show Done p e s below _ _ _ s₁ (mkF m 10 #[.val (.int p1)] [(.int (1 : Int32)), (.int p1)])
    by_cases hc10 : p1 = (1 : Int32)
    · skip
      refine Done.go (fun _ kt_ => XS.icmpNo X0.here hx rfl (hb hby d2_10) rfl (teq hc10).2 kt_) ?_
      show Done p e s below _ _ _ s₁ (mkF m 13 #[.val (.int p1)] [])
      obtain ⟨T6, X6, e6, st6⟩ := getS2 X0 hx hZ hown (host := "") (Or.inl (hw _ (List.mem_of_getElem? (i := 85) rfl))) Via.refl e0 Sr1 (g := (mkF m 13 #[.val (.int p1)] [])) rfl (hb hby d2_13)
      refine Done.go st6 ?_
      clear st6
      show Done p e s below _ _ _ T6 (mkF m 16 #[.val (.int p1)] [(.ref ar1)])
      refine Done.retR X6 hx hlk hrt rfl rfl (hb hby d2_16) ?_ (by first | decide | omega) (by first | decide | omega)
      rw [e6]
      exact ⟨_, rfl, N0, rfl⟩
    · skip
      refine Done.go (fun _ kt_ => XS.icmpYes X0.here hx rfl (pc0 := 10) (pc' := 17) rfl (hb hby d2_10) rfl (feq hc10).2 (by decide) (by decide) kt_) ?_
      show Done p e s below _ _ _ s₁ (mkF m 17 #[.val (.int p1)] [])
      refine Done.go (fun _ kt_ => XS.iloadN X0.here hx rfl (hb hby d2_17) rfl kt_) ?_
      show Done p e s below _ _ _ s₁ (mkF m 18 #[.val (.int p1)] [(.int p1)])
      refine Done.go (fun _ kt_ => XS.iconst X0.here hx rfl (hb hby d2_18) kt_) ?_
      show Done p e s below _ _ _ s₁ (mkF m 19 #[.val (.int p1)] [(.int (2 : Int32)), (.int p1)])
      by_cases hc19 : p1 = (2 : Int32)
      · skip
        refine Done.go (fun _ kt_ => XS.icmpNo X0.here hx rfl (hb hby d2_19) rfl (teq hc19).2 kt_) ?_
        show Done p e s below _ _ _ s₁ (mkF m 22 #[.val (.int p1)] [])
        obtain ⟨T7, X7, e7, st7⟩ := getS2 X0 hx hZ hown (host := "") (Or.inl (hw _ (List.mem_of_getElem? (i := 87) rfl))) Via.refl e0 Sr2 (g := (mkF m 22 #[.val (.int p1)] [])) rfl (hb hby d2_22)
        refine Done.go st7 ?_
        clear st7
        show Done p e s below _ _ _ T7 (mkF m 25 #[.val (.int p1)] [(.ref ar2)])
        refine Done.retR X7 hx hlk hrt rfl rfl (hb hby d2_25) ?_ (by first | decide | omega) (by first | decide | omega)
        rw [e7]
        exact ⟨_, rfl, N0, rfl⟩
      · skip
        refine Done.go (fun _ kt_ => XS.icmpYes X0.here hx rfl (pc0 := 19) (pc' := 26) rfl (hb hby d2_19) rfl (feq hc19).2 (by decide) (by decide) kt_) ?_
        show Done p e s below _ _ _ s₁ (mkF m 26 #[.val (.int p1)] [])
        refine Done.go (fun _ kt_ => XS.iloadN X0.here hx rfl (hb hby d2_26) rfl kt_) ?_
        show Done p e s below _ _ _ s₁ (mkF m 27 #[.val (.int p1)] [(.int p1)])
        refine Done.go (fun _ kt_ => XS.iconst X0.here hx rfl (hb hby d2_27) kt_) ?_
        show Done p e s below _ _ _ s₁ (mkF m 28 #[.val (.int p1)] [(.int (3 : Int32)), (.int p1)])
        by_cases hc28 : p1 = (3 : Int32)
        · skip
          refine Done.go (fun _ kt_ => XS.icmpNo X0.here hx rfl (hb hby d2_28) rfl (teq hc28).2 kt_) ?_
          show Done p e s below _ _ _ s₁ (mkF m 31 #[.val (.int p1)] [])
          obtain ⟨T8, X8, e8, st8⟩ := getS2 X0 hx hZ hown (host := "") (Or.inl (hw _ (List.mem_of_getElem? (i := 11) rfl))) Via.refl e0 Sr3 (g := (mkF m 31 #[.val (.int p1)] [])) rfl (hb hby d2_31)
          refine Done.go st8 ?_
          clear st8
          show Done p e s below _ _ _ T8 (mkF m 34 #[.val (.int p1)] [(.ref ar3)])
          refine Done.retR X8 hx hlk hrt rfl rfl (hb hby d2_34) ?_ (by first | decide | omega) (by first | decide | omega)
          rw [e8]
          exact ⟨_, rfl, N0, rfl⟩
        · skip
          refine Done.go (fun _ kt_ => XS.icmpYes X0.here hx rfl (pc0 := 28) (pc' := 35) rfl (hb hby d2_28) rfl (feq hc28).2 (by decide) (by decide) kt_) ?_
          show Done p e s below _ _ _ s₁ (mkF m 35 #[.val (.int p1)] [])
          obtain ⟨T9, X9, e9, st9⟩ := getS2 X0 hx hZ hown (host := "") (Or.inl (hw _ (List.mem_of_getElem? (i := 77) rfl))) Via.refl e0 Sr4 (g := (mkF m 35 #[.val (.int p1)] [])) rfl (hb hby d2_35)
          refine Done.go st9 ?_
          clear st9
          show Done p e s below _ _ _ T9 (mkF m 38 #[.val (.int p1)] [(.ref ar4)])
          refine Done.retR X9 hx hlk hrt rfl rfl (hb hby d2_38) ?_ (by first | decide | omega) (by first | decide | omega)
          rw [e9]
          exact ⟨_, rfl, N0, rfl⟩
def Q4 (h0 : Heap) (n0 : Nat) (v : Option Value) (h : Heap) (L : List Loc) : Prop := v = none ∧ Fr n0 L ∧ h = h0
theorem d4_0 : decode jdk_30_method_1_code 0 = .ok (.aload_n 0, 1) := by decide +kernel
theorem d4_1 : decode jdk_30_method_1_code 1 = .ok (.invokespecial 1, 3) := by decide +kernel
theorem d4_4 : decode jdk_30_method_1_code 4 = .ok (.return_, 1) := by decide +kernel
theorem own_pn1 : plainName "java/lang/Record" = true := by first | (simp [plainName, overriddenIn]; done) | decide +kernel
theorem ef_rm4 (m : MethodId) (a1 : Addr) : entryFrame m #[(.ref a1)] 1 = mkF m 0 #[.val (.ref a1)] [] := by first | (simp [entryFrame, mkF, argsToLocals, Value.category]; done) | rfl
set_option maxRecDepth 65536 in
set_option maxHeartbeats 40000000 in
theorem rm4 (l : Launch) (Z : State) (a0 : Array Value) (hw : ∀ d ∈ tables_1, d.before a0 Z = true) (ws : List Jvm.Cond) (a1 : Addr) (h0 : Heap) (n0 : Nat) (Z0 : n0 ≤ h0.size) :
    MetFree l (⟨"java/lang/Record", "<init>", "()V"⟩ : MethodName) (head1 (Jvm.Cond.code (⟨"java/lang/Record", "<init>", "()V"⟩ : MethodName) jdk_30_method_1_code 1 none :: ws) ({ frames := 1, cells := 0, slots := 0, locals := 12 } : Room)) (fun a U => a = #[(.ref a1)] ∧ Z.Warmed39 U.vm ∧ U.heap = h0) (fun _ _ _ _ _ => True) (fun _ U o U' => ∃ vr Lr, o = .returned vr ∧ Q4 h0 n0 vr U'.heap Lr ∧ FrameEnd U o U' Lr 0 0) := by
  refine MetFree.of_bodySF (plainFor_of_name own_pn1) hisR ?_
  intro p e s m args below meth c s₁ Bd hml0 hP hK
  obtain ⟨rfl, hZ, hh⟩ := hP
  have hx := Bd.exec
  have hby := Bd.bytes
  have hml : c.maxLocals = 1 := hml0
  have hown : s.vm.findClass "java/lang/Record" = some m.cls := findClass_of_methodNamed Bd.named
  have hnm := (name_of_methodNamed Bd.named Bd.method).1
  have hlk : meth.locks = false := Bd.notSynchronized
  have hrt := Bd.returns
  have X0 : Stand p l e ({ frames := 1, cells := 0, slots := 0, locals := 12 } : Room) s m #[(.ref a1)] below meth c s₁ [] 0 0 := Stand.of_body Bd
  have e0 : s₁.heap = h0 := by rw [← hh, Bd.state]; rfl
  have N0 := Fr.nil n0
  show Done p e s below 0 0 (Q4 h0 n0) s₁ (entryFrame m #[(.ref a1)] 1)
  rw [ef_rm4]
  show Done p e s below _ _ _ s₁ (mkF m 0 #[.val (.ref a1)] [])
  refine Done.go (fun _ kt_ => XS.aloadN X0.here hx rfl (hb hby d4_0) rfl rfl kt_) ?_
  show Done p e s below _ _ _ s₁ (mkF m 1 #[.val (.ref a1)] [(.ref a1)])
  obtain ⟨T10, X10, e10, st10⟩ := initO X0 hx hZ hown (hw _ (List.mem_of_getElem? (i := 34) rfl)) (hw _ (List.mem_of_getElem? (i := 35) rfl)) (hw _ (List.mem_of_getElem? (i := 36) rfl)) e0 (g := (mkF m 1 #[.val (.ref a1)] [(.ref a1)])) rfl (by rw [hml]; rfl) rfl (hb hby d4_1) (by decide) (W := 0) (by show 2 * 0 + _ ≤ _; exact Nat.le_of_eq rfl) (by decide)
  refine Done.go st10 ?_
  clear st10
  show Done p e s below _ _ _ T10 (mkF m 4 #[.val (.ref a1)] [])
  refine Done.retV X10 hx hlk hrt (hb hby d4_4) ?_ (by first | decide | omega) (by first | decide | omega)
  rw [e10]
  exact ⟨rfl, N0, rfl⟩
def Q6 (r : Addr) (h0 : Heap) (n0 : Nat) (v : Option Value) (h : Heap) (L : List Loc) : Prop := v = some (.ref r) ∧ Fr n0 L ∧ h = h0
theorem d6_0 : decode jdk_31_method_11_code 0 = .ok (.aload_n 0, 1) := by decide +kernel
theorem d6_1 : decode jdk_31_method_11_code 1 = .ok (.ifnonnull 12, 3) := by decide +kernel
theorem d6_4 : decode jdk_31_method_11_code 4 = .ok (.new 84, 3) := by decide +kernel
theorem d6_7 : decode jdk_31_method_11_code 7 = .ok (.dup, 1) := by decide +kernel
theorem d6_8 : decode jdk_31_method_11_code 8 = .ok (.aload_n 1, 1) := by decide +kernel
theorem d6_9 : decode jdk_31_method_11_code 9 = .ok (.invokespecial 87, 3) := by decide +kernel
theorem d6_12 : decode jdk_31_method_11_code 12 = .ok (.athrow, 1) := by decide +kernel
theorem d6_13 : decode jdk_31_method_11_code 13 = .ok (.aload_n 0, 1) := by decide +kernel
theorem d6_14 : decode jdk_31_method_11_code 14 = .ok (.areturn, 1) := by decide +kernel
theorem own_pn2 : plainName "java/util/Objects" = true := by first | (simp [plainName, overriddenIn]; done) | decide +kernel
theorem ef_rm6 (m : MethodId) (a1 : Addr) (a2 : Addr) : entryFrame m #[(.ref a1), (.ref a2)] 2 = mkF m 0 #[.val (.ref a1), .val (.ref a2)] [] := by first | (simp [entryFrame, mkF, argsToLocals, Value.category]; done) | rfl
set_option maxRecDepth 65536 in
set_option maxHeartbeats 40000000 in
theorem rm6 (l : Launch) (Z : State) (a0 : Array Value) (hw : ∀ d ∈ tables_1, d.before a0 Z = true) (ws : List Jvm.Cond) (a1 : Addr) (a2 : Addr) (h0 : Heap) (n0 : Nat) (Z0 : n0 ≤ h0.size) :
    MetFree l (⟨"java/util/Objects", "requireNonNull", "(Ljava/lang/Object;Ljava/lang/String;)Ljava/lang/Object;"⟩ : MethodName) (head1 (Jvm.Cond.code (⟨"java/util/Objects", "requireNonNull", "(Ljava/lang/Object;Ljava/lang/String;)Ljava/lang/Object;"⟩ : MethodName) jdk_31_method_11_code 2 (some (.object "java/lang/Object")) :: ws) ({ frames := 0, cells := 0, slots := 0, locals := 0 } : Room)) (fun a U => a = #[(.ref a1), (.ref a2)] ∧ Z.Warmed39 U.vm ∧ U.heap = h0) (fun _ _ _ _ _ => True) (fun _ U o U' => ∃ vr Lr, o = .returned vr ∧ Q6 a1 h0 n0 vr U'.heap Lr ∧ FrameEnd U o U' Lr 0 0) := by
  refine MetFree.of_bodySF (plainFor_of_name own_pn2) hisR ?_
  intro p e s m args below meth c s₁ Bd hml0 hP hK
  obtain ⟨rfl, hZ, hh⟩ := hP
  have hx := Bd.exec
  have hby := Bd.bytes
  have hml : c.maxLocals = 2 := hml0
  have hown : s.vm.findClass "java/util/Objects" = some m.cls := findClass_of_methodNamed Bd.named
  have hnm := (name_of_methodNamed Bd.named Bd.method).1
  have hlk : meth.locks = false := Bd.notSynchronized
  have hrt := Bd.returns
  have X0 : Stand p l e ({ frames := 0, cells := 0, slots := 0, locals := 0 } : Room) s m #[(.ref a1), (.ref a2)] below meth c s₁ [] 0 0 := Stand.of_body Bd
  have e0 : s₁.heap = h0 := by rw [← hh, Bd.state]; rfl
  have N0 := Fr.nil n0
  show Done p e s below 0 0 (Q6 a1 h0 n0) s₁ (entryFrame m #[(.ref a1), (.ref a2)] 2)
  rw [ef_rm6]
  show Done p e s below _ _ _ s₁ (mkF m 0 #[.val (.ref a1), .val (.ref a2)] [])
  refine Done.go (fun _ kt_ => XS.aloadN X0.here hx rfl (hb hby d6_0) rfl rfl kt_) ?_
  show Done p e s below _ _ _ s₁ (mkF m 1 #[.val (.ref a1), .val (.ref a2)] [(.ref a1)])
  refine Done.go (fun _ kt_ => XS.ifnonnullYes X0.here hx rfl (pc0 := 1) (pc' := 13) rfl (hb hby d6_1) rfl (by decide) (by decide) kt_) ?_
  show Done p e s below _ _ _ s₁ (mkF m 13 #[.val (.ref a1), .val (.ref a2)] [])
  refine Done.go (fun _ kt_ => XS.aloadN X0.here hx rfl (hb hby d6_13) rfl rfl kt_) ?_
  show Done p e s below _ _ _ s₁ (mkF m 14 #[.val (.ref a1), .val (.ref a2)] [(.ref a1)])
  refine Done.retR X0 hx hlk hrt rfl rfl (hb hby d6_14) ?_ (by first | decide | omega) (by first | decide | omega)
  rw [e0]
  exact ⟨rfl, N0, rfl⟩
def Q3 (Z : State) (a1 : Addr) (rv : Value) (h0 : Heap) (n0 : Nat) (v : Option Value) (h : Heap) (L : List Loc) : Prop := v = none ∧ Fr n0 L ∧ h0.size ≤ h.size ∧ Exa Z h a1 "spinecode/identifier/Judgement" ∧ Fld Z h a1 "spinecode/identifier/Judgement" "reason" "Lspinecode/identifier/Reason;" rv
theorem d3_0 : decode prog_8_method_1_code 0 = .ok (.aload_n 0, 1) := by decide +kernel
theorem d3_1 : decode prog_8_method_1_code 1 = .ok (.invokespecial 1, 3) := by decide +kernel
theorem d3_4 : decode prog_8_method_1_code 4 = .ok (.aload_n 1, 1) := by decide +kernel
theorem d3_5 : decode prog_8_method_1_code 5 = .ok (.ldc 7, 2) := by decide +kernel
theorem d3_7 : decode prog_8_method_1_code 7 = .ok (.invokestatic 9, 3) := by decide +kernel
theorem d3_10 : decode prog_8_method_1_code 10 = .ok (.pop, 1) := by decide +kernel
theorem d3_11 : decode prog_8_method_1_code 11 = .ok (.aload_n 2, 1) := by decide +kernel
theorem d3_12 : decode prog_8_method_1_code 12 = .ok (.ifnonnull 7, 3) := by decide +kernel
theorem d3_15 : decode prog_8_method_1_code 15 = .ok (.iconst 1, 1) := by decide +kernel
theorem d3_16 : decode prog_8_method_1_code 16 = .ok (.goto 4, 3) := by decide +kernel
theorem d3_19 : decode prog_8_method_1_code 19 = .ok (.iconst 0, 1) := by decide +kernel
theorem d3_20 : decode prog_8_method_1_code 20 = .ok (.aload_n 3, 1) := by decide +kernel
theorem d3_21 : decode prog_8_method_1_code 21 = .ok (.ifnonnull 7, 3) := by decide +kernel
theorem d3_24 : decode prog_8_method_1_code 24 = .ok (.iconst 1, 1) := by decide +kernel
theorem d3_25 : decode prog_8_method_1_code 25 = .ok (.goto 4, 3) := by decide +kernel
theorem d3_28 : decode prog_8_method_1_code 28 = .ok (.iconst 0, 1) := by decide +kernel
theorem d3_29 : decode prog_8_method_1_code 29 = .ok (.if_icmp .ne 13, 3) := by decide +kernel
theorem d3_32 : decode prog_8_method_1_code 32 = .ok (.new 15, 3) := by decide +kernel
theorem d3_35 : decode prog_8_method_1_code 35 = .ok (.dup, 1) := by decide +kernel
theorem d3_36 : decode prog_8_method_1_code 36 = .ok (.ldc 17, 2) := by decide +kernel
theorem d3_38 : decode prog_8_method_1_code 38 = .ok (.invokespecial 19, 3) := by decide +kernel
theorem d3_41 : decode prog_8_method_1_code 41 = .ok (.athrow, 1) := by decide +kernel
theorem d3_42 : decode prog_8_method_1_code 42 = .ok (.aload_n 0, 1) := by decide +kernel
theorem d3_43 : decode prog_8_method_1_code 43 = .ok (.aload_n 1, 1) := by decide +kernel
theorem d3_44 : decode prog_8_method_1_code 44 = .ok (.putfield 22, 3) := by decide +kernel
theorem d3_47 : decode prog_8_method_1_code 47 = .ok (.aload_n 0, 1) := by decide +kernel
theorem d3_48 : decode prog_8_method_1_code 48 = .ok (.aload_n 2, 1) := by decide +kernel
theorem d3_49 : decode prog_8_method_1_code 49 = .ok (.putfield 27, 3) := by decide +kernel
theorem d3_52 : decode prog_8_method_1_code 52 = .ok (.aload_n 0, 1) := by decide +kernel
theorem d3_53 : decode prog_8_method_1_code 53 = .ok (.aload_n 3, 1) := by decide +kernel
theorem d3_54 : decode prog_8_method_1_code 54 = .ok (.putfield 31, 3) := by decide +kernel
theorem d3_57 : decode prog_8_method_1_code 57 = .ok (.return_, 1) := by decide +kernel
theorem own_pn3 : plainName "spinecode/identifier/Judgement" = true := by first | (simp [plainName, overriddenIn]; done) | decide +kernel
theorem ef_rm3V (m : MethodId) (a1 : Addr) (a2 : Addr) (a3 : Addr) : entryFrame m #[(.ref a1), (.ref a2), (.ref a3), .null] 4 = mkF m 0 #[.val (.ref a1), .val (.ref a2), .val (.ref a3), .val .null] [] := by first | (simp [entryFrame, mkF, argsToLocals, Value.category]; done) | rfl
set_option maxRecDepth 65536 in
set_option maxHeartbeats 40000000 in
theorem rm3V (l : Launch) (Z : State) (a0 : Array Value) (hw : ∀ d ∈ tables_1, d.before a0 Z = true) (ws : List Jvm.Cond) (a1 : Addr) (a2 : Addr) (a3 : Addr) (h0 : Heap) (n0 : Nat) (Z0 : n0 ≤ h0.size) (E1 : Exa Z h0 a1 "spinecode/identifier/Judgement") (g1 : n0 ≤ a1) (F_kind : Fld Z h0 a1 "spinecode/identifier/Judgement" "kind" "Lspinecode/identifier/Kind;" .null) (F_normalForm : Fld Z h0 a1 "spinecode/identifier/Judgement" "normalForm" "Ljava/lang/String;" .null) (F_reason : Fld Z h0 a1 "spinecode/identifier/Judgement" "reason" "Lspinecode/identifier/Reason;" .null) :
    MetFree l (⟨"spinecode/identifier/Judgement", "<init>", "(Lspinecode/identifier/Kind;Ljava/lang/String;Lspinecode/identifier/Reason;)V"⟩ : MethodName) (head1 (Jvm.Cond.code (⟨"spinecode/identifier/Judgement", "<init>", "(Lspinecode/identifier/Kind;Ljava/lang/String;Lspinecode/identifier/Reason;)V"⟩ : MethodName) prog_8_method_1_code 4 none :: ws) ({ frames := 2, cells := 2, slots := 20, locals := 40 } : Room)) (fun a U => a = #[(.ref a1), (.ref a2), (.ref a3), .null] ∧ Z.Warmed39 U.vm ∧ U.heap = h0) (fun _ _ _ _ _ => True) (fun _ U o U' => ∃ vr Lr, o = .returned vr ∧ Q3 Z a1 .null h0 n0 vr U'.heap Lr ∧ ReturnedEndW U o U' Lr 2 20) := by
  refine MetFree.of_bodySF (plainFor_of_name own_pn3) hisR ?_
  intro p e s m args below meth c s₁ Bd hml0 hP hK
  obtain ⟨rfl, hZ, hh⟩ := hP
  have hx := Bd.exec
  have hby := Bd.bytes
  have hml : c.maxLocals = 4 := hml0
  have hown : s.vm.findClass "spinecode/identifier/Judgement" = some m.cls := findClass_of_methodNamed Bd.named
  have hnm := (name_of_methodNamed Bd.named Bd.method).1
  have hlk : meth.locks = false := Bd.notSynchronized
  have hrt := Bd.returns
  have X0 : Stand p l e ({ frames := 2, cells := 2, slots := 20, locals := 40 } : Room) s m #[(.ref a1), (.ref a2), (.ref a3), .null] below meth c s₁ [] 0 0 := Stand.of_body Bd
  have e0 : s₁.heap = h0 := by rw [← hh, Bd.state]; rfl
  have N0 := Fr.nil n0
  have hS0 : Sn s s s.heap.size := Sn.start s _
  have HK0 : s.heap.size ≤ h0.size := by rw [hh]; exact Nat.le_refl _
  show DoneW p e s below 2 20 (Q3 Z a1 .null h0 n0) s₁ (entryFrame m #[(.ref a1), (.ref a2), (.ref a3), .null] 4)
  rw [ef_rm3V]
  show DoneW p e s below _ _ _ s₁ (mkF m 0 #[.val (.ref a1), .val (.ref a2), .val (.ref a3), .val .null] [])
  refine DoneW.go (fun _ kt_ => XS.aloadN X0.here hx rfl (hb hby d3_0) rfl rfl kt_) ?_
  show DoneW p e s below _ _ _ s₁ (mkF m 1 #[.val (.ref a1), .val (.ref a2), .val (.ref a3), .val .null] [(.ref a1)])
  obtain ⟨v11, T11, Lc11, X11, hQ11, st11⟩ := own_backV (X0.specialBack hx (y := (⟨"java/lang/Record", "<init>", "()V"⟩ : MethodName)) rfl hown (mvT hZ (hw _ (List.mem_of_getElem? (i := 29) rfl))) (mvT hZ (hw _ (List.mem_of_getElem? (i := 30) rfl))) (mvT hZ (hw _ (List.mem_of_getElem? (i := 33) rfl))) (by decide) (backOf (W := 0)  (rm4 l Z a0 hw [] a1 h0 n0 Z0) hZ (hw _ (List.mem_of_getElem? (i := 33) rfl)) (hw _ (List.mem_of_getElem? (i := 32) rfl)) (by decide) (by decide)) (g := (mkF m 1 #[.val (.ref a1), .val (.ref a2), .val (.ref a3), .val .null] [(.ref a1)])) rfl (by rw [hml]; rfl) (Steps.refl _) (a := a1) (argsL := []) (rest := []) (lenOf own_pd0 rfl) rfl (by show 2 * 0 + _ ≤ _; exact Nat.le_of_eq rfl) (hb hby d3_1) (fun _ _ => ⟨rfl, e0, (by first | decide | omega : 0 + 0 ≤ _), (by first | decide | omega : 0 + 0 ≤ _)⟩))
  obtain ⟨rfl, N11q, e11⟩ := hQ11
  refine DoneW.go st11 ?_
  clear st11
  have N11 := Fr.app N0 N11q
  clear N11q
  obtain ⟨Lh11, X11h, N11h⟩ : ∃ L, Stand p l e ({ frames := 2, cells := 2, slots := 20, locals := 40 } : Room) s m #[(.ref a1), (.ref a2), (.ref a3), .null] below meth c T11 L 0 0 ∧ Fr n0 L := ⟨_, X11, N11⟩
  clear X11 N11
  show DoneW p e s below _ _ _ T11 (mkF m 4 #[.val (.ref a1), .val (.ref a2), .val (.ref a3), .val .null] [])
  refine DoneW.go (fun _ kt_ => XS.aloadN X11h.here hx rfl (hb hby d3_4) rfl rfl kt_) ?_
  show DoneW p e s below _ _ _ T11 (mkF m 5 #[.val (.ref a1), .val (.ref a2), .val (.ref a3), .val .null] [(.ref a2)])
  obtain ⟨sa12, T12, h12, bs12, kk12, X12, e12, E12, hS12, HK12, hZ, hown, st12⟩ := own_ldcS X11h hx hZ hown (hw _ (List.mem_of_getElem? (i := 37) rfl)) (own_wS hw) e11 hS0 HK0 (g := (mkF m 5 #[.val (.ref a1), .val (.ref a2), .val (.ref a3), .val .null] [(.ref a2)])) rfl (hb hby d3_5) (n := 16) (by decide) (by decide) (by decide) (by decide)
  have Z12 : n0 ≤ h12.size := Nat.le_trans Z0 E12.1
  have K12 : Keep h0 h12 [a1] := (Keep.refl h0 [a1]).ext E12
  obtain ⟨Lh12, X12h, N12h⟩ : ∃ L, Stand p l e ({ frames := 2, cells := 2, slots := 20, locals := 40 } : Room) bs12 m #[(.ref a1), (.ref a2), (.ref a3), .null] below meth c T12 L 2 20 ∧ Fr n0 L := ⟨_, X12, N11h⟩
  clear X12 N11h X11h e11
  refine DoneW.go st12 ?_
  clear st12
  show DoneW p e s below _ _ _ T12 (mkF m 7 #[.val (.ref a1), .val (.ref a2), .val (.ref a3), .val .null] [(.ref sa12), (.ref a2)])
  obtain ⟨v13, T13, Lc13, X13, hQ13, st13⟩ := own_backG (Jvm.LawKit.callS X12h hx (y := (⟨"java/util/Objects", "requireNonNull", "(Ljava/lang/Object;Ljava/lang/String;)Ljava/lang/Object;"⟩ : MethodName)) hown (mvT hZ (hw _ (List.mem_of_getElem? (i := 38) rfl))) (mvT hZ (hw _ (List.mem_of_getElem? (i := 39) rfl))) (mvT hZ (hw _ (List.mem_of_getElem? (i := 40) rfl))) (mvT hZ (hw _ (List.mem_of_getElem? (i := 41) rfl))) (by decide) (backOf (W := 0)  (rm6 l Z a0 hw [] a2 sa12 h12 n0 Z12) hZ (hw _ (List.mem_of_getElem? (i := 41) rfl)) (hw _ (List.mem_of_getElem? (i := 40) rfl)) (by decide) (by decide)) (g := (mkF m 7 #[.val (.ref a1), .val (.ref a2), .val (.ref a3), .val .null] [(.ref sa12), (.ref a2)])) rfl (by rw [hml]; rfl) (argsL := [(.ref a2), (.ref sa12)]) (rest := []) (lenOf own_pd1 rfl) rfl (by show 2 * 0 + _ ≤ _; exact Nat.le_of_eq rfl) (hb hby d3_7) (fun _ _ => ⟨rfl, e12, (by first | decide | omega : 2 + 0 ≤ _), (by first | decide | omega : 20 + 0 ≤ _)⟩))
  obtain ⟨rfl, N13q, e13⟩ := hQ13
  refine DoneW.go st13 ?_
  clear st13
  have N13 := Fr.app N12h N13q
  clear N13q
  obtain ⟨Lh13, X13h, N13h⟩ : ∃ L, Stand p l e ({ frames := 2, cells := 2, slots := 20, locals := 40 } : Room) bs12 m #[(.ref a1), (.ref a2), (.ref a3), .null] below meth c T13 L 2 20 ∧ Fr n0 L := ⟨_, X13, N13⟩
  clear X13 N13 X12h e12 N12h
  show DoneW p e s below _ _ _ T13 (mkF m 10 #[.val (.ref a1), .val (.ref a2), .val (.ref a3), .val .null] [(.ref a2)])
  refine DoneW.go (fun _ kt_ => XS.pop X13h.here hx rfl (hb hby d3_10) rfl rfl kt_) ?_
  show DoneW p e s below _ _ _ T13 (mkF m 11 #[.val (.ref a1), .val (.ref a2), .val (.ref a3), .val .null] [])
  refine DoneW.go (fun _ kt_ => XS.aloadN X13h.here hx rfl (hb hby d3_11) rfl rfl kt_) ?_
  show DoneW p e s below _ _ _ T13 (mkF m 12 #[.val (.ref a1), .val (.ref a2), .val (.ref a3), .val .null] [(.ref a3)])
  refine DoneW.go (fun _ kt_ => XS.ifnonnullYes X13h.here hx rfl (pc0 := 12) (pc' := 19) rfl (hb hby d3_12) rfl (by decide) (by decide) kt_) ?_
  show DoneW p e s below _ _ _ T13 (mkF m 19 #[.val (.ref a1), .val (.ref a2), .val (.ref a3), .val .null] [])
  refine DoneW.go (fun _ kt_ => XS.iconst X13h.here hx rfl (hb hby d3_19) kt_) ?_
  show DoneW p e s below _ _ _ T13 (mkF m 20 #[.val (.ref a1), .val (.ref a2), .val (.ref a3), .val .null] [(.int (0 : Int32))])
  refine DoneW.go (fun _ kt_ => XS.aloadN X13h.here hx rfl (hb hby d3_20) rfl rfl kt_) ?_
  show DoneW p e s below _ _ _ T13 (mkF m 21 #[.val (.ref a1), .val (.ref a2), .val (.ref a3), .val .null] [.null, (.int (0 : Int32))])
  refine DoneW.go (fun _ kt_ => XS.ifnonnullNo X13h.here hx rfl (hb hby d3_21) rfl kt_) ?_
  show DoneW p e s below _ _ _ T13 (mkF m 24 #[.val (.ref a1), .val (.ref a2), .val (.ref a3), .val .null] [(.int (0 : Int32))])
  refine DoneW.go (fun _ kt_ => XS.iconst X13h.here hx rfl (hb hby d3_24) kt_) ?_
  show DoneW p e s below _ _ _ T13 (mkF m 25 #[.val (.ref a1), .val (.ref a2), .val (.ref a3), .val .null] [(.int (1 : Int32)), (.int (0 : Int32))])
  refine DoneW.go (fun _ kt_ => XS.goto X13h.here hx rfl (pc0 := 25) (pc' := 29) rfl (hb hby d3_25) (by decide) (by decide) kt_) ?_
  show DoneW p e s below _ _ _ T13 (mkF m 29 #[.val (.ref a1), .val (.ref a2), .val (.ref a3), .val .null] [(.int (1 : Int32)), (.int (0 : Int32))])
  refine DoneW.go (fun _ kt_ => XS.icmpYes X13h.here hx rfl (pc0 := 29) (pc' := 42) rfl (hb hby d3_29) rfl (feq (by decide)).2 (by decide) (by decide) kt_) ?_
  show DoneW p e s below _ _ _ T13 (mkF m 42 #[.val (.ref a1), .val (.ref a2), .val (.ref a3), .val .null] [])
  refine DoneW.go (fun _ kt_ => XS.aloadN X13h.here hx rfl (hb hby d3_42) rfl rfl kt_) ?_
  show DoneW p e s below _ _ _ T13 (mkF m 43 #[.val (.ref a1), .val (.ref a2), .val (.ref a3), .val .null] [(.ref a1)])
  refine DoneW.go (fun _ kt_ => XS.aloadN X13h.here hx rfl (hb hby d3_43) rfl rfl kt_) ?_
  show DoneW p e s below _ _ _ T13 (mkF m 44 #[.val (.ref a1), .val (.ref a2), .val (.ref a3), .val .null] [(.ref a2), (.ref a1)])
  have f14 := (E1.ext E12)
  have f15 := (F_kind.ext E12)
  obtain ⟨T16, h16, X16, e16, W16, st16⟩ := putF X13h hx hZ hown (host := "") (Or.inl (hw _ (List.mem_of_getElem? (i := 42) rfl))) Via.refl e13 f15 f14 (Or.inr ⟨(hw _ (List.mem_of_getElem? (i := 43) rfl)), rfl, hnm⟩) (hw _ (List.mem_of_getElem? (i := 24) rfl)) (ty := (.object "spinecode/identifier/Kind")) (by decide) rfl rfl (g := (mkF m 44 #[.val (.ref a1), .val (.ref a2), .val (.ref a3), .val .null] [(.ref a2), (.ref a1)])) rfl rfl (hb hby d3_44)
  have Fw16 : Fld Z h16 a1 "spinecode/identifier/Judgement" "kind" "Lspinecode/identifier/Kind;" (.ref a2) := f15.same W16
  have N16 := Fr.snoc X16 N13h g1
  have Z16 : n0 ≤ h16.size := by rw [W16.size]; exact Z12
  have HK16 := Nat.le_trans HK12 (Nat.le_of_eq W16.size.symm)
  have K16 : Keep h0 h16 [a1] := K12.wr W16 (Or.inl (List.mem_of_getElem? (i := 0) rfl))
  obtain ⟨Lh16, X16h, N16h⟩ : ∃ L, Stand p l e ({ frames := 2, cells := 2, slots := 20, locals := 40 } : Room) bs12 m #[(.ref a1), (.ref a2), (.ref a3), .null] below meth c T16 L 2 20 ∧ Fr n0 L := ⟨_, X16, N16⟩
  clear X16 N16 X13h e13 N13h Z12 K12
  refine DoneW.go st16 ?_
  clear st16
  show DoneW p e s below _ _ _ T16 (mkF m 47 #[.val (.ref a1), .val (.ref a2), .val (.ref a3), .val .null] [])
  refine DoneW.go (fun _ kt_ => XS.aloadN X16h.here hx rfl (hb hby d3_47) rfl rfl kt_) ?_
  show DoneW p e s below _ _ _ T16 (mkF m 48 #[.val (.ref a1), .val (.ref a2), .val (.ref a3), .val .null] [(.ref a1)])
  refine DoneW.go (fun _ kt_ => XS.aloadN X16h.here hx rfl (hb hby d3_48) rfl rfl kt_) ?_
  show DoneW p e s below _ _ _ T16 (mkF m 49 #[.val (.ref a1), .val (.ref a2), .val (.ref a3), .val .null] [(.ref a3), (.ref a1)])
  have f17 := (f14.wr W16)
  have f18 := ((F_normalForm.ext E12).other W16 (Or.inr (slot_ne (Or.inr (hw _ (List.mem_of_getElem? (i := 45) rfl))) (Or.inr (hw _ (List.mem_of_getElem? (i := 43) rfl))) (by decide) (t := (.object "java/lang/String")) (t' := (.object "spinecode/identifier/Kind")) (by decide) (by decide))))
  obtain ⟨T19, h19, X19, e19, W19, st19⟩ := putF X16h hx hZ hown (host := "") (Or.inl (hw _ (List.mem_of_getElem? (i := 44) rfl))) Via.refl e16 f18 f17 (Or.inr ⟨(hw _ (List.mem_of_getElem? (i := 45) rfl)), rfl, hnm⟩) (hw _ (List.mem_of_getElem? (i := 24) rfl)) (ty := (.object "java/lang/String")) (by decide) rfl rfl (g := (mkF m 49 #[.val (.ref a1), .val (.ref a2), .val (.ref a3), .val .null] [(.ref a3), (.ref a1)])) rfl rfl (hb hby d3_49)
  have Fw19 : Fld Z h19 a1 "spinecode/identifier/Judgement" "normalForm" "Ljava/lang/String;" (.ref a3) := f18.same W19
  have N19 := Fr.snoc X19 N16h g1
  have Z19 : n0 ≤ h19.size := by rw [W19.size]; exact Z16
  have HK19 := Nat.le_trans HK16 (Nat.le_of_eq W19.size.symm)
  have K19 : Keep h0 h19 [a1] := K16.wr W19 (Or.inl (List.mem_of_getElem? (i := 0) rfl))
  obtain ⟨Lh19, X19h, N19h⟩ : ∃ L, Stand p l e ({ frames := 2, cells := 2, slots := 20, locals := 40 } : Room) bs12 m #[(.ref a1), (.ref a2), (.ref a3), .null] below meth c T19 L 2 20 ∧ Fr n0 L := ⟨_, X19, N19⟩
  clear X19 N19 X16h e16 N16h Z16 K16
  refine DoneW.go st19 ?_
  clear st19
  show DoneW p e s below _ _ _ T19 (mkF m 52 #[.val (.ref a1), .val (.ref a2), .val (.ref a3), .val .null] [])
  refine DoneW.go (fun _ kt_ => XS.aloadN X19h.here hx rfl (hb hby d3_52) rfl rfl kt_) ?_
  show DoneW p e s below _ _ _ T19 (mkF m 53 #[.val (.ref a1), .val (.ref a2), .val (.ref a3), .val .null] [(.ref a1)])
  refine DoneW.go (fun _ kt_ => XS.aloadN X19h.here hx rfl (hb hby d3_53) rfl rfl kt_) ?_
  show DoneW p e s below _ _ _ T19 (mkF m 54 #[.val (.ref a1), .val (.ref a2), .val (.ref a3), .val .null] [.null, (.ref a1)])
  have f20 := (f17.wr W19)
  have f21 := (((F_reason.ext E12).other W16 (Or.inr (slot_ne (Or.inr (hw _ (List.mem_of_getElem? (i := 47) rfl))) (Or.inr (hw _ (List.mem_of_getElem? (i := 43) rfl))) (by decide) (t := (.object "spinecode/identifier/Reason")) (t' := (.object "spinecode/identifier/Kind")) (by decide) (by decide)))).other W19 (Or.inr (slot_ne (Or.inr (hw _ (List.mem_of_getElem? (i := 47) rfl))) (Or.inr (hw _ (List.mem_of_getElem? (i := 45) rfl))) (by decide) (t := (.object "spinecode/identifier/Reason")) (t' := (.object "java/lang/String")) (by decide) (by decide))))
  obtain ⟨T22, h22, X22, e22, W22, st22⟩ := putF X19h hx hZ hown (host := "") (Or.inl (hw _ (List.mem_of_getElem? (i := 46) rfl))) Via.refl e19 f21 f20 (Or.inr ⟨(hw _ (List.mem_of_getElem? (i := 47) rfl)), rfl, hnm⟩) (hw _ (List.mem_of_getElem? (i := 24) rfl)) (ty := (.object "spinecode/identifier/Reason")) (by decide) rfl rfl (g := (mkF m 54 #[.val (.ref a1), .val (.ref a2), .val (.ref a3), .val .null] [.null, (.ref a1)])) rfl rfl (hb hby d3_54)
  have Fw22 : Fld Z h22 a1 "spinecode/identifier/Judgement" "reason" "Lspinecode/identifier/Reason;" .null := f21.same W22
  have N22 := Fr.snoc X22 N19h g1
  have Z22 : n0 ≤ h22.size := by rw [W22.size]; exact Z19
  have HK22 := Nat.le_trans HK19 (Nat.le_of_eq W22.size.symm)
  have K22 : Keep h0 h22 [a1] := K19.wr W22 (Or.inl (List.mem_of_getElem? (i := 0) rfl))
  obtain ⟨Lh22, X22h, N22h⟩ : ∃ L, Stand p l e ({ frames := 2, cells := 2, slots := 20, locals := 40 } : Room) bs12 m #[(.ref a1), (.ref a2), (.ref a3), .null] below meth c T22 L 2 20 ∧ Fr n0 L := ⟨_, X22, N22⟩
  clear X22 N22 X19h e19 N19h Z19 K19
  refine DoneW.go st22 ?_
  clear st22
  show DoneW p e s below _ _ _ T22 (mkF m 57 #[.val (.ref a1), .val (.ref a2), .val (.ref a3), .val .null] [])
  refine DoneW.retV X22h hx ⟨hlk, _, hS12, (by rw [e22]; exact HK22)⟩ hrt (hb hby d3_57) ?_ (by first | decide | omega) (by first | decide | omega)
  rw [e22]
  have f23 := (f20.wr W22)
  exact ⟨rfl, N22h, K22.1, f23, Fw22⟩
theorem ef_rm3N (m : MethodId) (a1 : Addr) (a2 : Addr) (a4 : Addr) : entryFrame m #[(.ref a1), (.ref a2), .null, (.ref a4)] 4 = mkF m 0 #[.val (.ref a1), .val (.ref a2), .val .null, .val (.ref a4)] [] := by first | (simp [entryFrame, mkF, argsToLocals, Value.category]; done) | rfl
set_option maxRecDepth 65536 in
set_option maxHeartbeats 40000000 in
theorem rm3N (l : Launch) (Z : State) (a0 : Array Value) (hw : ∀ d ∈ tables_1, d.before a0 Z = true) (ws : List Jvm.Cond) (a1 : Addr) (a2 : Addr) (a4 : Addr) (h0 : Heap) (n0 : Nat) (Z0 : n0 ≤ h0.size) (E1 : Exa Z h0 a1 "spinecode/identifier/Judgement") (g1 : n0 ≤ a1) (F_kind : Fld Z h0 a1 "spinecode/identifier/Judgement" "kind" "Lspinecode/identifier/Kind;" .null) (F_normalForm : Fld Z h0 a1 "spinecode/identifier/Judgement" "normalForm" "Ljava/lang/String;" .null) (F_reason : Fld Z h0 a1 "spinecode/identifier/Judgement" "reason" "Lspinecode/identifier/Reason;" .null) :
    MetFree l (⟨"spinecode/identifier/Judgement", "<init>", "(Lspinecode/identifier/Kind;Ljava/lang/String;Lspinecode/identifier/Reason;)V"⟩ : MethodName) (head1 (Jvm.Cond.code (⟨"spinecode/identifier/Judgement", "<init>", "(Lspinecode/identifier/Kind;Ljava/lang/String;Lspinecode/identifier/Reason;)V"⟩ : MethodName) prog_8_method_1_code 4 none :: ws) ({ frames := 2, cells := 2, slots := 20, locals := 40 } : Room)) (fun a U => a = #[(.ref a1), (.ref a2), .null, (.ref a4)] ∧ Z.Warmed39 U.vm ∧ U.heap = h0) (fun _ _ _ _ _ => True) (fun _ U o U' => ∃ vr Lr, o = .returned vr ∧ Q3 Z a1 (.ref a4) h0 n0 vr U'.heap Lr ∧ ReturnedEndW U o U' Lr 2 20) := by
  refine MetFree.of_bodySF (plainFor_of_name own_pn3) hisR ?_
  intro p e s m args below meth c s₁ Bd hml0 hP hK
  obtain ⟨rfl, hZ, hh⟩ := hP
  have hx := Bd.exec
  have hby := Bd.bytes
  have hml : c.maxLocals = 4 := hml0
  have hown : s.vm.findClass "spinecode/identifier/Judgement" = some m.cls := findClass_of_methodNamed Bd.named
  have hnm := (name_of_methodNamed Bd.named Bd.method).1
  have hlk : meth.locks = false := Bd.notSynchronized
  have hrt := Bd.returns
  have X0 : Stand p l e ({ frames := 2, cells := 2, slots := 20, locals := 40 } : Room) s m #[(.ref a1), (.ref a2), .null, (.ref a4)] below meth c s₁ [] 0 0 := Stand.of_body Bd
  have e0 : s₁.heap = h0 := by rw [← hh, Bd.state]; rfl
  have N0 := Fr.nil n0
  have hS0 : Sn s s s.heap.size := Sn.start s _
  have HK0 : s.heap.size ≤ h0.size := by rw [hh]; exact Nat.le_refl _
  show DoneW p e s below 2 20 (Q3 Z a1 (.ref a4) h0 n0) s₁ (entryFrame m #[(.ref a1), (.ref a2), .null, (.ref a4)] 4)
  rw [ef_rm3N]
  show DoneW p e s below _ _ _ s₁ (mkF m 0 #[.val (.ref a1), .val (.ref a2), .val .null, .val (.ref a4)] [])
  refine DoneW.go (fun _ kt_ => XS.aloadN X0.here hx rfl (hb hby d3_0) rfl rfl kt_) ?_
  show DoneW p e s below _ _ _ s₁ (mkF m 1 #[.val (.ref a1), .val (.ref a2), .val .null, .val (.ref a4)] [(.ref a1)])
  obtain ⟨v24, T24, Lc24, X24, hQ24, st24⟩ := own_backV (X0.specialBack hx (y := (⟨"java/lang/Record", "<init>", "()V"⟩ : MethodName)) rfl hown (mvT hZ (hw _ (List.mem_of_getElem? (i := 29) rfl))) (mvT hZ (hw _ (List.mem_of_getElem? (i := 30) rfl))) (mvT hZ (hw _ (List.mem_of_getElem? (i := 33) rfl))) (by decide) (backOf (W := 0)  (rm4 l Z a0 hw [] a1 h0 n0 Z0) hZ (hw _ (List.mem_of_getElem? (i := 33) rfl)) (hw _ (List.mem_of_getElem? (i := 32) rfl)) (by decide) (by decide)) (g := (mkF m 1 #[.val (.ref a1), .val (.ref a2), .val .null, .val (.ref a4)] [(.ref a1)])) rfl (by rw [hml]; rfl) (Steps.refl _) (a := a1) (argsL := []) (rest := []) (lenOf own_pd0 rfl) rfl (by show 2 * 0 + _ ≤ _; exact Nat.le_of_eq rfl) (hb hby d3_1) (fun _ _ => ⟨rfl, e0, (by first | decide | omega : 0 + 0 ≤ _), (by first | decide | omega : 0 + 0 ≤ _)⟩))
  obtain ⟨rfl, N24q, e24⟩ := hQ24
  refine DoneW.go st24 ?_
  clear st24
  have N24 := Fr.app N0 N24q
  clear N24q
  obtain ⟨Lh24, X24h, N24h⟩ : ∃ L, Stand p l e ({ frames := 2, cells := 2, slots := 20, locals := 40 } : Room) s m #[(.ref a1), (.ref a2), .null, (.ref a4)] below meth c T24 L 0 0 ∧ Fr n0 L := ⟨_, X24, N24⟩
  clear X24 N24
  show DoneW p e s below _ _ _ T24 (mkF m 4 #[.val (.ref a1), .val (.ref a2), .val .null, .val (.ref a4)] [])
  refine DoneW.go (fun _ kt_ => XS.aloadN X24h.here hx rfl (hb hby d3_4) rfl rfl kt_) ?_
  show DoneW p e s below _ _ _ T24 (mkF m 5 #[.val (.ref a1), .val (.ref a2), .val .null, .val (.ref a4)] [(.ref a2)])
  obtain ⟨sa25, T25, h25, bs25, kk25, X25, e25, E25, hS25, HK25, hZ, hown, st25⟩ := own_ldcS X24h hx hZ hown (hw _ (List.mem_of_getElem? (i := 37) rfl)) (own_wS hw) e24 hS0 HK0 (g := (mkF m 5 #[.val (.ref a1), .val (.ref a2), .val .null, .val (.ref a4)] [(.ref a2)])) rfl (hb hby d3_5) (n := 16) (by decide) (by decide) (by decide) (by decide)
  have Z25 : n0 ≤ h25.size := Nat.le_trans Z0 E25.1
  have K25 : Keep h0 h25 [a1] := (Keep.refl h0 [a1]).ext E25
  obtain ⟨Lh25, X25h, N25h⟩ : ∃ L, Stand p l e ({ frames := 2, cells := 2, slots := 20, locals := 40 } : Room) bs25 m #[(.ref a1), (.ref a2), .null, (.ref a4)] below meth c T25 L 2 20 ∧ Fr n0 L := ⟨_, X25, N24h⟩
  clear X25 N24h X24h e24
  refine DoneW.go st25 ?_
  clear st25
  show DoneW p e s below _ _ _ T25 (mkF m 7 #[.val (.ref a1), .val (.ref a2), .val .null, .val (.ref a4)] [(.ref sa25), (.ref a2)])
  obtain ⟨v26, T26, Lc26, X26, hQ26, st26⟩ := own_backG (Jvm.LawKit.callS X25h hx (y := (⟨"java/util/Objects", "requireNonNull", "(Ljava/lang/Object;Ljava/lang/String;)Ljava/lang/Object;"⟩ : MethodName)) hown (mvT hZ (hw _ (List.mem_of_getElem? (i := 38) rfl))) (mvT hZ (hw _ (List.mem_of_getElem? (i := 39) rfl))) (mvT hZ (hw _ (List.mem_of_getElem? (i := 40) rfl))) (mvT hZ (hw _ (List.mem_of_getElem? (i := 41) rfl))) (by decide) (backOf (W := 0)  (rm6 l Z a0 hw [] a2 sa25 h25 n0 Z25) hZ (hw _ (List.mem_of_getElem? (i := 41) rfl)) (hw _ (List.mem_of_getElem? (i := 40) rfl)) (by decide) (by decide)) (g := (mkF m 7 #[.val (.ref a1), .val (.ref a2), .val .null, .val (.ref a4)] [(.ref sa25), (.ref a2)])) rfl (by rw [hml]; rfl) (argsL := [(.ref a2), (.ref sa25)]) (rest := []) (lenOf own_pd1 rfl) rfl (by show 2 * 0 + _ ≤ _; exact Nat.le_of_eq rfl) (hb hby d3_7) (fun _ _ => ⟨rfl, e25, (by first | decide | omega : 2 + 0 ≤ _), (by first | decide | omega : 20 + 0 ≤ _)⟩))
  obtain ⟨rfl, N26q, e26⟩ := hQ26
  refine DoneW.go st26 ?_
  clear st26
  have N26 := Fr.app N25h N26q
  clear N26q
  obtain ⟨Lh26, X26h, N26h⟩ : ∃ L, Stand p l e ({ frames := 2, cells := 2, slots := 20, locals := 40 } : Room) bs25 m #[(.ref a1), (.ref a2), .null, (.ref a4)] below meth c T26 L 2 20 ∧ Fr n0 L := ⟨_, X26, N26⟩
  clear X26 N26 X25h e25 N25h
  show DoneW p e s below _ _ _ T26 (mkF m 10 #[.val (.ref a1), .val (.ref a2), .val .null, .val (.ref a4)] [(.ref a2)])
  refine DoneW.go (fun _ kt_ => XS.pop X26h.here hx rfl (hb hby d3_10) rfl rfl kt_) ?_
  show DoneW p e s below _ _ _ T26 (mkF m 11 #[.val (.ref a1), .val (.ref a2), .val .null, .val (.ref a4)] [])
  refine DoneW.go (fun _ kt_ => XS.aloadN X26h.here hx rfl (hb hby d3_11) rfl rfl kt_) ?_
  show DoneW p e s below _ _ _ T26 (mkF m 12 #[.val (.ref a1), .val (.ref a2), .val .null, .val (.ref a4)] [.null])
  refine DoneW.go (fun _ kt_ => XS.ifnonnullNo X26h.here hx rfl (hb hby d3_12) rfl kt_) ?_
  show DoneW p e s below _ _ _ T26 (mkF m 15 #[.val (.ref a1), .val (.ref a2), .val .null, .val (.ref a4)] [])
  refine DoneW.go (fun _ kt_ => XS.iconst X26h.here hx rfl (hb hby d3_15) kt_) ?_
  show DoneW p e s below _ _ _ T26 (mkF m 16 #[.val (.ref a1), .val (.ref a2), .val .null, .val (.ref a4)] [(.int (1 : Int32))])
  refine DoneW.go (fun _ kt_ => XS.goto X26h.here hx rfl (pc0 := 16) (pc' := 20) rfl (hb hby d3_16) (by decide) (by decide) kt_) ?_
  show DoneW p e s below _ _ _ T26 (mkF m 20 #[.val (.ref a1), .val (.ref a2), .val .null, .val (.ref a4)] [(.int (1 : Int32))])
  refine DoneW.go (fun _ kt_ => XS.aloadN X26h.here hx rfl (hb hby d3_20) rfl rfl kt_) ?_
  show DoneW p e s below _ _ _ T26 (mkF m 21 #[.val (.ref a1), .val (.ref a2), .val .null, .val (.ref a4)] [(.ref a4), (.int (1 : Int32))])
  refine DoneW.go (fun _ kt_ => XS.ifnonnullYes X26h.here hx rfl (pc0 := 21) (pc' := 28) rfl (hb hby d3_21) rfl (by decide) (by decide) kt_) ?_
  show DoneW p e s below _ _ _ T26 (mkF m 28 #[.val (.ref a1), .val (.ref a2), .val .null, .val (.ref a4)] [(.int (1 : Int32))])
  refine DoneW.go (fun _ kt_ => XS.iconst X26h.here hx rfl (hb hby d3_28) kt_) ?_
  show DoneW p e s below _ _ _ T26 (mkF m 29 #[.val (.ref a1), .val (.ref a2), .val .null, .val (.ref a4)] [(.int (0 : Int32)), (.int (1 : Int32))])
  refine DoneW.go (fun _ kt_ => XS.icmpYes X26h.here hx rfl (pc0 := 29) (pc' := 42) rfl (hb hby d3_29) rfl (feq (by decide)).2 (by decide) (by decide) kt_) ?_
  show DoneW p e s below _ _ _ T26 (mkF m 42 #[.val (.ref a1), .val (.ref a2), .val .null, .val (.ref a4)] [])
  refine DoneW.go (fun _ kt_ => XS.aloadN X26h.here hx rfl (hb hby d3_42) rfl rfl kt_) ?_
  show DoneW p e s below _ _ _ T26 (mkF m 43 #[.val (.ref a1), .val (.ref a2), .val .null, .val (.ref a4)] [(.ref a1)])
  refine DoneW.go (fun _ kt_ => XS.aloadN X26h.here hx rfl (hb hby d3_43) rfl rfl kt_) ?_
  show DoneW p e s below _ _ _ T26 (mkF m 44 #[.val (.ref a1), .val (.ref a2), .val .null, .val (.ref a4)] [(.ref a2), (.ref a1)])
  have f27 := (E1.ext E25)
  have f28 := (F_kind.ext E25)
  obtain ⟨T29, h29, X29, e29, W29, st29⟩ := putF X26h hx hZ hown (host := "") (Or.inl (hw _ (List.mem_of_getElem? (i := 42) rfl))) Via.refl e26 f28 f27 (Or.inr ⟨(hw _ (List.mem_of_getElem? (i := 43) rfl)), rfl, hnm⟩) (hw _ (List.mem_of_getElem? (i := 24) rfl)) (ty := (.object "spinecode/identifier/Kind")) (by decide) rfl rfl (g := (mkF m 44 #[.val (.ref a1), .val (.ref a2), .val .null, .val (.ref a4)] [(.ref a2), (.ref a1)])) rfl rfl (hb hby d3_44)
  have Fw29 : Fld Z h29 a1 "spinecode/identifier/Judgement" "kind" "Lspinecode/identifier/Kind;" (.ref a2) := f28.same W29
  have N29 := Fr.snoc X29 N26h g1
  have Z29 : n0 ≤ h29.size := by rw [W29.size]; exact Z25
  have HK29 := Nat.le_trans HK25 (Nat.le_of_eq W29.size.symm)
  have K29 : Keep h0 h29 [a1] := K25.wr W29 (Or.inl (List.mem_of_getElem? (i := 0) rfl))
  obtain ⟨Lh29, X29h, N29h⟩ : ∃ L, Stand p l e ({ frames := 2, cells := 2, slots := 20, locals := 40 } : Room) bs25 m #[(.ref a1), (.ref a2), .null, (.ref a4)] below meth c T29 L 2 20 ∧ Fr n0 L := ⟨_, X29, N29⟩
  clear X29 N29 X26h e26 N26h Z25 K25
  refine DoneW.go st29 ?_
  clear st29
  show DoneW p e s below _ _ _ T29 (mkF m 47 #[.val (.ref a1), .val (.ref a2), .val .null, .val (.ref a4)] [])
  refine DoneW.go (fun _ kt_ => XS.aloadN X29h.here hx rfl (hb hby d3_47) rfl rfl kt_) ?_
  show DoneW p e s below _ _ _ T29 (mkF m 48 #[.val (.ref a1), .val (.ref a2), .val .null, .val (.ref a4)] [(.ref a1)])
  refine DoneW.go (fun _ kt_ => XS.aloadN X29h.here hx rfl (hb hby d3_48) rfl rfl kt_) ?_
  show DoneW p e s below _ _ _ T29 (mkF m 49 #[.val (.ref a1), .val (.ref a2), .val .null, .val (.ref a4)] [.null, (.ref a1)])
  have f30 := (f27.wr W29)
  have f31 := ((F_normalForm.ext E25).other W29 (Or.inr (slot_ne (Or.inr (hw _ (List.mem_of_getElem? (i := 45) rfl))) (Or.inr (hw _ (List.mem_of_getElem? (i := 43) rfl))) (by decide) (t := (.object "java/lang/String")) (t' := (.object "spinecode/identifier/Kind")) (by decide) (by decide))))
  obtain ⟨T32, h32, X32, e32, W32, st32⟩ := putF X29h hx hZ hown (host := "") (Or.inl (hw _ (List.mem_of_getElem? (i := 44) rfl))) Via.refl e29 f31 f30 (Or.inr ⟨(hw _ (List.mem_of_getElem? (i := 45) rfl)), rfl, hnm⟩) (hw _ (List.mem_of_getElem? (i := 24) rfl)) (ty := (.object "java/lang/String")) (by decide) rfl rfl (g := (mkF m 49 #[.val (.ref a1), .val (.ref a2), .val .null, .val (.ref a4)] [.null, (.ref a1)])) rfl rfl (hb hby d3_49)
  have Fw32 : Fld Z h32 a1 "spinecode/identifier/Judgement" "normalForm" "Ljava/lang/String;" .null := f31.same W32
  have N32 := Fr.snoc X32 N29h g1
  have Z32 : n0 ≤ h32.size := by rw [W32.size]; exact Z29
  have HK32 := Nat.le_trans HK29 (Nat.le_of_eq W32.size.symm)
  have K32 : Keep h0 h32 [a1] := K29.wr W32 (Or.inl (List.mem_of_getElem? (i := 0) rfl))
  obtain ⟨Lh32, X32h, N32h⟩ : ∃ L, Stand p l e ({ frames := 2, cells := 2, slots := 20, locals := 40 } : Room) bs25 m #[(.ref a1), (.ref a2), .null, (.ref a4)] below meth c T32 L 2 20 ∧ Fr n0 L := ⟨_, X32, N32⟩
  clear X32 N32 X29h e29 N29h Z29 K29
  refine DoneW.go st32 ?_
  clear st32
  show DoneW p e s below _ _ _ T32 (mkF m 52 #[.val (.ref a1), .val (.ref a2), .val .null, .val (.ref a4)] [])
  refine DoneW.go (fun _ kt_ => XS.aloadN X32h.here hx rfl (hb hby d3_52) rfl rfl kt_) ?_
  show DoneW p e s below _ _ _ T32 (mkF m 53 #[.val (.ref a1), .val (.ref a2), .val .null, .val (.ref a4)] [(.ref a1)])
  refine DoneW.go (fun _ kt_ => XS.aloadN X32h.here hx rfl (hb hby d3_53) rfl rfl kt_) ?_
  show DoneW p e s below _ _ _ T32 (mkF m 54 #[.val (.ref a1), .val (.ref a2), .val .null, .val (.ref a4)] [(.ref a4), (.ref a1)])
  have f33 := (f30.wr W32)
  have f34 := (((F_reason.ext E25).other W29 (Or.inr (slot_ne (Or.inr (hw _ (List.mem_of_getElem? (i := 47) rfl))) (Or.inr (hw _ (List.mem_of_getElem? (i := 43) rfl))) (by decide) (t := (.object "spinecode/identifier/Reason")) (t' := (.object "spinecode/identifier/Kind")) (by decide) (by decide)))).other W32 (Or.inr (slot_ne (Or.inr (hw _ (List.mem_of_getElem? (i := 47) rfl))) (Or.inr (hw _ (List.mem_of_getElem? (i := 45) rfl))) (by decide) (t := (.object "spinecode/identifier/Reason")) (t' := (.object "java/lang/String")) (by decide) (by decide))))
  obtain ⟨T35, h35, X35, e35, W35, st35⟩ := putF X32h hx hZ hown (host := "") (Or.inl (hw _ (List.mem_of_getElem? (i := 46) rfl))) Via.refl e32 f34 f33 (Or.inr ⟨(hw _ (List.mem_of_getElem? (i := 47) rfl)), rfl, hnm⟩) (hw _ (List.mem_of_getElem? (i := 24) rfl)) (ty := (.object "spinecode/identifier/Reason")) (by decide) rfl rfl (g := (mkF m 54 #[.val (.ref a1), .val (.ref a2), .val .null, .val (.ref a4)] [(.ref a4), (.ref a1)])) rfl rfl (hb hby d3_54)
  have Fw35 : Fld Z h35 a1 "spinecode/identifier/Judgement" "reason" "Lspinecode/identifier/Reason;" (.ref a4) := f34.same W35
  have N35 := Fr.snoc X35 N32h g1
  have Z35 : n0 ≤ h35.size := by rw [W35.size]; exact Z32
  have HK35 := Nat.le_trans HK32 (Nat.le_of_eq W35.size.symm)
  have K35 : Keep h0 h35 [a1] := K32.wr W35 (Or.inl (List.mem_of_getElem? (i := 0) rfl))
  obtain ⟨Lh35, X35h, N35h⟩ : ∃ L, Stand p l e ({ frames := 2, cells := 2, slots := 20, locals := 40 } : Room) bs25 m #[(.ref a1), (.ref a2), .null, (.ref a4)] below meth c T35 L 2 20 ∧ Fr n0 L := ⟨_, X35, N35⟩
  clear X35 N35 X32h e32 N32h Z32 K32
  refine DoneW.go st35 ?_
  clear st35
  show DoneW p e s below _ _ _ T35 (mkF m 57 #[.val (.ref a1), .val (.ref a2), .val .null, .val (.ref a4)] [])
  refine DoneW.retV X35h hx ⟨hlk, _, hS25, (by rw [e35]; exact HK35)⟩ hrt (hb hby d3_57) ?_ (by first | decide | omega) (by first | decide | omega)
  rw [e35]
  have f36 := (f33.wr W35)
  exact ⟨rfl, N35h, K35.1, f36, Fw35⟩
def QI (r : Int32) (h0 : Heap) (n0 : Nat) (v : Option Value) (h : Heap) (L : List Loc) : Prop := v = some (.int r) ∧ Fr n0 L ∧ h = h0
theorem d7_0 : decode prog_8_method_4_code 0 = .ok (.aload_n 0, 1) := by decide +kernel
theorem d7_1 : decode prog_8_method_4_code 1 = .ok (.getfield 31, 3) := by decide +kernel
theorem d7_4 : decode prog_8_method_4_code 4 = .ok (.ifnonnull 7, 3) := by decide +kernel
theorem d7_7 : decode prog_8_method_4_code 7 = .ok (.iconst 1, 1) := by decide +kernel
theorem d7_8 : decode prog_8_method_4_code 8 = .ok (.goto 4, 3) := by decide +kernel
theorem d7_11 : decode prog_8_method_4_code 11 = .ok (.iconst 0, 1) := by decide +kernel
theorem d7_12 : decode prog_8_method_4_code 12 = .ok (.ireturn, 1) := by decide +kernel
theorem ef_rm7V (m : MethodId) (a1 : Addr) : entryFrame m #[(.ref a1)] 1 = mkF m 0 #[.val (.ref a1)] [] := by first | (simp [entryFrame, mkF, argsToLocals, Value.category]; done) | rfl
set_option maxRecDepth 65536 in
set_option maxHeartbeats 40000000 in
theorem rm7V (l : Launch) (Z : State) (a0 : Array Value) (hw : ∀ d ∈ tables_1, d.before a0 Z = true) (ws : List Jvm.Cond) (a1 : Addr) (h0 : Heap) (n0 : Nat) (Z0 : n0 ≤ h0.size) (F1 : Fld Z h0 a1 "spinecode/identifier/Judgement" "reason" "Lspinecode/identifier/Reason;" .null) :
    MetFree l (⟨"spinecode/identifier/Judgement", "isValid", "()Z"⟩ : MethodName) (head1 (Jvm.Cond.code (⟨"spinecode/identifier/Judgement", "isValid", "()Z"⟩ : MethodName) prog_8_method_4_code 1 (some .boolean) :: ws) ({ frames := 0, cells := 0, slots := 0, locals := 0 } : Room)) (fun a U => a = #[(.ref a1)] ∧ Z.Warmed39 U.vm ∧ U.heap = h0) (fun _ _ _ _ _ => True) (fun _ U o U' => ∃ vr Lr, o = .returned vr ∧ QI 1 h0 n0 vr U'.heap Lr ∧ FrameEnd U o U' Lr 0 0) := by
  refine MetFree.of_bodySF (plainFor_of_name own_pn3) hisR ?_
  intro p e s m args below meth c s₁ Bd hml0 hP hK
  obtain ⟨rfl, hZ, hh⟩ := hP
  have hx := Bd.exec
  have hby := Bd.bytes
  have hml : c.maxLocals = 1 := hml0
  have hown : s.vm.findClass "spinecode/identifier/Judgement" = some m.cls := findClass_of_methodNamed Bd.named
  have hnm := (name_of_methodNamed Bd.named Bd.method).1
  have hlk : meth.locks = false := Bd.notSynchronized
  have hrt := Bd.returns
  have X0 : Stand p l e ({ frames := 0, cells := 0, slots := 0, locals := 0 } : Room) s m #[(.ref a1)] below meth c s₁ [] 0 0 := Stand.of_body Bd
  have e0 : s₁.heap = h0 := by rw [← hh, Bd.state]; rfl
  have N0 := Fr.nil n0
  show Done p e s below 0 0 (QI 1 h0 n0) s₁ (entryFrame m #[(.ref a1)] 1)
  rw [ef_rm7V]
  show Done p e s below _ _ _ s₁ (mkF m 0 #[.val (.ref a1)] [])
  refine Done.go (fun _ kt_ => XS.aloadN X0.here hx rfl (hb hby d7_0) rfl rfl kt_) ?_
  show Done p e s below _ _ _ s₁ (mkF m 1 #[.val (.ref a1)] [(.ref a1)])
  obtain ⟨T37, X37, e37, st37⟩ := getF X0 hx hZ hown (host := "") (Or.inl (hw _ (List.mem_of_getElem? (i := 46) rfl))) Via.refl e0 F1 (g := (mkF m 1 #[.val (.ref a1)] [(.ref a1)])) rfl rfl (hb hby d7_1)
  refine Done.go st37 ?_
  clear st37
  show Done p e s below _ _ _ T37 (mkF m 4 #[.val (.ref a1)] [.null])
  refine Done.go (fun _ kt_ => XS.ifnonnullNo X37.here hx rfl (hb hby d7_4) rfl kt_) ?_
  show Done p e s below _ _ _ T37 (mkF m 7 #[.val (.ref a1)] [])
  refine Done.go (fun _ kt_ => XS.iconst X37.here hx rfl (hb hby d7_7) kt_) ?_
  show Done p e s below _ _ _ T37 (mkF m 8 #[.val (.ref a1)] [(.int (1 : Int32))])
  refine Done.go (fun _ kt_ => XS.goto X37.here hx rfl (pc0 := 8) (pc' := 12) rfl (hb hby d7_8) (by decide) (by decide) kt_) ?_
  show Done p e s below _ _ _ T37 (mkF m 12 #[.val (.ref a1)] [(.int (1 : Int32))])
  refine Done.retN X37 hx hlk (t := .boolean) hrt (by simp) (z' := (1 : Int32)) rfl (hb hby d7_12) ?_ (by first | decide | omega) (by first | decide | omega)
  rw [e37]
  exact ⟨rfl, N0, rfl⟩
theorem ef_rm7N (m : MethodId) (a1 : Addr) : entryFrame m #[(.ref a1)] 1 = mkF m 0 #[.val (.ref a1)] [] := by first | (simp [entryFrame, mkF, argsToLocals, Value.category]; done) | rfl
set_option maxRecDepth 65536 in
set_option maxHeartbeats 40000000 in
theorem rm7N (l : Launch) (Z : State) (a0 : Array Value) (hw : ∀ d ∈ tables_1, d.before a0 Z = true) (ws : List Jvm.Cond) (a1 : Addr) (a4 : Addr) (h0 : Heap) (n0 : Nat) (Z0 : n0 ≤ h0.size) (F1 : Fld Z h0 a1 "spinecode/identifier/Judgement" "reason" "Lspinecode/identifier/Reason;" (.ref a4)) :
    MetFree l (⟨"spinecode/identifier/Judgement", "isValid", "()Z"⟩ : MethodName) (head1 (Jvm.Cond.code (⟨"spinecode/identifier/Judgement", "isValid", "()Z"⟩ : MethodName) prog_8_method_4_code 1 (some .boolean) :: ws) ({ frames := 0, cells := 0, slots := 0, locals := 0 } : Room)) (fun a U => a = #[(.ref a1)] ∧ Z.Warmed39 U.vm ∧ U.heap = h0) (fun _ _ _ _ _ => True) (fun _ U o U' => ∃ vr Lr, o = .returned vr ∧ QI 0 h0 n0 vr U'.heap Lr ∧ FrameEnd U o U' Lr 0 0) := by
  refine MetFree.of_bodySF (plainFor_of_name own_pn3) hisR ?_
  intro p e s m args below meth c s₁ Bd hml0 hP hK
  obtain ⟨rfl, hZ, hh⟩ := hP
  have hx := Bd.exec
  have hby := Bd.bytes
  have hml : c.maxLocals = 1 := hml0
  have hown : s.vm.findClass "spinecode/identifier/Judgement" = some m.cls := findClass_of_methodNamed Bd.named
  have hnm := (name_of_methodNamed Bd.named Bd.method).1
  have hlk : meth.locks = false := Bd.notSynchronized
  have hrt := Bd.returns
  have X0 : Stand p l e ({ frames := 0, cells := 0, slots := 0, locals := 0 } : Room) s m #[(.ref a1)] below meth c s₁ [] 0 0 := Stand.of_body Bd
  have e0 : s₁.heap = h0 := by rw [← hh, Bd.state]; rfl
  have N0 := Fr.nil n0
  show Done p e s below 0 0 (QI 0 h0 n0) s₁ (entryFrame m #[(.ref a1)] 1)
  rw [ef_rm7N]
  show Done p e s below _ _ _ s₁ (mkF m 0 #[.val (.ref a1)] [])
  refine Done.go (fun _ kt_ => XS.aloadN X0.here hx rfl (hb hby d7_0) rfl rfl kt_) ?_
  show Done p e s below _ _ _ s₁ (mkF m 1 #[.val (.ref a1)] [(.ref a1)])
  obtain ⟨T38, X38, e38, st38⟩ := getF X0 hx hZ hown (host := "") (Or.inl (hw _ (List.mem_of_getElem? (i := 46) rfl))) Via.refl e0 F1 (g := (mkF m 1 #[.val (.ref a1)] [(.ref a1)])) rfl rfl (hb hby d7_1)
  refine Done.go st38 ?_
  clear st38
  show Done p e s below _ _ _ T38 (mkF m 4 #[.val (.ref a1)] [(.ref a4)])
  refine Done.go (fun _ kt_ => XS.ifnonnullYes X38.here hx rfl (pc0 := 4) (pc' := 11) rfl (hb hby d7_4) rfl (by decide) (by decide) kt_) ?_
  show Done p e s below _ _ _ T38 (mkF m 11 #[.val (.ref a1)] [])
  refine Done.go (fun _ kt_ => XS.iconst X38.here hx rfl (hb hby d7_11) kt_) ?_
  show Done p e s below _ _ _ T38 (mkF m 12 #[.val (.ref a1)] [(.int (0 : Int32))])
  refine Done.retN X38 hx hlk (t := .boolean) hrt (by simp) (z' := (0 : Int32)) rfl (hb hby d7_12) ?_ (by first | decide | omega) (by first | decide | omega)
  rw [e38]
  exact ⟨rfl, N0, rfl⟩
def Q0 (n0 : Nat) (v : Option Value) (h : Heap) (L : List Loc) : Prop := v = some (.int 1) ∧ Fr n0 L
theorem ef_rm0 (m : MethodId) (p0 : Int32) (p1 : Int32) (p2 : Int32) (p3 : Int32) : entryFrame m #[(.int p0), (.int p1), (.int p2), (.int p3)] maxLocals = mkF m 0 #[.val (.int p0), .val (.int p1), .val (.int p2), .val (.int p3), .unset, .unset, .unset, .unset, .unset, .unset] [] := by first | (simp [entryFrame, mkF, argsToLocals, Value.category, maxLocals]; done) | rfl
set_option maxRecDepth 65536 in
set_option maxHeartbeats 40000000 in
theorem rm0 (l : Launch) (Z : State) (a0 : Array Value) (hw : ∀ d ∈ tables_1, d.before a0 Z = true) (ws : List Jvm.Cond) (p0 : Int32) (p1 : Int32) (p2 : Int32) (p3 : Int32) (ak0 : Addr) (ak1 : Addr) (ak2 : Addr) (ak3 : Addr) (ar0 : Addr) (ar1 : Addr) (ar2 : Addr) (ar3 : Addr) (ar4 : Addr) (cz : Int32) (h0 : Heap) (n0 : Nat) (Z0 : n0 ≤ h0.size) (Sk0 : Sta Z h0 "spinecode/identifier/Kind" "ISBN" "Lspinecode/identifier/Kind;" (.ref ak0)) (Sk1 : Sta Z h0 "spinecode/identifier/Kind" "ISSN" "Lspinecode/identifier/Kind;" (.ref ak1)) (Sk2 : Sta Z h0 "spinecode/identifier/Kind" "DOI" "Lspinecode/identifier/Kind;" (.ref ak2)) (Sk3 : Sta Z h0 "spinecode/identifier/Kind" "UNKNOWN" "Lspinecode/identifier/Kind;" (.ref ak3)) (Sr0 : Sta Z h0 "spinecode/identifier/Reason" "CHARACTER" "Lspinecode/identifier/Reason;" (.ref ar0)) (Sr1 : Sta Z h0 "spinecode/identifier/Reason" "LENGTH" "Lspinecode/identifier/Reason;" (.ref ar1)) (Sr2 : Sta Z h0 "spinecode/identifier/Reason" "PREFIX" "Lspinecode/identifier/Reason;" (.ref ar2)) (Sr3 : Sta Z h0 "spinecode/identifier/Reason" "CHECK_DIGIT" "Lspinecode/identifier/Reason;" (.ref ar3)) (Sr4 : Sta Z h0 "spinecode/identifier/Reason" "SYNTAX" "Lspinecode/identifier/Reason;" (.ref ar4)) (Sc : Sta Z h0 "java/lang/String" "COMPACT_STRINGS" "Z" (.int cz)) (hcz : ¬ cz = 0) :
    MetFree l x (head1 (Jvm.Cond.code x code maxLocals ret :: ws) room_1) (fun a U => a = #[(.int p0), (.int p1), (.int p2), (.int p3)] ∧ Z.Warmed39 U.vm ∧ U.heap = h0) (fun _ _ _ _ _ => True) (fun _ U o U' => ∃ vr Lr, o = .returned vr ∧ Q0 n0 vr U'.heap Lr ∧ ReturnedEndW U o U' Lr 24 2176) := by
  refine MetFree.of_bodySF (plainFor_of_name own_pn0) hisR ?_
  intro p e s m args below meth c s₁ Bd hml0 hP hK
  obtain ⟨rfl, hZ, hh⟩ := hP
  have hx := Bd.exec
  have hby := Bd.bytes
  have hml : c.maxLocals = 10 := hml0
  have hown : s.vm.findClass "spinecode/identifier/JudgementIsValidPinLaw" = some m.cls := findClass_of_methodNamed Bd.named
  have hnm := (name_of_methodNamed Bd.named Bd.method).1
  have hlk : meth.locks = false := Bd.notSynchronized
  have hrt := Bd.returns
  have X0 : Stand p l e room_1 s m #[(.int p0), (.int p1), (.int p2), (.int p3)] below meth c s₁ [] 0 0 := Stand.of_body Bd
  have e0 : s₁.heap = h0 := by rw [← hh, Bd.state]; rfl
  have N0 := Fr.nil n0
  have hS0 : Sn s s s.heap.size := Sn.start s _
  have HK0 : s.heap.size ≤ h0.size := by rw [hh]; exact Nat.le_refl _
  show DoneW p e s below 24 2176 (Q0 n0) s₁ (entryFrame m #[(.int p0), (.int p1), (.int p2), (.int p3)] maxLocals)
  rw [ef_rm0]
  show DoneW p e s below _ _ _ s₁ (mkF m 0 #[.val (.int p0), .val (.int p1), .val (.int p2), .val (.int p3), .unset, .unset, .unset, .unset, .unset, .unset] [])
  refine DoneW.go (fun _ kt_ => XS.iloadN X0.here hx rfl (hb hby at_0) rfl kt_) ?_
  show DoneW p e s below _ _ _ s₁ (mkF m 1 #[.val (.int p0), .val (.int p1), .val (.int p2), .val (.int p3), .unset, .unset, .unset, .unset, .unset, .unset] [(.int p0)])
  refine DoneW.go (fun _ kt_ => XS.iconst X0.here hx rfl (hb hby at_1) kt_) ?_
  show DoneW p e s below _ _ _ s₁ (mkF m 2 #[.val (.int p0), .val (.int p1), .val (.int p2), .val (.int p3), .unset, .unset, .unset, .unset, .unset, .unset] [(.int (3 : Int32)), (.int p0)])
  refine DoneW.go (fun _ kt_ => XS.iand X0.here hx rfl (hb hby at_2) rfl kt_) ?_
  show DoneW p e s below _ _ _ s₁ (mkF m 3 #[.val (.int p0), .val (.int p1), .val (.int p2), .val (.int p3), .unset, .unset, .unset, .unset, .unset, .unset] [(.int (p0 &&& (3 : Int32)))])
  obtain ⟨v39, T39, Lc39, X39, hQ39, st39⟩ := own_backG (Jvm.LawKit.callS X0 hx (y := (⟨"spinecode/identifier/JudgementIsValidPinLaw", "pickKind", "(I)Lspinecode/identifier/Kind;"⟩ : MethodName)) hown (mvT hZ (hw _ (List.mem_of_getElem? (i := 0) rfl))) (mvT hZ (hw _ (List.mem_of_getElem? (i := 1) rfl))) (mvT hZ (hw _ (List.mem_of_getElem? (i := 2) rfl))) (mvT hZ (hw _ (List.mem_of_getElem? (i := 3) rfl))) (by decide) (backOf (W := 0)  (rm1 l Z a0 hw [] (p0 &&& (3 : Int32)) ak0 ak1 ak2 ak3 h0 n0 Z0 Sk0 Sk1 Sk2 Sk3) hZ (hw _ (List.mem_of_getElem? (i := 3) rfl)) (hw _ (List.mem_of_getElem? (i := 2) rfl)) (by decide) (by decide)) (g := (mkF m 3 #[.val (.int p0), .val (.int p1), .val (.int p2), .val (.int p3), .unset, .unset, .unset, .unset, .unset, .unset] [(.int (p0 &&& (3 : Int32)))])) rfl (by rw [hml]; rfl) (argsL := [(.int (p0 &&& (3 : Int32)))]) (rest := []) (lenOf own_pd2 rfl) rfl (by show 2 * 0 + _ ≤ _; exact Nat.le_of_eq rfl) (hb hby at_3) (fun _ _ => ⟨rfl, e0, (by first | decide | omega : 0 + 0 ≤ _), (by first | decide | omega : 0 + 0 ≤ _)⟩))
  obtain ⟨rk, rfl, N39q, e39⟩ := hQ39
  refine DoneW.go st39 ?_
  clear st39
  have N39 := Fr.app N0 N39q
  clear N39q
  obtain ⟨Lh39, X39h, N39h⟩ : ∃ L, Stand p l e room_1 s m #[(.int p0), (.int p1), (.int p2), (.int p3)] below meth c T39 L 0 0 ∧ Fr n0 L := ⟨_, X39, N39⟩
  clear X39 N39
  show DoneW p e s below _ _ _ T39 (mkF m 6 #[.val (.int p0), .val (.int p1), .val (.int p2), .val (.int p3), .unset, .unset, .unset, .unset, .unset, .unset] [(.ref rk)])
  refine DoneW.go (fun _ kt_ => XS.astore X39h.here hx rfl (hb hby at_6) rfl rfl (l' := #[.val (.int p0), .val (.int p1), .val (.int p2), .val (.int p3), .val (.ref rk), .unset, .unset, .unset, .unset, .unset]) rfl kt_) ?_
  show DoneW p e s below _ _ _ T39 (mkF m 8 #[.val (.int p0), .val (.int p1), .val (.int p2), .val (.int p3), .val (.ref rk), .unset, .unset, .unset, .unset, .unset] [])
  refine DoneW.go (fun _ kt_ => XS.iloadN X39h.here hx rfl (hb hby at_8) rfl kt_) ?_
  show DoneW p e s below _ _ _ T39 (mkF m 9 #[.val (.int p0), .val (.int p1), .val (.int p2), .val (.int p3), .val (.ref rk), .unset, .unset, .unset, .unset, .unset] [(.int p1)])
  refine DoneW.go (fun t_ kt_ => X39h.ldcInt hx hown (mvT hZ (hw _ (List.mem_of_getElem? (i := 7) rfl))) (g := (mkF m 9 #[.val (.int p0), .val (.int p1), .val (.int p2), .val (.int p3), .val (.ref rk), .unset, .unset, .unset, .unset, .unset] [(.int p1)])) rfl (hb hby at_9) t_ kt_) ?_
  show DoneW p e s below _ _ _ T39 (mkF m 11 #[.val (.int p0), .val (.int p1), .val (.int p2), .val (.int p3), .val (.ref rk), .unset, .unset, .unset, .unset, .unset] [(.int (2147483647 : Int32)), (.int p1)])
  refine DoneW.go (fun _ kt_ => XS.iand X39h.here hx rfl (hb hby at_11) rfl kt_) ?_
  show DoneW p e s below _ _ _ T39 (mkF m 12 #[.val (.int p0), .val (.int p1), .val (.int p2), .val (.int p3), .val (.ref rk), .unset, .unset, .unset, .unset, .unset] [(.int (p1 &&& (2147483647 : Int32)))])
  refine DoneW.go (fun _ kt_ => XS.iconst X39h.here hx rfl (hb hby at_12) kt_) ?_
  show DoneW p e s below _ _ _ T39 (mkF m 13 #[.val (.int p0), .val (.int p1), .val (.int p2), .val (.int p3), .val (.ref rk), .unset, .unset, .unset, .unset, .unset] [(.int (5 : Int32)), (.int (p1 &&& (2147483647 : Int32)))])
  refine DoneW.go (fun _ kt_ => XS.irem X39h.here hx rfl (hb hby at_13) rfl (by decide) kt_) ?_
  show DoneW p e s below _ _ _ T39 (mkF m 14 #[.val (.int p0), .val (.int p1), .val (.int p2), .val (.int p3), .val (.ref rk), .unset, .unset, .unset, .unset, .unset] [(.int ((p1 &&& (2147483647 : Int32)) - (((p1 &&& (2147483647 : Int32)) / (5 : Int32)) * (5 : Int32))))])
  generalize h_pr : ((p1 &&& (2147483647 : Int32)) - (((p1 &&& (2147483647 : Int32)) / (5 : Int32)) * (5 : Int32))) = pr
  show DoneW p e s below _ _ _ T39 (mkF m 14 #[.val (.int p0), .val (.int p1), .val (.int p2), .val (.int p3), .val (.ref rk), .unset, .unset, .unset, .unset, .unset] [(.int pr)])
  obtain ⟨v40, T40, Lc40, X40, hQ40, st40⟩ := own_backG (Jvm.LawKit.callS X39h hx (y := (⟨"spinecode/identifier/JudgementIsValidPinLaw", "pickReason", "(I)Lspinecode/identifier/Reason;"⟩ : MethodName)) hown (mvT hZ (hw _ (List.mem_of_getElem? (i := 8) rfl))) (mvT hZ (hw _ (List.mem_of_getElem? (i := 9) rfl))) (mvT hZ (hw _ (List.mem_of_getElem? (i := 2) rfl))) (mvT hZ (hw _ (List.mem_of_getElem? (i := 10) rfl))) (by decide) (backOf (W := 0)  (rm2 l Z a0 hw [] pr ar0 ar1 ar2 ar3 ar4 h0 n0 Z0 Sr0 Sr1 Sr2 Sr3 Sr4) hZ (hw _ (List.mem_of_getElem? (i := 10) rfl)) (hw _ (List.mem_of_getElem? (i := 2) rfl)) (by decide) (by decide)) (g := (mkF m 14 #[.val (.int p0), .val (.int p1), .val (.int p2), .val (.int p3), .val (.ref rk), .unset, .unset, .unset, .unset, .unset] [(.int pr)])) rfl (by rw [hml]; rfl) (argsL := [(.int pr)]) (rest := []) (lenOf own_pd3 rfl) rfl (by show 2 * 0 + _ ≤ _; exact Nat.le_of_eq rfl) (hb hby at_14) (fun _ _ => ⟨rfl, e39, (by first | decide | omega : 0 + 0 ≤ _), (by first | decide | omega : 0 + 0 ≤ _)⟩))
  obtain ⟨rr, rfl, N40q, e40⟩ := hQ40
  refine DoneW.go st40 ?_
  clear st40
  have N40 := Fr.app N39h N40q
  clear N40q
  obtain ⟨Lh40, X40h, N40h⟩ : ∃ L, Stand p l e room_1 s m #[(.int p0), (.int p1), (.int p2), (.int p3)] below meth c T40 L 0 0 ∧ Fr n0 L := ⟨_, X40, N40⟩
  clear X40 N40 X39h e39 N39h
  show DoneW p e s below _ _ _ T40 (mkF m 17 #[.val (.int p0), .val (.int p1), .val (.int p2), .val (.int p3), .val (.ref rk), .unset, .unset, .unset, .unset, .unset] [(.ref rr)])
  refine DoneW.go (fun _ kt_ => XS.astore X40h.here hx rfl (hb hby at_17) rfl rfl (l' := #[.val (.int p0), .val (.int p1), .val (.int p2), .val (.int p3), .val (.ref rk), .val (.ref rr), .unset, .unset, .unset, .unset]) rfl kt_) ?_
  show DoneW p e s below _ _ _ T40 (mkF m 19 #[.val (.int p0), .val (.int p1), .val (.int p2), .val (.int p3), .val (.ref rk), .val (.ref rr), .unset, .unset, .unset, .unset] [])
  refine DoneW.go (fun _ kt_ => XS.iloadN X40h.here hx rfl (hb hby at_19) rfl kt_) ?_
  show DoneW p e s below _ _ _ T40 (mkF m 20 #[.val (.int p0), .val (.int p1), .val (.int p2), .val (.int p3), .val (.ref rk), .val (.ref rr), .unset, .unset, .unset, .unset] [(.int p2)])
  refine DoneW.go (fun _ kt_ => XS.iconst X40h.here hx rfl (hb hby at_20) kt_) ?_
  show DoneW p e s below _ _ _ T40 (mkF m 21 #[.val (.int p0), .val (.int p1), .val (.int p2), .val (.int p3), .val (.ref rk), .val (.ref rr), .unset, .unset, .unset, .unset] [(.int (1 : Int32)), (.int p2)])
  refine DoneW.go (fun _ kt_ => XS.iand X40h.here hx rfl (hb hby at_21) rfl kt_) ?_
  show DoneW p e s below _ _ _ T40 (mkF m 22 #[.val (.int p0), .val (.int p1), .val (.int p2), .val (.int p3), .val (.ref rk), .val (.ref rr), .unset, .unset, .unset, .unset] [(.int (p2 &&& (1 : Int32)))])
  by_cases hc22 : (p2 &&& (1 : Int32)) = (0 : Int32)
  · skip
    refine DoneW.go (fun _ kt_ => XS.ifYes X40h.here hx rfl (pc0 := 22) (pc' := 29) rfl (hb hby at_22) rfl ((if0 _ _).trans (teq hc22).1) (by decide) (by decide) kt_) ?_
    show DoneW p e s below _ _ _ T40 (mkF m 29 #[.val (.int p0), .val (.int p1), .val (.int p2), .val (.int p3), .val (.ref rk), .val (.ref rr), .unset, .unset, .unset, .unset] [])
    refine DoneW.go (fun _ kt_ => XS.iconst X40h.here hx rfl (hb hby at_29) kt_) ?_
    show DoneW p e s below _ _ _ T40 (mkF m 30 #[.val (.int p0), .val (.int p1), .val (.int p2), .val (.int p3), .val (.ref rk), .val (.ref rr), .unset, .unset, .unset, .unset] [(.int (0 : Int32))])
    refine DoneW.go (fun _ kt_ => XS.istore X40h.here hx rfl (hb hby at_30) rfl (l' := #[.val (.int p0), .val (.int p1), .val (.int p2), .val (.int p3), .val (.ref rk), .val (.ref rr), .val (.int (0 : Int32)), .unset, .unset, .unset]) rfl kt_) ?_
    show DoneW p e s below _ _ _ T40 (mkF m 32 #[.val (.int p0), .val (.int p1), .val (.int p2), .val (.int p3), .val (.ref rk), .val (.ref rr), .val (.int (0 : Int32)), .unset, .unset, .unset] [])
    refine DoneW.go (fun _ kt_ => XS.iconst X40h.here hx rfl (hb hby at_32) kt_) ?_
    show DoneW p e s below _ _ _ T40 (mkF m 33 #[.val (.int p0), .val (.int p1), .val (.int p2), .val (.int p3), .val (.ref rk), .val (.ref rr), .val (.int (0 : Int32)), .unset, .unset, .unset] [(.int (2 : Int32))])
    obtain ⟨T41, h41, k41, X41, e41, E41, A41, st41⟩ := newP X40h hx hZ (hw _ (List.mem_of_getElem? (i := 14) rfl)) e40 (g := (mkF m 33 #[.val (.int p0), .val (.int p1), .val (.int p2), .val (.int p3), .val (.ref rk), .val (.ref rr), .val (.int (0 : Int32)), .unset, .unset, .unset] [(.int (2 : Int32))])) rfl (hb hby at_33) rfl (by decide) (cap := 2) (by decide) (by decide) (by first | decide | omega) (by first | decide | omega)
    obtain ⟨b41, g41⟩ : ∃ z, z = h0.size := ⟨_, rfl⟩
    rw [← g41] at A41 st41
    have gz_b41 : n0 ≤ b41 := Nat.le_trans Z0 (Nat.le_of_eq g41.symm)
    have Z41 : n0 ≤ h41.size := Nat.le_trans Z0 E41.1
    have HK41 := Nat.le_trans HK0 E41.1
    obtain ⟨Lh41, X41h, N41h⟩ : ∃ L, Stand p l e room_1 s m #[(.int p0), (.int p1), (.int p2), (.int p3)] below meth c T41 L 1 2 ∧ Fr n0 L := ⟨_, X41, N40h⟩
    clear X41 N40h X40h e40
    have V41 := Ari.new A41 (by decide) (n := 2) rfl rfl
    refine DoneW.go st41 ?_
    clear st41
    show DoneW p e s below _ _ _ T41 (mkF m 35 #[.val (.int p0), .val (.int p1), .val (.int p2), .val (.int p3), .val (.ref rk), .val (.ref rr), .val (.int (0 : Int32)), .unset, .unset, .unset] [(.ref b41)])
    refine DoneW.go (fun _ kt_ => XS.astore X41h.here hx rfl (hb hby at_35) rfl rfl (l' := #[.val (.int p0), .val (.int p1), .val (.int p2), .val (.int p3), .val (.ref rk), .val (.ref rr), .val (.int (0 : Int32)), .val (.ref b41), .unset, .unset]) rfl kt_) ?_
    show DoneW p e s below _ _ _ T41 (mkF m 37 #[.val (.int p0), .val (.int p1), .val (.int p2), .val (.int p3), .val (.ref rk), .val (.ref rr), .val (.int (0 : Int32)), .val (.ref b41), .unset, .unset] [])
    refine DoneW.go (fun _ kt_ => XS.aload X41h.here hx rfl (hb hby at_37) rfl rfl kt_) ?_
    show DoneW p e s below _ _ _ T41 (mkF m 39 #[.val (.int p0), .val (.int p1), .val (.int p2), .val (.int p3), .val (.ref rk), .val (.ref rr), .val (.int (0 : Int32)), .val (.ref b41), .unset, .unset] [(.ref b41)])
    refine DoneW.go (fun _ kt_ => XS.iconst X41h.here hx rfl (hb hby at_39) kt_) ?_
    show DoneW p e s below _ _ _ T41 (mkF m 40 #[.val (.int p0), .val (.int p1), .val (.int p2), .val (.int p3), .val (.ref rk), .val (.ref rr), .val (.int (0 : Int32)), .val (.ref b41), .unset, .unset] [(.int (0 : Int32)), (.ref b41)])
    refine DoneW.go (fun _ kt_ => XS.iloadN X41h.here hx rfl (hb hby at_40) rfl kt_) ?_
    show DoneW p e s below _ _ _ T41 (mkF m 41 #[.val (.int p0), .val (.int p1), .val (.int p2), .val (.int p3), .val (.ref rk), .val (.ref rr), .val (.int (0 : Int32)), .val (.ref b41), .unset, .unset] [(.int p3), (.int (0 : Int32)), (.ref b41)])
    refine DoneW.go (fun _ kt_ => XS.sipush X41h.here hx rfl (hb hby at_41) kt_) ?_
    show DoneW p e s below _ _ _ T41 (mkF m 44 #[.val (.int p0), .val (.int p1), .val (.int p2), .val (.int p3), .val (.ref rk), .val (.ref rr), .val (.int (0 : Int32)), .val (.ref b41), .unset, .unset] [(.int (255 : Int32)), (.int p3), (.int (0 : Int32)), (.ref b41)])
    refine DoneW.go (fun _ kt_ => XS.iand X41h.here hx rfl (hb hby at_44) rfl kt_) ?_
    show DoneW p e s below _ _ _ T41 (mkF m 45 #[.val (.int p0), .val (.int p1), .val (.int p2), .val (.int p3), .val (.ref rk), .val (.ref rr), .val (.int (0 : Int32)), .val (.ref b41), .unset, .unset] [(.int (p3 &&& (255 : Int32))), (.int (0 : Int32)), (.ref b41)])
    refine DoneW.go (fun _ kt_ => XS.i2c X41h.here hx rfl (hb hby at_45) rfl kt_) ?_
    show DoneW p e s below _ _ _ T41 (mkF m 46 #[.val (.int p0), .val (.int p1), .val (.int p2), .val (.int p3), .val (.ref rk), .val (.ref rr), .val (.int (0 : Int32)), .val (.ref b41), .unset, .unset] [(.int ((p3 &&& (255 : Int32)).toUInt32.toUInt16.toUInt32.toInt32)), (.int (0 : Int32)), (.ref b41)])
    obtain ⟨T42, h42, X42, e42, W42, V42, st42⟩ := own_stC X41h hx hZ e41 V41 (j := (0 : Int32)) 0 (by decide) rfl (by omega) (g := (mkF m 46 #[.val (.int p0), .val (.int p1), .val (.int p2), .val (.int p3), .val (.ref rk), .val (.ref rr), .val (.int (0 : Int32)), .val (.ref b41), .unset, .unset] [(.int ((p3 &&& (255 : Int32)).toUInt32.toUInt16.toUInt32.toInt32)), (.int (0 : Int32)), (.ref b41)])) rfl rfl (hb hby at_46)
    have N42 := Fr.snoc X42 N41h gz_b41
    have Z42 : n0 ≤ h42.size := by rw [W42.size]; exact Z41
    have HK42 := Nat.le_trans HK41 (Nat.le_of_eq W42.size.symm)
    obtain ⟨Lh42, X42h, N42h⟩ : ∃ L, Stand p l e room_1 s m #[(.int p0), (.int p1), (.int p2), (.int p3)] below meth c T42 L 1 2 ∧ Fr n0 L := ⟨_, X42, N42⟩
    clear X42 N42 X41h e41 N41h Z41
    refine DoneW.go st42 ?_
    clear st42
    show DoneW p e s below _ _ _ T42 (mkF m 47 #[.val (.int p0), .val (.int p1), .val (.int p2), .val (.int p3), .val (.ref rk), .val (.ref rr), .val (.int (0 : Int32)), .val (.ref b41), .unset, .unset] [])
    refine DoneW.go (fun _ kt_ => XS.aload X42h.here hx rfl (hb hby at_47) rfl rfl kt_) ?_
    show DoneW p e s below _ _ _ T42 (mkF m 49 #[.val (.int p0), .val (.int p1), .val (.int p2), .val (.int p3), .val (.ref rk), .val (.ref rr), .val (.int (0 : Int32)), .val (.ref b41), .unset, .unset] [(.ref b41)])
    refine DoneW.go (fun _ kt_ => XS.iconst X42h.here hx rfl (hb hby at_49) kt_) ?_
    show DoneW p e s below _ _ _ T42 (mkF m 50 #[.val (.int p0), .val (.int p1), .val (.int p2), .val (.int p3), .val (.ref rk), .val (.ref rr), .val (.int (0 : Int32)), .val (.ref b41), .unset, .unset] [(.int (1 : Int32)), (.ref b41)])
    refine DoneW.go (fun _ kt_ => XS.iloadN X42h.here hx rfl (hb hby at_50) rfl kt_) ?_
    show DoneW p e s below _ _ _ T42 (mkF m 51 #[.val (.int p0), .val (.int p1), .val (.int p2), .val (.int p3), .val (.ref rk), .val (.ref rr), .val (.int (0 : Int32)), .val (.ref b41), .unset, .unset] [(.int p3), (.int (1 : Int32)), (.ref b41)])
    refine DoneW.go (fun _ kt_ => XS.bipush X42h.here hx rfl (hb hby at_51) kt_) ?_
    show DoneW p e s below _ _ _ T42 (mkF m 53 #[.val (.int p0), .val (.int p1), .val (.int p2), .val (.int p3), .val (.ref rk), .val (.ref rr), .val (.int (0 : Int32)), .val (.ref b41), .unset, .unset] [(.int (8 : Int32)), (.int p3), (.int (1 : Int32)), (.ref b41)])
    refine DoneW.go (fun _ kt_ => XS.iushr X42h.here hx rfl (hb hby at_53) rfl kt_) ?_
    show DoneW p e s below _ _ _ T42 (mkF m 54 #[.val (.int p0), .val (.int p1), .val (.int p2), .val (.int p3), .val (.ref rk), .val (.ref rr), .val (.int (0 : Int32)), .val (.ref b41), .unset, .unset] [(.int ((p3.toUInt32 >>> ((8 : Int32) &&& 31).toUInt32).toInt32)), (.int (1 : Int32)), (.ref b41)])
    refine DoneW.go (fun _ kt_ => XS.sipush X42h.here hx rfl (hb hby at_54) kt_) ?_
    show DoneW p e s below _ _ _ T42 (mkF m 57 #[.val (.int p0), .val (.int p1), .val (.int p2), .val (.int p3), .val (.ref rk), .val (.ref rr), .val (.int (0 : Int32)), .val (.ref b41), .unset, .unset] [(.int (255 : Int32)), (.int ((p3.toUInt32 >>> ((8 : Int32) &&& 31).toUInt32).toInt32)), (.int (1 : Int32)), (.ref b41)])
    refine DoneW.go (fun _ kt_ => XS.iand X42h.here hx rfl (hb hby at_57) rfl kt_) ?_
    show DoneW p e s below _ _ _ T42 (mkF m 58 #[.val (.int p0), .val (.int p1), .val (.int p2), .val (.int p3), .val (.ref rk), .val (.ref rr), .val (.int (0 : Int32)), .val (.ref b41), .unset, .unset] [(.int (((p3.toUInt32 >>> ((8 : Int32) &&& 31).toUInt32).toInt32) &&& (255 : Int32))), (.int (1 : Int32)), (.ref b41)])
    refine DoneW.go (fun _ kt_ => XS.i2c X42h.here hx rfl (hb hby at_58) rfl kt_) ?_
    show DoneW p e s below _ _ _ T42 (mkF m 59 #[.val (.int p0), .val (.int p1), .val (.int p2), .val (.int p3), .val (.ref rk), .val (.ref rr), .val (.int (0 : Int32)), .val (.ref b41), .unset, .unset] [(.int ((((p3.toUInt32 >>> ((8 : Int32) &&& 31).toUInt32).toInt32) &&& (255 : Int32)).toUInt32.toUInt16.toUInt32.toInt32)), (.int (1 : Int32)), (.ref b41)])
    obtain ⟨T43, h43, X43, e43, W43, V43, st43⟩ := own_stC X42h hx hZ e42 V42 (j := (1 : Int32)) 1 (by decide) rfl (by omega) (g := (mkF m 59 #[.val (.int p0), .val (.int p1), .val (.int p2), .val (.int p3), .val (.ref rk), .val (.ref rr), .val (.int (0 : Int32)), .val (.ref b41), .unset, .unset] [(.int ((((p3.toUInt32 >>> ((8 : Int32) &&& 31).toUInt32).toInt32) &&& (255 : Int32)).toUInt32.toUInt16.toUInt32.toInt32)), (.int (1 : Int32)), (.ref b41)])) rfl rfl (hb hby at_59)
    have N43 := Fr.snoc X43 N42h gz_b41
    have Z43 : n0 ≤ h43.size := by rw [W43.size]; exact Z42
    have HK43 := Nat.le_trans HK42 (Nat.le_of_eq W43.size.symm)
    obtain ⟨Lh43, X43h, N43h⟩ : ∃ L, Stand p l e room_1 s m #[(.int p0), (.int p1), (.int p2), (.int p3)] below meth c T43 L 1 2 ∧ Fr n0 L := ⟨_, X43, N43⟩
    clear X43 N43 X42h e42 N42h Z42
    refine DoneW.go st43 ?_
    clear st43
    show DoneW p e s below _ _ _ T43 (mkF m 60 #[.val (.int p0), .val (.int p1), .val (.int p2), .val (.int p3), .val (.ref rk), .val (.ref rr), .val (.int (0 : Int32)), .val (.ref b41), .unset, .unset] [])
    refine DoneW.go (fun _ kt_ => XS.iloadN X43h.here hx rfl (hb hby at_60) rfl kt_) ?_
    show DoneW p e s below _ _ _ T43 (mkF m 61 #[.val (.int p0), .val (.int p1), .val (.int p2), .val (.int p3), .val (.ref rk), .val (.ref rr), .val (.int (0 : Int32)), .val (.ref b41), .unset, .unset] [(.int p2)])
    refine DoneW.go (fun _ kt_ => XS.iconst X43h.here hx rfl (hb hby at_61) kt_) ?_
    show DoneW p e s below _ _ _ T43 (mkF m 62 #[.val (.int p0), .val (.int p1), .val (.int p2), .val (.int p3), .val (.ref rk), .val (.ref rr), .val (.int (0 : Int32)), .val (.ref b41), .unset, .unset] [(.int (2 : Int32)), (.int p2)])
    refine DoneW.go (fun _ kt_ => XS.iand X43h.here hx rfl (hb hby at_62) rfl kt_) ?_
    show DoneW p e s below _ _ _ T43 (mkF m 63 #[.val (.int p0), .val (.int p1), .val (.int p2), .val (.int p3), .val (.ref rk), .val (.ref rr), .val (.int (0 : Int32)), .val (.ref b41), .unset, .unset] [(.int (p2 &&& (2 : Int32)))])
    by_cases hc63 : (p2 &&& (2 : Int32)) = (0 : Int32)
    · skip
      refine DoneW.go (fun _ kt_ => XS.ifYes X43h.here hx rfl (pc0 := 63) (pc' := 73) rfl (hb hby at_63) rfl ((if0 _ _).trans (teq hc63).1) (by decide) (by decide) kt_) ?_
      show DoneW p e s below _ _ _ T43 (mkF m 73 #[.val (.int p0), .val (.int p1), .val (.int p2), .val (.int p3), .val (.ref rk), .val (.ref rr), .val (.int (0 : Int32)), .val (.ref b41), .unset, .unset] [])
      obtain ⟨T44, h44, X44, e44, E44, A44, D44, -, st44⟩ := newO X43h hx hZ hown (hw _ (List.mem_of_getElem? (i := 53) rfl)) (hw _ (List.mem_of_getElem? (i := 17) rfl)) (hw _ (List.mem_of_getElem? (i := 16) rfl)) e43 (g := (mkF m 73 #[.val (.int p0), .val (.int p1), .val (.int p2), .val (.int p3), .val (.ref rk), .val (.ref rr), .val (.int (0 : Int32)), .val (.ref b41), .unset, .unset] [])) rfl (hb hby at_73) (by first | decide | omega) (by first | decide | omega)
      obtain ⟨b44, g44⟩ : ∃ z, z = h43.size := ⟨_, rfl⟩
      rw [← g44] at A44 D44 st44
      have ne_b41_b44 : b41 ≠ b44 := Nat.ne_of_lt (Nat.lt_of_lt_of_le V43.lt (Nat.le_of_eq g44.symm))
      have gz_b44 : n0 ≤ b44 := Nat.le_trans Z43 (Nat.le_of_eq g44.symm)
      have Z44 : n0 ≤ h44.size := Nat.le_trans Z43 E44.1
      have HK44 := Nat.le_trans HK43 E44.1
      obtain ⟨Lh44, X44h, N44h⟩ : ∃ L, Stand p l e room_1 s m #[(.int p0), (.int p1), (.int p2), (.int p3)] below meth c T44 L 2 6 ∧ Fr n0 L := ⟨_, X44, N43h⟩
      clear X44 N43h X43h e43 Z43
      have F44_value : Fld Z h44 b44 "java/lang/String" "value" "[B" .null := D44 (Or.inr (hw _ (List.mem_of_getElem? (i := 19) rfl))) (ty := (.array .byte)) (by decide)
      have F44_coder : Fld Z h44 b44 "java/lang/String" "coder" "B" (.int (0 : Int32)) := D44 (Or.inr (hw _ (List.mem_of_getElem? (i := 20) rfl))) (ty := .byte) (by decide)
      refine DoneW.go st44 ?_
      clear st44
      show DoneW p e s below _ _ _ T44 (mkF m 76 #[.val (.int p0), .val (.int p1), .val (.int p2), .val (.int p3), .val (.ref rk), .val (.ref rr), .val (.int (0 : Int32)), .val (.ref b41), .unset, .unset] [(.ref b44)])
      refine DoneW.go (fun _ kt_ => XS.dup X44h.here hx rfl (hb hby at_76) rfl rfl kt_) ?_
      show DoneW p e s below _ _ _ T44 (mkF m 77 #[.val (.int p0), .val (.int p1), .val (.int p2), .val (.int p3), .val (.ref rk), .val (.ref rr), .val (.int (0 : Int32)), .val (.ref b41), .unset, .unset] [(.ref b44), (.ref b44)])
      refine DoneW.go (fun _ kt_ => XS.aload X44h.here hx rfl (hb hby at_77) rfl rfl kt_) ?_
      show DoneW p e s below _ _ _ T44 (mkF m 79 #[.val (.int p0), .val (.int p1), .val (.int p2), .val (.int p3), .val (.ref rk), .val (.ref rr), .val (.int (0 : Int32)), .val (.ref b41), .unset, .unset] [(.ref b41), (.ref b44), (.ref b44)])
      have f45 := (V43.ext E44)
      obtain ⟨kC, VC⟩ := Ari.arv (cs := [nar .char ((p3 &&& (255 : Int32)).toUInt32.toUInt16.toUInt32.toInt32), nar .char ((((p3.toUInt32 >>> ((8 : Int32) &&& 31).toUInt32).toInt32) &&& (255 : Int32)).toUInt32.toUInt16.toUInt32.toInt32)]) f45 rfl (fun i hi => by match i, hi with | 0, _ => rfl | 1, _ => rfl) (fun c hc => by simp only [List.mem_cons, List.not_mem_nil, or_false] at hc; rcases hc with rfl | rfl <;> exact own_ch _) (N := 2) rfl (by decide)
      have f46 := ((((Sc.ext E41).wr W42).wr W43).ext E44)
      obtain ⟨v47, T47, Lc47, X47, hQ47, st47⟩ := own_backV (X44h.specialBack hx (y := (⟨"java/lang/String", "<init>", "([C)V"⟩ : MethodName)) rfl hown (mvT hZ (hw _ (List.mem_of_getElem? (i := 54) rfl))) (mvT hZ (hw _ (List.mem_of_getElem? (i := 55) rfl))) (mvT hZ (hw _ (List.mem_of_getElem? (i := 56) rfl))) (by decide) (StrChars.Road.backV (W := 1) (n := 2) (N := 2) hZ (fun d hd => hw d ((by decide +kernel : ∀ d ∈ StrChars.Road.words, d ∈ tables_1) d hd)) (kI := 4) (hw _ (List.mem_of_getElem? (i := 17) rfl)) gz_b44 Z44 A44 F44_value F44_coder VC f46 hcz rfl rfl (by decide) (by decide) (fun c hc => by simp only [List.mem_cons, List.not_mem_nil, or_false] at hc; rcases hc with rfl | rfl <;> exact own_ch _) rfl (by decide) (by decide)) (g := (mkF m 79 #[.val (.int p0), .val (.int p1), .val (.int p2), .val (.int p3), .val (.ref rk), .val (.ref rr), .val (.int (0 : Int32)), .val (.ref b41), .unset, .unset] [(.ref b41), (.ref b44), (.ref b44)])) rfl (by rw [hml]; rfl) (Steps.refl _) (a := b44) (argsL := [(.ref b41)]) (rest := [(.ref b44)]) (lenOf own_pd4 rfl) rfl (by show 2 * 0 + _ ≤ _; exact Nat.le_of_eq rfl) (hb hby at_79) (fun _ _ => ⟨rfl, e44, (by first | decide | omega : 2 + 1 ≤ _), (by first | decide | omega : 6 + 2 ≤ _)⟩))
      obtain ⟨rfl, N47q, K47k, _, _, _⟩ := hQ47
      refine DoneW.go st47 ?_
      clear st47
      have N47 := Fr.app N44h N47q
      clear N47q
      have HK47 := Nat.le_trans HK44 K47k.1
      have Z47 : n0 ≤ T47.heap.size := Nat.le_trans Z44 K47k.1
      obtain ⟨Lh47, X47h, N47h⟩ : ∃ L, Stand p l e room_1 s m #[(.int p0), (.int p1), (.int p2), (.int p3)] below meth c T47 L 3 8 ∧ Fr n0 L := ⟨_, X47, N47⟩
      clear X47 N47 X44h e44 N44h Z44
      show DoneW p e s below _ _ _ T47 (mkF m 82 #[.val (.int p0), .val (.int p1), .val (.int p2), .val (.int p3), .val (.ref rk), .val (.ref rr), .val (.int (0 : Int32)), .val (.ref b41), .unset, .unset] [(.ref b44)])
      refine DoneW.go (fun _ kt_ => XS.astore X47h.here hx rfl (hb hby at_82) rfl rfl (l' := #[.val (.int p0), .val (.int p1), .val (.int p2), .val (.int p3), .val (.ref rk), .val (.ref rr), .val (.int (0 : Int32)), .val (.ref b41), .val (.ref b44), .unset]) rfl kt_) ?_
      show DoneW p e s below _ _ _ T47 (mkF m 84 #[.val (.int p0), .val (.int p1), .val (.int p2), .val (.int p3), .val (.ref rk), .val (.ref rr), .val (.int (0 : Int32)), .val (.ref b41), .val (.ref b44), .unset] [])
      refine DoneW.go (fun _ kt_ => XS.iload X47h.here hx rfl (hb hby at_84) rfl kt_) ?_
      show DoneW p e s below _ _ _ T47 (mkF m 86 #[.val (.int p0), .val (.int p1), .val (.int p2), .val (.int p3), .val (.ref rk), .val (.ref rr), .val (.int (0 : Int32)), .val (.ref b41), .val (.ref b44), .unset] [(.int (0 : Int32))])
      refine DoneW.go (fun _ kt_ => XS.ifYes X47h.here hx rfl (pc0 := 86) (pc' := 106) rfl (hb hby at_86) rfl ((if0 _ _).trans (teq rfl).1) (by decide) (by decide) kt_) ?_
      show DoneW p e s below _ _ _ T47 (mkF m 106 #[.val (.int p0), .val (.int p1), .val (.int p2), .val (.int p3), .val (.ref rk), .val (.ref rr), .val (.int (0 : Int32)), .val (.ref b41), .val (.ref b44), .unset] [])
      obtain ⟨T48, h48, X48, e48, E48, A48, D48, -, st48⟩ := newO X47h hx hZ hown (hw _ (List.mem_of_getElem? (i := 23) rfl)) (hw _ (List.mem_of_getElem? (i := 24) rfl)) (hw _ (List.mem_of_getElem? (i := 25) rfl)) rfl (g := (mkF m 106 #[.val (.int p0), .val (.int p1), .val (.int p2), .val (.int p3), .val (.ref rk), .val (.ref rr), .val (.int (0 : Int32)), .val (.ref b41), .val (.ref b44), .unset] [])) rfl (hb hby at_106) (by first | decide | omega) (by first | decide | omega)
      have f49 := (f45.keep K47k (ninS ne_b41_b44 nin0))
      have f50 := (A44.keep K47k)
      obtain ⟨b48, g48⟩ : ∃ z, z = T47.heap.size := ⟨_, rfl⟩
      rw [← g48] at A48 D48 st48
      have ne_b41_b48 : b41 ≠ b48 := Nat.ne_of_lt (Nat.lt_of_lt_of_le f49.lt (Nat.le_of_eq g48.symm))
      have ne_b44_b48 : b44 ≠ b48 := Nat.ne_of_lt (Nat.lt_of_lt_of_le f50.lt (Nat.le_of_eq g48.symm))
      have gz_b48 : n0 ≤ b48 := Nat.le_trans Z47 (Nat.le_of_eq g48.symm)
      have Z48 : n0 ≤ h48.size := Nat.le_trans Z47 E48.1
      have HK48 := Nat.le_trans HK47 E48.1
      obtain ⟨Lh48, X48h, N48h⟩ : ∃ L, Stand p l e room_1 s m #[(.int p0), (.int p1), (.int p2), (.int p3)] below meth c T48 L 4 11 ∧ Fr n0 L := ⟨_, X48, N47h⟩
      clear X48 N47h X47h Z47
      have F48_kind : Fld Z h48 b48 "spinecode/identifier/Judgement" "kind" "Lspinecode/identifier/Kind;" .null := D48 (Or.inr (hw _ (List.mem_of_getElem? (i := 43) rfl))) (ty := (.object "spinecode/identifier/Kind")) (by decide)
      have F48_normalForm : Fld Z h48 b48 "spinecode/identifier/Judgement" "normalForm" "Ljava/lang/String;" .null := D48 (Or.inr (hw _ (List.mem_of_getElem? (i := 45) rfl))) (ty := (.object "java/lang/String")) (by decide)
      have F48_reason : Fld Z h48 b48 "spinecode/identifier/Judgement" "reason" "Lspinecode/identifier/Reason;" .null := D48 (Or.inr (hw _ (List.mem_of_getElem? (i := 47) rfl))) (ty := (.object "spinecode/identifier/Reason")) (by decide)
      refine DoneW.go st48 ?_
      clear st48
      show DoneW p e s below _ _ _ T48 (mkF m 109 #[.val (.int p0), .val (.int p1), .val (.int p2), .val (.int p3), .val (.ref rk), .val (.ref rr), .val (.int (0 : Int32)), .val (.ref b41), .val (.ref b44), .unset] [(.ref b48)])
      refine DoneW.go (fun _ kt_ => XS.dup X48h.here hx rfl (hb hby at_109) rfl rfl kt_) ?_
      show DoneW p e s below _ _ _ T48 (mkF m 110 #[.val (.int p0), .val (.int p1), .val (.int p2), .val (.int p3), .val (.ref rk), .val (.ref rr), .val (.int (0 : Int32)), .val (.ref b41), .val (.ref b44), .unset] [(.ref b48), (.ref b48)])
      refine DoneW.go (fun _ kt_ => XS.aload X48h.here hx rfl (hb hby at_110) rfl rfl kt_) ?_
      show DoneW p e s below _ _ _ T48 (mkF m 112 #[.val (.int p0), .val (.int p1), .val (.int p2), .val (.int p3), .val (.ref rk), .val (.ref rr), .val (.int (0 : Int32)), .val (.ref b41), .val (.ref b44), .unset] [(.ref rk), (.ref b48), (.ref b48)])
      refine DoneW.go (fun _ kt_ => XS.aconstNull X48h.here hx rfl (hb hby at_112) kt_) ?_
      show DoneW p e s below _ _ _ T48 (mkF m 113 #[.val (.int p0), .val (.int p1), .val (.int p2), .val (.int p3), .val (.ref rk), .val (.ref rr), .val (.int (0 : Int32)), .val (.ref b41), .val (.ref b44), .unset] [.null, (.ref rk), (.ref b48), (.ref b48)])
      refine DoneW.go (fun _ kt_ => XS.aload X48h.here hx rfl (hb hby at_113) rfl rfl kt_) ?_
      show DoneW p e s below _ _ _ T48 (mkF m 115 #[.val (.int p0), .val (.int p1), .val (.int p2), .val (.int p3), .val (.ref rk), .val (.ref rr), .val (.int (0 : Int32)), .val (.ref b41), .val (.ref b44), .unset] [(.ref rr), .null, (.ref rk), (.ref b48), (.ref b48)])
      obtain ⟨v51, T51, Lc51, bs51, X51, hQ51, hS51, hZ, hown, st51⟩ := own_backW hZ hown hS0 (by rw [e48]; exact HK48) (X48h.specialBackS hx (y := (⟨"spinecode/identifier/Judgement", "<init>", "(Lspinecode/identifier/Kind;Ljava/lang/String;Lspinecode/identifier/Reason;)V"⟩ : MethodName)) rfl hown (mvT hZ (hw _ (List.mem_of_getElem? (i := 26) rfl))) (mvT hZ (hw _ (List.mem_of_getElem? (i := 27) rfl))) (mvT hZ (hw _ (List.mem_of_getElem? (i := 28) rfl))) (by decide) (backOfS (W := 1) (rm3N l Z a0 hw [] b48 rk rr h48 n0 Z48 A48 gz_b48 F48_kind F48_normalForm F48_reason) hZ (hw _ (List.mem_of_getElem? (i := 28) rfl)) (hw _ (List.mem_of_getElem? (i := 25) rfl)) (by decide) (by decide)) (g := (mkF m 115 #[.val (.int p0), .val (.int p1), .val (.int p2), .val (.int p3), .val (.ref rk), .val (.ref rr), .val (.int (0 : Int32)), .val (.ref b41), .val (.ref b44), .unset] [(.ref rr), .null, (.ref rk), (.ref b48), (.ref b48)])) rfl (by rw [hml]; rfl) (Steps.refl _) (a := b48) (argsL := [(.ref rk), .null, (.ref rr)]) (rest := [(.ref b48)]) (lenOf own_pd5 rfl) rfl (by show 2 * 0 + _ ≤ _; exact Nat.le_of_eq rfl) (hb hby at_115) (fun _ _ => ⟨rfl, e48, (by first | decide | omega : 4 + 2 ≤ _), (by first | decide | omega : 11 + 20 ≤ _)⟩))
      obtain ⟨rfl, N51q, hs51, Ej51, Fj51⟩ := hQ51
      refine DoneW.go st51 ?_
      clear st51
      have N51 := Fr.app N48h N51q
      clear N51q
      have HK51 := Nat.le_refl T51.heap.size
      have Z51 : n0 ≤ T51.heap.size := Nat.le_trans Z48 hs51
      obtain ⟨Lh51, X51h, N51h⟩ : ∃ L, Stand p l e room_1 bs51 m #[(.int p0), (.int p1), (.int p2), (.int p3)] below meth c T51 L 6 31 ∧ Fr n0 L := ⟨_, X51, N51⟩
      clear X51 N51 X48h e48 N48h Z48
      show DoneW p e s below _ _ _ T51 (mkF m 118 #[.val (.int p0), .val (.int p1), .val (.int p2), .val (.int p3), .val (.ref rk), .val (.ref rr), .val (.int (0 : Int32)), .val (.ref b41), .val (.ref b44), .unset] [(.ref b48)])
      refine DoneW.go (fun _ kt_ => XS.astore X51h.here hx rfl (hb hby at_118) rfl rfl (l' := #[.val (.int p0), .val (.int p1), .val (.int p2), .val (.int p3), .val (.ref rk), .val (.ref rr), .val (.int (0 : Int32)), .val (.ref b41), .val (.ref b44), .val (.ref b48)]) rfl kt_) ?_
      show DoneW p e s below _ _ _ T51 (mkF m 120 #[.val (.int p0), .val (.int p1), .val (.int p2), .val (.int p3), .val (.ref rk), .val (.ref rr), .val (.int (0 : Int32)), .val (.ref b41), .val (.ref b44), .val (.ref b48)] [])
      refine DoneW.go (fun _ kt_ => XS.aload X51h.here hx rfl (hb hby at_120) rfl rfl kt_) ?_
      show DoneW p e s below _ _ _ T51 (mkF m 122 #[.val (.int p0), .val (.int p1), .val (.int p2), .val (.int p3), .val (.ref rk), .val (.ref rr), .val (.int (0 : Int32)), .val (.ref b41), .val (.ref b44), .val (.ref b48)] [(.ref b48)])
      obtain ⟨cq52, kq52, q52a, q52b, q52c⟩ := isOf hZ rfl Ej51
      obtain ⟨v52, T52, Lc52, X52, hQ52, st52⟩ := own_backV (X51h.virtualBack hx (y := (⟨"spinecode/identifier/Judgement", "isValid", "()Z"⟩ : MethodName)) (z := (⟨"spinecode/identifier/Judgement", "isValid", "()Z"⟩ : MethodName)) hown (mvT hZ (hw _ (List.mem_of_getElem? (i := 48) rfl))) (mvT hZ (hw _ (List.mem_of_getElem? (i := 49) rfl))) (notFace_of_selects (args := #[]) (mvT hZ (hw _ (List.mem_of_getElem? (i := 51) rfl)))) (mvT hZ (hw _ (List.mem_of_getElem? (i := 51) rfl))) (mvT hZ (hw _ (List.mem_of_getElem? (i := 50) rfl))) (by decide) (backOf (W := 0)  (rm7N l Z a0 hw [] b48 rr T51.heap n0 Z51 Fj51) hZ (hw _ (List.mem_of_getElem? (i := 52) rfl)) (hw _ (List.mem_of_getElem? (i := 25) rfl)) (by decide) (by decide)) q52a q52c (g := (mkF m 122 #[.val (.int p0), .val (.int p1), .val (.int p2), .val (.int p3), .val (.ref rk), .val (.ref rr), .val (.int (0 : Int32)), .val (.ref b41), .val (.ref b44), .val (.ref b48)] [(.ref b48)])) rfl (by rw [hml]; rfl) (Steps.refl _) (argsL := []) (rest := []) (lenOf own_pd6 rfl) rfl (by show 2 * 0 + _ ≤ _; exact Nat.le_of_eq rfl) (hb hby at_122) (fun _ _ => ⟨rfl, rfl, (by first | decide | omega : 6 + 0 ≤ _), (by first | decide | omega : 31 + 0 ≤ _)⟩))
      obtain ⟨rfl, N52q, e52⟩ := hQ52
      refine DoneW.go st52 ?_
      clear st52
      have N52 := Fr.app N51h N52q
      clear N52q
      obtain ⟨Lh52, X52h, N52h⟩ : ∃ L, Stand p l e room_1 bs51 m #[(.int p0), (.int p1), (.int p2), (.int p3)] below meth c T52 L 6 31 ∧ Fr n0 L := ⟨_, X52, N52⟩
      clear X52 N52 X51h N51h
      show DoneW p e s below _ _ _ T52 (mkF m 125 #[.val (.int p0), .val (.int p1), .val (.int p2), .val (.int p3), .val (.ref rk), .val (.ref rr), .val (.int (0 : Int32)), .val (.ref b41), .val (.ref b44), .val (.ref b48)] [(.int (0 : Int32))])
      refine DoneW.go (fun _ kt_ => XS.iload X52h.here hx rfl (hb hby at_125) rfl kt_) ?_
      show DoneW p e s below _ _ _ T52 (mkF m 127 #[.val (.int p0), .val (.int p1), .val (.int p2), .val (.int p3), .val (.ref rk), .val (.ref rr), .val (.int (0 : Int32)), .val (.ref b41), .val (.ref b44), .val (.ref b48)] [(.int (0 : Int32)), (.int (0 : Int32))])
      refine DoneW.go (fun _ kt_ => XS.icmpNo X52h.here hx rfl (hb hby at_127) rfl (teq rfl).2 kt_) ?_
      show DoneW p e s below _ _ _ T52 (mkF m 130 #[.val (.int p0), .val (.int p1), .val (.int p2), .val (.int p3), .val (.ref rk), .val (.ref rr), .val (.int (0 : Int32)), .val (.ref b41), .val (.ref b44), .val (.ref b48)] [])
      refine DoneW.go (fun _ kt_ => XS.iconst X52h.here hx rfl (hb hby at_130) kt_) ?_
      show DoneW p e s below _ _ _ T52 (mkF m 131 #[.val (.int p0), .val (.int p1), .val (.int p2), .val (.int p3), .val (.ref rk), .val (.ref rr), .val (.int (0 : Int32)), .val (.ref b41), .val (.ref b44), .val (.ref b48)] [(.int (1 : Int32))])
      refine DoneW.go (fun _ kt_ => XS.goto X52h.here hx rfl (pc0 := 131) (pc' := 135) rfl (hb hby at_131) (by decide) (by decide) kt_) ?_
      show DoneW p e s below _ _ _ T52 (mkF m 135 #[.val (.int p0), .val (.int p1), .val (.int p2), .val (.int p3), .val (.ref rk), .val (.ref rr), .val (.int (0 : Int32)), .val (.ref b41), .val (.ref b44), .val (.ref b48)] [(.int (1 : Int32))])
      refine DoneW.retN X52h hx ⟨hlk, _, hS51, (by rw [e52]; exact HK51)⟩ (t := .boolean) hrt (by simp) (z' := (1 : Int32)) rfl (hb hby at_135) ?_ (by first | decide | omega) (by first | decide | omega)
      rw [e52]
      exact ⟨rfl, N52h⟩
    · skip
      refine DoneW.go (fun _ kt_ => XS.ifNo X43h.here hx rfl (hb hby at_63) rfl ((if0 _ _).trans (feq hc63).1) kt_) ?_
      show DoneW p e s below _ _ _ T43 (mkF m 66 #[.val (.int p0), .val (.int p1), .val (.int p2), .val (.int p3), .val (.ref rk), .val (.ref rr), .val (.int (0 : Int32)), .val (.ref b41), .unset, .unset] [])
      obtain ⟨sa53, T53, h53, bs53, kk53, X53, e53, E53, hS53, HK53, hZ, hown, st53⟩ := own_ldcS X43h hx hZ hown (hw _ (List.mem_of_getElem? (i := 15) rfl)) (own_wS hw) e43 hS0 HK43 (g := (mkF m 66 #[.val (.int p0), .val (.int p1), .val (.int p2), .val (.int p3), .val (.ref rk), .val (.ref rr), .val (.int (0 : Int32)), .val (.ref b41), .unset, .unset] [])) rfl (hb hby at_66) (n := 0) (by decide) (by decide) (by decide) (by decide)
      have Z53 : n0 ≤ h53.size := Nat.le_trans Z43 E53.1
      obtain ⟨Lh53, X53h, N53h⟩ : ∃ L, Stand p l e room_1 bs53 m #[(.int p0), (.int p1), (.int p2), (.int p3)] below meth c T53 L 3 6 ∧ Fr n0 L := ⟨_, X53, N43h⟩
      clear X53 N43h X43h e43 Z43
      refine DoneW.go st53 ?_
      clear st53
      show DoneW p e s below _ _ _ T53 (mkF m 68 #[.val (.int p0), .val (.int p1), .val (.int p2), .val (.int p3), .val (.ref rk), .val (.ref rr), .val (.int (0 : Int32)), .val (.ref b41), .unset, .unset] [(.ref sa53)])
      refine DoneW.go (fun _ kt_ => XS.astore X53h.here hx rfl (hb hby at_68) rfl rfl (l' := #[.val (.int p0), .val (.int p1), .val (.int p2), .val (.int p3), .val (.ref rk), .val (.ref rr), .val (.int (0 : Int32)), .val (.ref b41), .val (.ref sa53), .unset]) rfl kt_) ?_
      show DoneW p e s below _ _ _ T53 (mkF m 70 #[.val (.int p0), .val (.int p1), .val (.int p2), .val (.int p3), .val (.ref rk), .val (.ref rr), .val (.int (0 : Int32)), .val (.ref b41), .val (.ref sa53), .unset] [])
      refine DoneW.go (fun _ kt_ => XS.goto X53h.here hx rfl (pc0 := 70) (pc' := 84) rfl (hb hby at_70) (by decide) (by decide) kt_) ?_
      show DoneW p e s below _ _ _ T53 (mkF m 84 #[.val (.int p0), .val (.int p1), .val (.int p2), .val (.int p3), .val (.ref rk), .val (.ref rr), .val (.int (0 : Int32)), .val (.ref b41), .val (.ref sa53), .unset] [])
      refine DoneW.go (fun _ kt_ => XS.iload X53h.here hx rfl (hb hby at_84) rfl kt_) ?_
      show DoneW p e s below _ _ _ T53 (mkF m 86 #[.val (.int p0), .val (.int p1), .val (.int p2), .val (.int p3), .val (.ref rk), .val (.ref rr), .val (.int (0 : Int32)), .val (.ref b41), .val (.ref sa53), .unset] [(.int (0 : Int32))])
      refine DoneW.go (fun _ kt_ => XS.ifYes X53h.here hx rfl (pc0 := 86) (pc' := 106) rfl (hb hby at_86) rfl ((if0 _ _).trans (teq rfl).1) (by decide) (by decide) kt_) ?_
      show DoneW p e s below _ _ _ T53 (mkF m 106 #[.val (.int p0), .val (.int p1), .val (.int p2), .val (.int p3), .val (.ref rk), .val (.ref rr), .val (.int (0 : Int32)), .val (.ref b41), .val (.ref sa53), .unset] [])
      obtain ⟨T54, h54, X54, e54, E54, A54, D54, -, st54⟩ := newO X53h hx hZ hown (hw _ (List.mem_of_getElem? (i := 23) rfl)) (hw _ (List.mem_of_getElem? (i := 24) rfl)) (hw _ (List.mem_of_getElem? (i := 25) rfl)) e53 (g := (mkF m 106 #[.val (.int p0), .val (.int p1), .val (.int p2), .val (.int p3), .val (.ref rk), .val (.ref rr), .val (.int (0 : Int32)), .val (.ref b41), .val (.ref sa53), .unset] [])) rfl (hb hby at_106) (by first | decide | omega) (by first | decide | omega)
      have f55 := (V43.ext E53)
      obtain ⟨b54, g54⟩ : ∃ z, z = h53.size := ⟨_, rfl⟩
      rw [← g54] at A54 D54 st54
      have ne_b41_b54 : b41 ≠ b54 := Nat.ne_of_lt (Nat.lt_of_lt_of_le f55.lt (Nat.le_of_eq g54.symm))
      have gz_b54 : n0 ≤ b54 := Nat.le_trans Z53 (Nat.le_of_eq g54.symm)
      have Z54 : n0 ≤ h54.size := Nat.le_trans Z53 E54.1
      have HK54 := Nat.le_trans HK53 E54.1
      obtain ⟨Lh54, X54h, N54h⟩ : ∃ L, Stand p l e room_1 bs53 m #[(.int p0), (.int p1), (.int p2), (.int p3)] below meth c T54 L 4 9 ∧ Fr n0 L := ⟨_, X54, N53h⟩
      clear X54 N53h X53h e53 Z53
      have F54_kind : Fld Z h54 b54 "spinecode/identifier/Judgement" "kind" "Lspinecode/identifier/Kind;" .null := D54 (Or.inr (hw _ (List.mem_of_getElem? (i := 43) rfl))) (ty := (.object "spinecode/identifier/Kind")) (by decide)
      have F54_normalForm : Fld Z h54 b54 "spinecode/identifier/Judgement" "normalForm" "Ljava/lang/String;" .null := D54 (Or.inr (hw _ (List.mem_of_getElem? (i := 45) rfl))) (ty := (.object "java/lang/String")) (by decide)
      have F54_reason : Fld Z h54 b54 "spinecode/identifier/Judgement" "reason" "Lspinecode/identifier/Reason;" .null := D54 (Or.inr (hw _ (List.mem_of_getElem? (i := 47) rfl))) (ty := (.object "spinecode/identifier/Reason")) (by decide)
      refine DoneW.go st54 ?_
      clear st54
      show DoneW p e s below _ _ _ T54 (mkF m 109 #[.val (.int p0), .val (.int p1), .val (.int p2), .val (.int p3), .val (.ref rk), .val (.ref rr), .val (.int (0 : Int32)), .val (.ref b41), .val (.ref sa53), .unset] [(.ref b54)])
      refine DoneW.go (fun _ kt_ => XS.dup X54h.here hx rfl (hb hby at_109) rfl rfl kt_) ?_
      show DoneW p e s below _ _ _ T54 (mkF m 110 #[.val (.int p0), .val (.int p1), .val (.int p2), .val (.int p3), .val (.ref rk), .val (.ref rr), .val (.int (0 : Int32)), .val (.ref b41), .val (.ref sa53), .unset] [(.ref b54), (.ref b54)])
      refine DoneW.go (fun _ kt_ => XS.aload X54h.here hx rfl (hb hby at_110) rfl rfl kt_) ?_
      show DoneW p e s below _ _ _ T54 (mkF m 112 #[.val (.int p0), .val (.int p1), .val (.int p2), .val (.int p3), .val (.ref rk), .val (.ref rr), .val (.int (0 : Int32)), .val (.ref b41), .val (.ref sa53), .unset] [(.ref rk), (.ref b54), (.ref b54)])
      refine DoneW.go (fun _ kt_ => XS.aconstNull X54h.here hx rfl (hb hby at_112) kt_) ?_
      show DoneW p e s below _ _ _ T54 (mkF m 113 #[.val (.int p0), .val (.int p1), .val (.int p2), .val (.int p3), .val (.ref rk), .val (.ref rr), .val (.int (0 : Int32)), .val (.ref b41), .val (.ref sa53), .unset] [.null, (.ref rk), (.ref b54), (.ref b54)])
      refine DoneW.go (fun _ kt_ => XS.aload X54h.here hx rfl (hb hby at_113) rfl rfl kt_) ?_
      show DoneW p e s below _ _ _ T54 (mkF m 115 #[.val (.int p0), .val (.int p1), .val (.int p2), .val (.int p3), .val (.ref rk), .val (.ref rr), .val (.int (0 : Int32)), .val (.ref b41), .val (.ref sa53), .unset] [(.ref rr), .null, (.ref rk), (.ref b54), (.ref b54)])
      obtain ⟨v56, T56, Lc56, bs56, X56, hQ56, hS56, hZ, hown, st56⟩ := own_backW hZ hown hS53 (by rw [e54]; exact HK54) (X54h.specialBackS hx (y := (⟨"spinecode/identifier/Judgement", "<init>", "(Lspinecode/identifier/Kind;Ljava/lang/String;Lspinecode/identifier/Reason;)V"⟩ : MethodName)) rfl hown (mvT hZ (hw _ (List.mem_of_getElem? (i := 26) rfl))) (mvT hZ (hw _ (List.mem_of_getElem? (i := 27) rfl))) (mvT hZ (hw _ (List.mem_of_getElem? (i := 28) rfl))) (by decide) (backOfS (W := 1) (rm3N l Z a0 hw [] b54 rk rr h54 n0 Z54 A54 gz_b54 F54_kind F54_normalForm F54_reason) hZ (hw _ (List.mem_of_getElem? (i := 28) rfl)) (hw _ (List.mem_of_getElem? (i := 25) rfl)) (by decide) (by decide)) (g := (mkF m 115 #[.val (.int p0), .val (.int p1), .val (.int p2), .val (.int p3), .val (.ref rk), .val (.ref rr), .val (.int (0 : Int32)), .val (.ref b41), .val (.ref sa53), .unset] [(.ref rr), .null, (.ref rk), (.ref b54), (.ref b54)])) rfl (by rw [hml]; rfl) (Steps.refl _) (a := b54) (argsL := [(.ref rk), .null, (.ref rr)]) (rest := [(.ref b54)]) (lenOf own_pd5 rfl) rfl (by show 2 * 0 + _ ≤ _; exact Nat.le_of_eq rfl) (hb hby at_115) (fun _ _ => ⟨rfl, e54, (by first | decide | omega : 4 + 2 ≤ _), (by first | decide | omega : 9 + 20 ≤ _)⟩))
      obtain ⟨rfl, N56q, hs56, Ej56, Fj56⟩ := hQ56
      refine DoneW.go st56 ?_
      clear st56
      have N56 := Fr.app N54h N56q
      clear N56q
      have HK56 := Nat.le_refl T56.heap.size
      have Z56 : n0 ≤ T56.heap.size := Nat.le_trans Z54 hs56
      obtain ⟨Lh56, X56h, N56h⟩ : ∃ L, Stand p l e room_1 bs56 m #[(.int p0), (.int p1), (.int p2), (.int p3)] below meth c T56 L 6 29 ∧ Fr n0 L := ⟨_, X56, N56⟩
      clear X56 N56 X54h e54 N54h Z54
      show DoneW p e s below _ _ _ T56 (mkF m 118 #[.val (.int p0), .val (.int p1), .val (.int p2), .val (.int p3), .val (.ref rk), .val (.ref rr), .val (.int (0 : Int32)), .val (.ref b41), .val (.ref sa53), .unset] [(.ref b54)])
      refine DoneW.go (fun _ kt_ => XS.astore X56h.here hx rfl (hb hby at_118) rfl rfl (l' := #[.val (.int p0), .val (.int p1), .val (.int p2), .val (.int p3), .val (.ref rk), .val (.ref rr), .val (.int (0 : Int32)), .val (.ref b41), .val (.ref sa53), .val (.ref b54)]) rfl kt_) ?_
      show DoneW p e s below _ _ _ T56 (mkF m 120 #[.val (.int p0), .val (.int p1), .val (.int p2), .val (.int p3), .val (.ref rk), .val (.ref rr), .val (.int (0 : Int32)), .val (.ref b41), .val (.ref sa53), .val (.ref b54)] [])
      refine DoneW.go (fun _ kt_ => XS.aload X56h.here hx rfl (hb hby at_120) rfl rfl kt_) ?_
      show DoneW p e s below _ _ _ T56 (mkF m 122 #[.val (.int p0), .val (.int p1), .val (.int p2), .val (.int p3), .val (.ref rk), .val (.ref rr), .val (.int (0 : Int32)), .val (.ref b41), .val (.ref sa53), .val (.ref b54)] [(.ref b54)])
      obtain ⟨cq57, kq57, q57a, q57b, q57c⟩ := isOf hZ rfl Ej56
      obtain ⟨v57, T57, Lc57, X57, hQ57, st57⟩ := own_backV (X56h.virtualBack hx (y := (⟨"spinecode/identifier/Judgement", "isValid", "()Z"⟩ : MethodName)) (z := (⟨"spinecode/identifier/Judgement", "isValid", "()Z"⟩ : MethodName)) hown (mvT hZ (hw _ (List.mem_of_getElem? (i := 48) rfl))) (mvT hZ (hw _ (List.mem_of_getElem? (i := 49) rfl))) (notFace_of_selects (args := #[]) (mvT hZ (hw _ (List.mem_of_getElem? (i := 51) rfl)))) (mvT hZ (hw _ (List.mem_of_getElem? (i := 51) rfl))) (mvT hZ (hw _ (List.mem_of_getElem? (i := 50) rfl))) (by decide) (backOf (W := 0)  (rm7N l Z a0 hw [] b54 rr T56.heap n0 Z56 Fj56) hZ (hw _ (List.mem_of_getElem? (i := 52) rfl)) (hw _ (List.mem_of_getElem? (i := 25) rfl)) (by decide) (by decide)) q57a q57c (g := (mkF m 122 #[.val (.int p0), .val (.int p1), .val (.int p2), .val (.int p3), .val (.ref rk), .val (.ref rr), .val (.int (0 : Int32)), .val (.ref b41), .val (.ref sa53), .val (.ref b54)] [(.ref b54)])) rfl (by rw [hml]; rfl) (Steps.refl _) (argsL := []) (rest := []) (lenOf own_pd6 rfl) rfl (by show 2 * 0 + _ ≤ _; exact Nat.le_of_eq rfl) (hb hby at_122) (fun _ _ => ⟨rfl, rfl, (by first | decide | omega : 6 + 0 ≤ _), (by first | decide | omega : 29 + 0 ≤ _)⟩))
      obtain ⟨rfl, N57q, e57⟩ := hQ57
      refine DoneW.go st57 ?_
      clear st57
      have N57 := Fr.app N56h N57q
      clear N57q
      obtain ⟨Lh57, X57h, N57h⟩ : ∃ L, Stand p l e room_1 bs56 m #[(.int p0), (.int p1), (.int p2), (.int p3)] below meth c T57 L 6 29 ∧ Fr n0 L := ⟨_, X57, N57⟩
      clear X57 N57 X56h N56h
      show DoneW p e s below _ _ _ T57 (mkF m 125 #[.val (.int p0), .val (.int p1), .val (.int p2), .val (.int p3), .val (.ref rk), .val (.ref rr), .val (.int (0 : Int32)), .val (.ref b41), .val (.ref sa53), .val (.ref b54)] [(.int (0 : Int32))])
      refine DoneW.go (fun _ kt_ => XS.iload X57h.here hx rfl (hb hby at_125) rfl kt_) ?_
      show DoneW p e s below _ _ _ T57 (mkF m 127 #[.val (.int p0), .val (.int p1), .val (.int p2), .val (.int p3), .val (.ref rk), .val (.ref rr), .val (.int (0 : Int32)), .val (.ref b41), .val (.ref sa53), .val (.ref b54)] [(.int (0 : Int32)), (.int (0 : Int32))])
      refine DoneW.go (fun _ kt_ => XS.icmpNo X57h.here hx rfl (hb hby at_127) rfl (teq rfl).2 kt_) ?_
      show DoneW p e s below _ _ _ T57 (mkF m 130 #[.val (.int p0), .val (.int p1), .val (.int p2), .val (.int p3), .val (.ref rk), .val (.ref rr), .val (.int (0 : Int32)), .val (.ref b41), .val (.ref sa53), .val (.ref b54)] [])
      refine DoneW.go (fun _ kt_ => XS.iconst X57h.here hx rfl (hb hby at_130) kt_) ?_
      show DoneW p e s below _ _ _ T57 (mkF m 131 #[.val (.int p0), .val (.int p1), .val (.int p2), .val (.int p3), .val (.ref rk), .val (.ref rr), .val (.int (0 : Int32)), .val (.ref b41), .val (.ref sa53), .val (.ref b54)] [(.int (1 : Int32))])
      refine DoneW.go (fun _ kt_ => XS.goto X57h.here hx rfl (pc0 := 131) (pc' := 135) rfl (hb hby at_131) (by decide) (by decide) kt_) ?_
      show DoneW p e s below _ _ _ T57 (mkF m 135 #[.val (.int p0), .val (.int p1), .val (.int p2), .val (.int p3), .val (.ref rk), .val (.ref rr), .val (.int (0 : Int32)), .val (.ref b41), .val (.ref sa53), .val (.ref b54)] [(.int (1 : Int32))])
      refine DoneW.retN X57h hx ⟨hlk, _, hS56, (by rw [e57]; exact HK56)⟩ (t := .boolean) hrt (by simp) (z' := (1 : Int32)) rfl (hb hby at_135) ?_ (by first | decide | omega) (by first | decide | omega)
      rw [e57]
      exact ⟨rfl, N57h⟩
  · skip
    refine DoneW.go (fun _ kt_ => XS.ifNo X40h.here hx rfl (hb hby at_22) rfl ((if0 _ _).trans (feq hc22).1) kt_) ?_
    show DoneW p e s below _ _ _ T40 (mkF m 25 #[.val (.int p0), .val (.int p1), .val (.int p2), .val (.int p3), .val (.ref rk), .val (.ref rr), .unset, .unset, .unset, .unset] [])
    refine DoneW.go (fun _ kt_ => XS.iconst X40h.here hx rfl (hb hby at_25) kt_) ?_
    show DoneW p e s below _ _ _ T40 (mkF m 26 #[.val (.int p0), .val (.int p1), .val (.int p2), .val (.int p3), .val (.ref rk), .val (.ref rr), .unset, .unset, .unset, .unset] [(.int (1 : Int32))])
    refine DoneW.go (fun _ kt_ => XS.goto X40h.here hx rfl (pc0 := 26) (pc' := 30) rfl (hb hby at_26) (by decide) (by decide) kt_) ?_
    show DoneW p e s below _ _ _ T40 (mkF m 30 #[.val (.int p0), .val (.int p1), .val (.int p2), .val (.int p3), .val (.ref rk), .val (.ref rr), .unset, .unset, .unset, .unset] [(.int (1 : Int32))])
    refine DoneW.go (fun _ kt_ => XS.istore X40h.here hx rfl (hb hby at_30) rfl (l' := #[.val (.int p0), .val (.int p1), .val (.int p2), .val (.int p3), .val (.ref rk), .val (.ref rr), .val (.int (1 : Int32)), .unset, .unset, .unset]) rfl kt_) ?_
    show DoneW p e s below _ _ _ T40 (mkF m 32 #[.val (.int p0), .val (.int p1), .val (.int p2), .val (.int p3), .val (.ref rk), .val (.ref rr), .val (.int (1 : Int32)), .unset, .unset, .unset] [])
    refine DoneW.go (fun _ kt_ => XS.iconst X40h.here hx rfl (hb hby at_32) kt_) ?_
    show DoneW p e s below _ _ _ T40 (mkF m 33 #[.val (.int p0), .val (.int p1), .val (.int p2), .val (.int p3), .val (.ref rk), .val (.ref rr), .val (.int (1 : Int32)), .unset, .unset, .unset] [(.int (2 : Int32))])
    obtain ⟨T58, h58, k58, X58, e58, E58, A58, st58⟩ := newP X40h hx hZ (hw _ (List.mem_of_getElem? (i := 14) rfl)) e40 (g := (mkF m 33 #[.val (.int p0), .val (.int p1), .val (.int p2), .val (.int p3), .val (.ref rk), .val (.ref rr), .val (.int (1 : Int32)), .unset, .unset, .unset] [(.int (2 : Int32))])) rfl (hb hby at_33) rfl (by decide) (cap := 2) (by decide) (by decide) (by first | decide | omega) (by first | decide | omega)
    obtain ⟨b58, g58⟩ : ∃ z, z = h0.size := ⟨_, rfl⟩
    rw [← g58] at A58 st58
    have gz_b58 : n0 ≤ b58 := Nat.le_trans Z0 (Nat.le_of_eq g58.symm)
    have Z58 : n0 ≤ h58.size := Nat.le_trans Z0 E58.1
    have HK58 := Nat.le_trans HK0 E58.1
    obtain ⟨Lh58, X58h, N58h⟩ : ∃ L, Stand p l e room_1 s m #[(.int p0), (.int p1), (.int p2), (.int p3)] below meth c T58 L 1 2 ∧ Fr n0 L := ⟨_, X58, N40h⟩
    clear X58 N40h X40h e40
    have V58 := Ari.new A58 (by decide) (n := 2) rfl rfl
    refine DoneW.go st58 ?_
    clear st58
    show DoneW p e s below _ _ _ T58 (mkF m 35 #[.val (.int p0), .val (.int p1), .val (.int p2), .val (.int p3), .val (.ref rk), .val (.ref rr), .val (.int (1 : Int32)), .unset, .unset, .unset] [(.ref b58)])
    refine DoneW.go (fun _ kt_ => XS.astore X58h.here hx rfl (hb hby at_35) rfl rfl (l' := #[.val (.int p0), .val (.int p1), .val (.int p2), .val (.int p3), .val (.ref rk), .val (.ref rr), .val (.int (1 : Int32)), .val (.ref b58), .unset, .unset]) rfl kt_) ?_
    show DoneW p e s below _ _ _ T58 (mkF m 37 #[.val (.int p0), .val (.int p1), .val (.int p2), .val (.int p3), .val (.ref rk), .val (.ref rr), .val (.int (1 : Int32)), .val (.ref b58), .unset, .unset] [])
    refine DoneW.go (fun _ kt_ => XS.aload X58h.here hx rfl (hb hby at_37) rfl rfl kt_) ?_
    show DoneW p e s below _ _ _ T58 (mkF m 39 #[.val (.int p0), .val (.int p1), .val (.int p2), .val (.int p3), .val (.ref rk), .val (.ref rr), .val (.int (1 : Int32)), .val (.ref b58), .unset, .unset] [(.ref b58)])
    refine DoneW.go (fun _ kt_ => XS.iconst X58h.here hx rfl (hb hby at_39) kt_) ?_
    show DoneW p e s below _ _ _ T58 (mkF m 40 #[.val (.int p0), .val (.int p1), .val (.int p2), .val (.int p3), .val (.ref rk), .val (.ref rr), .val (.int (1 : Int32)), .val (.ref b58), .unset, .unset] [(.int (0 : Int32)), (.ref b58)])
    refine DoneW.go (fun _ kt_ => XS.iloadN X58h.here hx rfl (hb hby at_40) rfl kt_) ?_
    show DoneW p e s below _ _ _ T58 (mkF m 41 #[.val (.int p0), .val (.int p1), .val (.int p2), .val (.int p3), .val (.ref rk), .val (.ref rr), .val (.int (1 : Int32)), .val (.ref b58), .unset, .unset] [(.int p3), (.int (0 : Int32)), (.ref b58)])
    refine DoneW.go (fun _ kt_ => XS.sipush X58h.here hx rfl (hb hby at_41) kt_) ?_
    show DoneW p e s below _ _ _ T58 (mkF m 44 #[.val (.int p0), .val (.int p1), .val (.int p2), .val (.int p3), .val (.ref rk), .val (.ref rr), .val (.int (1 : Int32)), .val (.ref b58), .unset, .unset] [(.int (255 : Int32)), (.int p3), (.int (0 : Int32)), (.ref b58)])
    refine DoneW.go (fun _ kt_ => XS.iand X58h.here hx rfl (hb hby at_44) rfl kt_) ?_
    show DoneW p e s below _ _ _ T58 (mkF m 45 #[.val (.int p0), .val (.int p1), .val (.int p2), .val (.int p3), .val (.ref rk), .val (.ref rr), .val (.int (1 : Int32)), .val (.ref b58), .unset, .unset] [(.int (p3 &&& (255 : Int32))), (.int (0 : Int32)), (.ref b58)])
    refine DoneW.go (fun _ kt_ => XS.i2c X58h.here hx rfl (hb hby at_45) rfl kt_) ?_
    show DoneW p e s below _ _ _ T58 (mkF m 46 #[.val (.int p0), .val (.int p1), .val (.int p2), .val (.int p3), .val (.ref rk), .val (.ref rr), .val (.int (1 : Int32)), .val (.ref b58), .unset, .unset] [(.int ((p3 &&& (255 : Int32)).toUInt32.toUInt16.toUInt32.toInt32)), (.int (0 : Int32)), (.ref b58)])
    obtain ⟨T59, h59, X59, e59, W59, V59, st59⟩ := own_stC X58h hx hZ e58 V58 (j := (0 : Int32)) 0 (by decide) rfl (by omega) (g := (mkF m 46 #[.val (.int p0), .val (.int p1), .val (.int p2), .val (.int p3), .val (.ref rk), .val (.ref rr), .val (.int (1 : Int32)), .val (.ref b58), .unset, .unset] [(.int ((p3 &&& (255 : Int32)).toUInt32.toUInt16.toUInt32.toInt32)), (.int (0 : Int32)), (.ref b58)])) rfl rfl (hb hby at_46)
    have N59 := Fr.snoc X59 N58h gz_b58
    have Z59 : n0 ≤ h59.size := by rw [W59.size]; exact Z58
    have HK59 := Nat.le_trans HK58 (Nat.le_of_eq W59.size.symm)
    obtain ⟨Lh59, X59h, N59h⟩ : ∃ L, Stand p l e room_1 s m #[(.int p0), (.int p1), (.int p2), (.int p3)] below meth c T59 L 1 2 ∧ Fr n0 L := ⟨_, X59, N59⟩
    clear X59 N59 X58h e58 N58h Z58
    refine DoneW.go st59 ?_
    clear st59
    show DoneW p e s below _ _ _ T59 (mkF m 47 #[.val (.int p0), .val (.int p1), .val (.int p2), .val (.int p3), .val (.ref rk), .val (.ref rr), .val (.int (1 : Int32)), .val (.ref b58), .unset, .unset] [])
    refine DoneW.go (fun _ kt_ => XS.aload X59h.here hx rfl (hb hby at_47) rfl rfl kt_) ?_
    show DoneW p e s below _ _ _ T59 (mkF m 49 #[.val (.int p0), .val (.int p1), .val (.int p2), .val (.int p3), .val (.ref rk), .val (.ref rr), .val (.int (1 : Int32)), .val (.ref b58), .unset, .unset] [(.ref b58)])
    refine DoneW.go (fun _ kt_ => XS.iconst X59h.here hx rfl (hb hby at_49) kt_) ?_
    show DoneW p e s below _ _ _ T59 (mkF m 50 #[.val (.int p0), .val (.int p1), .val (.int p2), .val (.int p3), .val (.ref rk), .val (.ref rr), .val (.int (1 : Int32)), .val (.ref b58), .unset, .unset] [(.int (1 : Int32)), (.ref b58)])
    refine DoneW.go (fun _ kt_ => XS.iloadN X59h.here hx rfl (hb hby at_50) rfl kt_) ?_
    show DoneW p e s below _ _ _ T59 (mkF m 51 #[.val (.int p0), .val (.int p1), .val (.int p2), .val (.int p3), .val (.ref rk), .val (.ref rr), .val (.int (1 : Int32)), .val (.ref b58), .unset, .unset] [(.int p3), (.int (1 : Int32)), (.ref b58)])
    refine DoneW.go (fun _ kt_ => XS.bipush X59h.here hx rfl (hb hby at_51) kt_) ?_
    show DoneW p e s below _ _ _ T59 (mkF m 53 #[.val (.int p0), .val (.int p1), .val (.int p2), .val (.int p3), .val (.ref rk), .val (.ref rr), .val (.int (1 : Int32)), .val (.ref b58), .unset, .unset] [(.int (8 : Int32)), (.int p3), (.int (1 : Int32)), (.ref b58)])
    refine DoneW.go (fun _ kt_ => XS.iushr X59h.here hx rfl (hb hby at_53) rfl kt_) ?_
    show DoneW p e s below _ _ _ T59 (mkF m 54 #[.val (.int p0), .val (.int p1), .val (.int p2), .val (.int p3), .val (.ref rk), .val (.ref rr), .val (.int (1 : Int32)), .val (.ref b58), .unset, .unset] [(.int ((p3.toUInt32 >>> ((8 : Int32) &&& 31).toUInt32).toInt32)), (.int (1 : Int32)), (.ref b58)])
    refine DoneW.go (fun _ kt_ => XS.sipush X59h.here hx rfl (hb hby at_54) kt_) ?_
    show DoneW p e s below _ _ _ T59 (mkF m 57 #[.val (.int p0), .val (.int p1), .val (.int p2), .val (.int p3), .val (.ref rk), .val (.ref rr), .val (.int (1 : Int32)), .val (.ref b58), .unset, .unset] [(.int (255 : Int32)), (.int ((p3.toUInt32 >>> ((8 : Int32) &&& 31).toUInt32).toInt32)), (.int (1 : Int32)), (.ref b58)])
    refine DoneW.go (fun _ kt_ => XS.iand X59h.here hx rfl (hb hby at_57) rfl kt_) ?_
    show DoneW p e s below _ _ _ T59 (mkF m 58 #[.val (.int p0), .val (.int p1), .val (.int p2), .val (.int p3), .val (.ref rk), .val (.ref rr), .val (.int (1 : Int32)), .val (.ref b58), .unset, .unset] [(.int (((p3.toUInt32 >>> ((8 : Int32) &&& 31).toUInt32).toInt32) &&& (255 : Int32))), (.int (1 : Int32)), (.ref b58)])
    refine DoneW.go (fun _ kt_ => XS.i2c X59h.here hx rfl (hb hby at_58) rfl kt_) ?_
    show DoneW p e s below _ _ _ T59 (mkF m 59 #[.val (.int p0), .val (.int p1), .val (.int p2), .val (.int p3), .val (.ref rk), .val (.ref rr), .val (.int (1 : Int32)), .val (.ref b58), .unset, .unset] [(.int ((((p3.toUInt32 >>> ((8 : Int32) &&& 31).toUInt32).toInt32) &&& (255 : Int32)).toUInt32.toUInt16.toUInt32.toInt32)), (.int (1 : Int32)), (.ref b58)])
    obtain ⟨T60, h60, X60, e60, W60, V60, st60⟩ := own_stC X59h hx hZ e59 V59 (j := (1 : Int32)) 1 (by decide) rfl (by omega) (g := (mkF m 59 #[.val (.int p0), .val (.int p1), .val (.int p2), .val (.int p3), .val (.ref rk), .val (.ref rr), .val (.int (1 : Int32)), .val (.ref b58), .unset, .unset] [(.int ((((p3.toUInt32 >>> ((8 : Int32) &&& 31).toUInt32).toInt32) &&& (255 : Int32)).toUInt32.toUInt16.toUInt32.toInt32)), (.int (1 : Int32)), (.ref b58)])) rfl rfl (hb hby at_59)
    have N60 := Fr.snoc X60 N59h gz_b58
    have Z60 : n0 ≤ h60.size := by rw [W60.size]; exact Z59
    have HK60 := Nat.le_trans HK59 (Nat.le_of_eq W60.size.symm)
    obtain ⟨Lh60, X60h, N60h⟩ : ∃ L, Stand p l e room_1 s m #[(.int p0), (.int p1), (.int p2), (.int p3)] below meth c T60 L 1 2 ∧ Fr n0 L := ⟨_, X60, N60⟩
    clear X60 N60 X59h e59 N59h Z59
    refine DoneW.go st60 ?_
    clear st60
    show DoneW p e s below _ _ _ T60 (mkF m 60 #[.val (.int p0), .val (.int p1), .val (.int p2), .val (.int p3), .val (.ref rk), .val (.ref rr), .val (.int (1 : Int32)), .val (.ref b58), .unset, .unset] [])
    refine DoneW.go (fun _ kt_ => XS.iloadN X60h.here hx rfl (hb hby at_60) rfl kt_) ?_
    show DoneW p e s below _ _ _ T60 (mkF m 61 #[.val (.int p0), .val (.int p1), .val (.int p2), .val (.int p3), .val (.ref rk), .val (.ref rr), .val (.int (1 : Int32)), .val (.ref b58), .unset, .unset] [(.int p2)])
    refine DoneW.go (fun _ kt_ => XS.iconst X60h.here hx rfl (hb hby at_61) kt_) ?_
    show DoneW p e s below _ _ _ T60 (mkF m 62 #[.val (.int p0), .val (.int p1), .val (.int p2), .val (.int p3), .val (.ref rk), .val (.ref rr), .val (.int (1 : Int32)), .val (.ref b58), .unset, .unset] [(.int (2 : Int32)), (.int p2)])
    refine DoneW.go (fun _ kt_ => XS.iand X60h.here hx rfl (hb hby at_62) rfl kt_) ?_
    show DoneW p e s below _ _ _ T60 (mkF m 63 #[.val (.int p0), .val (.int p1), .val (.int p2), .val (.int p3), .val (.ref rk), .val (.ref rr), .val (.int (1 : Int32)), .val (.ref b58), .unset, .unset] [(.int (p2 &&& (2 : Int32)))])
    by_cases hc63 : (p2 &&& (2 : Int32)) = (0 : Int32)
    · skip
      refine DoneW.go (fun _ kt_ => XS.ifYes X60h.here hx rfl (pc0 := 63) (pc' := 73) rfl (hb hby at_63) rfl ((if0 _ _).trans (teq hc63).1) (by decide) (by decide) kt_) ?_
      show DoneW p e s below _ _ _ T60 (mkF m 73 #[.val (.int p0), .val (.int p1), .val (.int p2), .val (.int p3), .val (.ref rk), .val (.ref rr), .val (.int (1 : Int32)), .val (.ref b58), .unset, .unset] [])
      obtain ⟨T61, h61, X61, e61, E61, A61, D61, -, st61⟩ := newO X60h hx hZ hown (hw _ (List.mem_of_getElem? (i := 53) rfl)) (hw _ (List.mem_of_getElem? (i := 17) rfl)) (hw _ (List.mem_of_getElem? (i := 16) rfl)) e60 (g := (mkF m 73 #[.val (.int p0), .val (.int p1), .val (.int p2), .val (.int p3), .val (.ref rk), .val (.ref rr), .val (.int (1 : Int32)), .val (.ref b58), .unset, .unset] [])) rfl (hb hby at_73) (by first | decide | omega) (by first | decide | omega)
      obtain ⟨b61, g61⟩ : ∃ z, z = h60.size := ⟨_, rfl⟩
      rw [← g61] at A61 D61 st61
      have ne_b58_b61 : b58 ≠ b61 := Nat.ne_of_lt (Nat.lt_of_lt_of_le V60.lt (Nat.le_of_eq g61.symm))
      have gz_b61 : n0 ≤ b61 := Nat.le_trans Z60 (Nat.le_of_eq g61.symm)
      have Z61 : n0 ≤ h61.size := Nat.le_trans Z60 E61.1
      have HK61 := Nat.le_trans HK60 E61.1
      obtain ⟨Lh61, X61h, N61h⟩ : ∃ L, Stand p l e room_1 s m #[(.int p0), (.int p1), (.int p2), (.int p3)] below meth c T61 L 2 6 ∧ Fr n0 L := ⟨_, X61, N60h⟩
      clear X61 N60h X60h e60 Z60
      have F61_value : Fld Z h61 b61 "java/lang/String" "value" "[B" .null := D61 (Or.inr (hw _ (List.mem_of_getElem? (i := 19) rfl))) (ty := (.array .byte)) (by decide)
      have F61_coder : Fld Z h61 b61 "java/lang/String" "coder" "B" (.int (0 : Int32)) := D61 (Or.inr (hw _ (List.mem_of_getElem? (i := 20) rfl))) (ty := .byte) (by decide)
      refine DoneW.go st61 ?_
      clear st61
      show DoneW p e s below _ _ _ T61 (mkF m 76 #[.val (.int p0), .val (.int p1), .val (.int p2), .val (.int p3), .val (.ref rk), .val (.ref rr), .val (.int (1 : Int32)), .val (.ref b58), .unset, .unset] [(.ref b61)])
      refine DoneW.go (fun _ kt_ => XS.dup X61h.here hx rfl (hb hby at_76) rfl rfl kt_) ?_
      show DoneW p e s below _ _ _ T61 (mkF m 77 #[.val (.int p0), .val (.int p1), .val (.int p2), .val (.int p3), .val (.ref rk), .val (.ref rr), .val (.int (1 : Int32)), .val (.ref b58), .unset, .unset] [(.ref b61), (.ref b61)])
      refine DoneW.go (fun _ kt_ => XS.aload X61h.here hx rfl (hb hby at_77) rfl rfl kt_) ?_
      show DoneW p e s below _ _ _ T61 (mkF m 79 #[.val (.int p0), .val (.int p1), .val (.int p2), .val (.int p3), .val (.ref rk), .val (.ref rr), .val (.int (1 : Int32)), .val (.ref b58), .unset, .unset] [(.ref b58), (.ref b61), (.ref b61)])
      have f62 := (V60.ext E61)
      obtain ⟨kC, VC⟩ := Ari.arv (cs := [nar .char ((p3 &&& (255 : Int32)).toUInt32.toUInt16.toUInt32.toInt32), nar .char ((((p3.toUInt32 >>> ((8 : Int32) &&& 31).toUInt32).toInt32) &&& (255 : Int32)).toUInt32.toUInt16.toUInt32.toInt32)]) f62 rfl (fun i hi => by match i, hi with | 0, _ => rfl | 1, _ => rfl) (fun c hc => by simp only [List.mem_cons, List.not_mem_nil, or_false] at hc; rcases hc with rfl | rfl <;> exact own_ch _) (N := 2) rfl (by decide)
      have f63 := ((((Sc.ext E58).wr W59).wr W60).ext E61)
      obtain ⟨v64, T64, Lc64, X64, hQ64, st64⟩ := own_backV (X61h.specialBack hx (y := (⟨"java/lang/String", "<init>", "([C)V"⟩ : MethodName)) rfl hown (mvT hZ (hw _ (List.mem_of_getElem? (i := 54) rfl))) (mvT hZ (hw _ (List.mem_of_getElem? (i := 55) rfl))) (mvT hZ (hw _ (List.mem_of_getElem? (i := 56) rfl))) (by decide) (StrChars.Road.backV (W := 1) (n := 2) (N := 2) hZ (fun d hd => hw d ((by decide +kernel : ∀ d ∈ StrChars.Road.words, d ∈ tables_1) d hd)) (kI := 4) (hw _ (List.mem_of_getElem? (i := 17) rfl)) gz_b61 Z61 A61 F61_value F61_coder VC f63 hcz rfl rfl (by decide) (by decide) (fun c hc => by simp only [List.mem_cons, List.not_mem_nil, or_false] at hc; rcases hc with rfl | rfl <;> exact own_ch _) rfl (by decide) (by decide)) (g := (mkF m 79 #[.val (.int p0), .val (.int p1), .val (.int p2), .val (.int p3), .val (.ref rk), .val (.ref rr), .val (.int (1 : Int32)), .val (.ref b58), .unset, .unset] [(.ref b58), (.ref b61), (.ref b61)])) rfl (by rw [hml]; rfl) (Steps.refl _) (a := b61) (argsL := [(.ref b58)]) (rest := [(.ref b61)]) (lenOf own_pd4 rfl) rfl (by show 2 * 0 + _ ≤ _; exact Nat.le_of_eq rfl) (hb hby at_79) (fun _ _ => ⟨rfl, e61, (by first | decide | omega : 2 + 1 ≤ _), (by first | decide | omega : 6 + 2 ≤ _)⟩))
      obtain ⟨rfl, N64q, K64k, _, _, _⟩ := hQ64
      refine DoneW.go st64 ?_
      clear st64
      have N64 := Fr.app N61h N64q
      clear N64q
      have HK64 := Nat.le_trans HK61 K64k.1
      have Z64 : n0 ≤ T64.heap.size := Nat.le_trans Z61 K64k.1
      obtain ⟨Lh64, X64h, N64h⟩ : ∃ L, Stand p l e room_1 s m #[(.int p0), (.int p1), (.int p2), (.int p3)] below meth c T64 L 3 8 ∧ Fr n0 L := ⟨_, X64, N64⟩
      clear X64 N64 X61h e61 N61h Z61
      show DoneW p e s below _ _ _ T64 (mkF m 82 #[.val (.int p0), .val (.int p1), .val (.int p2), .val (.int p3), .val (.ref rk), .val (.ref rr), .val (.int (1 : Int32)), .val (.ref b58), .unset, .unset] [(.ref b61)])
      refine DoneW.go (fun _ kt_ => XS.astore X64h.here hx rfl (hb hby at_82) rfl rfl (l' := #[.val (.int p0), .val (.int p1), .val (.int p2), .val (.int p3), .val (.ref rk), .val (.ref rr), .val (.int (1 : Int32)), .val (.ref b58), .val (.ref b61), .unset]) rfl kt_) ?_
      show DoneW p e s below _ _ _ T64 (mkF m 84 #[.val (.int p0), .val (.int p1), .val (.int p2), .val (.int p3), .val (.ref rk), .val (.ref rr), .val (.int (1 : Int32)), .val (.ref b58), .val (.ref b61), .unset] [])
      refine DoneW.go (fun _ kt_ => XS.iload X64h.here hx rfl (hb hby at_84) rfl kt_) ?_
      show DoneW p e s below _ _ _ T64 (mkF m 86 #[.val (.int p0), .val (.int p1), .val (.int p2), .val (.int p3), .val (.ref rk), .val (.ref rr), .val (.int (1 : Int32)), .val (.ref b58), .val (.ref b61), .unset] [(.int (1 : Int32))])
      refine DoneW.go (fun _ kt_ => XS.ifNo X64h.here hx rfl (hb hby at_86) rfl ((if0 _ _).trans (feq (by decide)).1) kt_) ?_
      show DoneW p e s below _ _ _ T64 (mkF m 89 #[.val (.int p0), .val (.int p1), .val (.int p2), .val (.int p3), .val (.ref rk), .val (.ref rr), .val (.int (1 : Int32)), .val (.ref b58), .val (.ref b61), .unset] [])
      obtain ⟨T65, h65, X65, e65, E65, A65, D65, -, st65⟩ := newO X64h hx hZ hown (hw _ (List.mem_of_getElem? (i := 23) rfl)) (hw _ (List.mem_of_getElem? (i := 24) rfl)) (hw _ (List.mem_of_getElem? (i := 25) rfl)) rfl (g := (mkF m 89 #[.val (.int p0), .val (.int p1), .val (.int p2), .val (.int p3), .val (.ref rk), .val (.ref rr), .val (.int (1 : Int32)), .val (.ref b58), .val (.ref b61), .unset] [])) rfl (hb hby at_89) (by first | decide | omega) (by first | decide | omega)
      have f66 := (f62.keep K64k (ninS ne_b58_b61 nin0))
      have f67 := (A61.keep K64k)
      obtain ⟨b65, g65⟩ : ∃ z, z = T64.heap.size := ⟨_, rfl⟩
      rw [← g65] at A65 D65 st65
      have ne_b58_b65 : b58 ≠ b65 := Nat.ne_of_lt (Nat.lt_of_lt_of_le f66.lt (Nat.le_of_eq g65.symm))
      have ne_b61_b65 : b61 ≠ b65 := Nat.ne_of_lt (Nat.lt_of_lt_of_le f67.lt (Nat.le_of_eq g65.symm))
      have gz_b65 : n0 ≤ b65 := Nat.le_trans Z64 (Nat.le_of_eq g65.symm)
      have Z65 : n0 ≤ h65.size := Nat.le_trans Z64 E65.1
      have HK65 := Nat.le_trans HK64 E65.1
      obtain ⟨Lh65, X65h, N65h⟩ : ∃ L, Stand p l e room_1 s m #[(.int p0), (.int p1), (.int p2), (.int p3)] below meth c T65 L 4 11 ∧ Fr n0 L := ⟨_, X65, N64h⟩
      clear X65 N64h X64h Z64
      have F65_kind : Fld Z h65 b65 "spinecode/identifier/Judgement" "kind" "Lspinecode/identifier/Kind;" .null := D65 (Or.inr (hw _ (List.mem_of_getElem? (i := 43) rfl))) (ty := (.object "spinecode/identifier/Kind")) (by decide)
      have F65_normalForm : Fld Z h65 b65 "spinecode/identifier/Judgement" "normalForm" "Ljava/lang/String;" .null := D65 (Or.inr (hw _ (List.mem_of_getElem? (i := 45) rfl))) (ty := (.object "java/lang/String")) (by decide)
      have F65_reason : Fld Z h65 b65 "spinecode/identifier/Judgement" "reason" "Lspinecode/identifier/Reason;" .null := D65 (Or.inr (hw _ (List.mem_of_getElem? (i := 47) rfl))) (ty := (.object "spinecode/identifier/Reason")) (by decide)
      refine DoneW.go st65 ?_
      clear st65
      show DoneW p e s below _ _ _ T65 (mkF m 92 #[.val (.int p0), .val (.int p1), .val (.int p2), .val (.int p3), .val (.ref rk), .val (.ref rr), .val (.int (1 : Int32)), .val (.ref b58), .val (.ref b61), .unset] [(.ref b65)])
      refine DoneW.go (fun _ kt_ => XS.dup X65h.here hx rfl (hb hby at_92) rfl rfl kt_) ?_
      show DoneW p e s below _ _ _ T65 (mkF m 93 #[.val (.int p0), .val (.int p1), .val (.int p2), .val (.int p3), .val (.ref rk), .val (.ref rr), .val (.int (1 : Int32)), .val (.ref b58), .val (.ref b61), .unset] [(.ref b65), (.ref b65)])
      refine DoneW.go (fun _ kt_ => XS.aload X65h.here hx rfl (hb hby at_93) rfl rfl kt_) ?_
      show DoneW p e s below _ _ _ T65 (mkF m 95 #[.val (.int p0), .val (.int p1), .val (.int p2), .val (.int p3), .val (.ref rk), .val (.ref rr), .val (.int (1 : Int32)), .val (.ref b58), .val (.ref b61), .unset] [(.ref rk), (.ref b65), (.ref b65)])
      refine DoneW.go (fun _ kt_ => XS.aload X65h.here hx rfl (hb hby at_95) rfl rfl kt_) ?_
      show DoneW p e s below _ _ _ T65 (mkF m 97 #[.val (.int p0), .val (.int p1), .val (.int p2), .val (.int p3), .val (.ref rk), .val (.ref rr), .val (.int (1 : Int32)), .val (.ref b58), .val (.ref b61), .unset] [(.ref b61), (.ref rk), (.ref b65), (.ref b65)])
      refine DoneW.go (fun _ kt_ => XS.aconstNull X65h.here hx rfl (hb hby at_97) kt_) ?_
      show DoneW p e s below _ _ _ T65 (mkF m 98 #[.val (.int p0), .val (.int p1), .val (.int p2), .val (.int p3), .val (.ref rk), .val (.ref rr), .val (.int (1 : Int32)), .val (.ref b58), .val (.ref b61), .unset] [.null, (.ref b61), (.ref rk), (.ref b65), (.ref b65)])
      obtain ⟨v68, T68, Lc68, bs68, X68, hQ68, hS68, hZ, hown, st68⟩ := own_backW hZ hown hS0 (by rw [e65]; exact HK65) (X65h.specialBackS hx (y := (⟨"spinecode/identifier/Judgement", "<init>", "(Lspinecode/identifier/Kind;Ljava/lang/String;Lspinecode/identifier/Reason;)V"⟩ : MethodName)) rfl hown (mvT hZ (hw _ (List.mem_of_getElem? (i := 26) rfl))) (mvT hZ (hw _ (List.mem_of_getElem? (i := 27) rfl))) (mvT hZ (hw _ (List.mem_of_getElem? (i := 28) rfl))) (by decide) (backOfS (W := 1) (rm3V l Z a0 hw [] b65 rk b61 h65 n0 Z65 A65 gz_b65 F65_kind F65_normalForm F65_reason) hZ (hw _ (List.mem_of_getElem? (i := 28) rfl)) (hw _ (List.mem_of_getElem? (i := 25) rfl)) (by decide) (by decide)) (g := (mkF m 98 #[.val (.int p0), .val (.int p1), .val (.int p2), .val (.int p3), .val (.ref rk), .val (.ref rr), .val (.int (1 : Int32)), .val (.ref b58), .val (.ref b61), .unset] [.null, (.ref b61), (.ref rk), (.ref b65), (.ref b65)])) rfl (by rw [hml]; rfl) (Steps.refl _) (a := b65) (argsL := [(.ref rk), (.ref b61), .null]) (rest := [(.ref b65)]) (lenOf own_pd5 rfl) rfl (by show 2 * 0 + _ ≤ _; exact Nat.le_of_eq rfl) (hb hby at_98) (fun _ _ => ⟨rfl, e65, (by first | decide | omega : 4 + 2 ≤ _), (by first | decide | omega : 11 + 20 ≤ _)⟩))
      obtain ⟨rfl, N68q, hs68, Ej68, Fj68⟩ := hQ68
      refine DoneW.go st68 ?_
      clear st68
      have N68 := Fr.app N65h N68q
      clear N68q
      have HK68 := Nat.le_refl T68.heap.size
      have Z68 : n0 ≤ T68.heap.size := Nat.le_trans Z65 hs68
      obtain ⟨Lh68, X68h, N68h⟩ : ∃ L, Stand p l e room_1 bs68 m #[(.int p0), (.int p1), (.int p2), (.int p3)] below meth c T68 L 6 31 ∧ Fr n0 L := ⟨_, X68, N68⟩
      clear X68 N68 X65h e65 N65h Z65
      show DoneW p e s below _ _ _ T68 (mkF m 101 #[.val (.int p0), .val (.int p1), .val (.int p2), .val (.int p3), .val (.ref rk), .val (.ref rr), .val (.int (1 : Int32)), .val (.ref b58), .val (.ref b61), .unset] [(.ref b65)])
      refine DoneW.go (fun _ kt_ => XS.astore X68h.here hx rfl (hb hby at_101) rfl rfl (l' := #[.val (.int p0), .val (.int p1), .val (.int p2), .val (.int p3), .val (.ref rk), .val (.ref rr), .val (.int (1 : Int32)), .val (.ref b58), .val (.ref b61), .val (.ref b65)]) rfl kt_) ?_
      show DoneW p e s below _ _ _ T68 (mkF m 103 #[.val (.int p0), .val (.int p1), .val (.int p2), .val (.int p3), .val (.ref rk), .val (.ref rr), .val (.int (1 : Int32)), .val (.ref b58), .val (.ref b61), .val (.ref b65)] [])
      refine DoneW.go (fun _ kt_ => XS.goto X68h.here hx rfl (pc0 := 103) (pc' := 120) rfl (hb hby at_103) (by decide) (by decide) kt_) ?_
      show DoneW p e s below _ _ _ T68 (mkF m 120 #[.val (.int p0), .val (.int p1), .val (.int p2), .val (.int p3), .val (.ref rk), .val (.ref rr), .val (.int (1 : Int32)), .val (.ref b58), .val (.ref b61), .val (.ref b65)] [])
      refine DoneW.go (fun _ kt_ => XS.aload X68h.here hx rfl (hb hby at_120) rfl rfl kt_) ?_
      show DoneW p e s below _ _ _ T68 (mkF m 122 #[.val (.int p0), .val (.int p1), .val (.int p2), .val (.int p3), .val (.ref rk), .val (.ref rr), .val (.int (1 : Int32)), .val (.ref b58), .val (.ref b61), .val (.ref b65)] [(.ref b65)])
      obtain ⟨cq69, kq69, q69a, q69b, q69c⟩ := isOf hZ rfl Ej68
      obtain ⟨v69, T69, Lc69, X69, hQ69, st69⟩ := own_backV (X68h.virtualBack hx (y := (⟨"spinecode/identifier/Judgement", "isValid", "()Z"⟩ : MethodName)) (z := (⟨"spinecode/identifier/Judgement", "isValid", "()Z"⟩ : MethodName)) hown (mvT hZ (hw _ (List.mem_of_getElem? (i := 48) rfl))) (mvT hZ (hw _ (List.mem_of_getElem? (i := 49) rfl))) (notFace_of_selects (args := #[]) (mvT hZ (hw _ (List.mem_of_getElem? (i := 51) rfl)))) (mvT hZ (hw _ (List.mem_of_getElem? (i := 51) rfl))) (mvT hZ (hw _ (List.mem_of_getElem? (i := 50) rfl))) (by decide) (backOf (W := 0)  (rm7V l Z a0 hw [] b65 T68.heap n0 Z68 Fj68) hZ (hw _ (List.mem_of_getElem? (i := 52) rfl)) (hw _ (List.mem_of_getElem? (i := 25) rfl)) (by decide) (by decide)) q69a q69c (g := (mkF m 122 #[.val (.int p0), .val (.int p1), .val (.int p2), .val (.int p3), .val (.ref rk), .val (.ref rr), .val (.int (1 : Int32)), .val (.ref b58), .val (.ref b61), .val (.ref b65)] [(.ref b65)])) rfl (by rw [hml]; rfl) (Steps.refl _) (argsL := []) (rest := []) (lenOf own_pd6 rfl) rfl (by show 2 * 0 + _ ≤ _; exact Nat.le_of_eq rfl) (hb hby at_122) (fun _ _ => ⟨rfl, rfl, (by first | decide | omega : 6 + 0 ≤ _), (by first | decide | omega : 31 + 0 ≤ _)⟩))
      obtain ⟨rfl, N69q, e69⟩ := hQ69
      refine DoneW.go st69 ?_
      clear st69
      have N69 := Fr.app N68h N69q
      clear N69q
      obtain ⟨Lh69, X69h, N69h⟩ : ∃ L, Stand p l e room_1 bs68 m #[(.int p0), (.int p1), (.int p2), (.int p3)] below meth c T69 L 6 31 ∧ Fr n0 L := ⟨_, X69, N69⟩
      clear X69 N69 X68h N68h
      show DoneW p e s below _ _ _ T69 (mkF m 125 #[.val (.int p0), .val (.int p1), .val (.int p2), .val (.int p3), .val (.ref rk), .val (.ref rr), .val (.int (1 : Int32)), .val (.ref b58), .val (.ref b61), .val (.ref b65)] [(.int (1 : Int32))])
      refine DoneW.go (fun _ kt_ => XS.iload X69h.here hx rfl (hb hby at_125) rfl kt_) ?_
      show DoneW p e s below _ _ _ T69 (mkF m 127 #[.val (.int p0), .val (.int p1), .val (.int p2), .val (.int p3), .val (.ref rk), .val (.ref rr), .val (.int (1 : Int32)), .val (.ref b58), .val (.ref b61), .val (.ref b65)] [(.int (1 : Int32)), (.int (1 : Int32))])
      refine DoneW.go (fun _ kt_ => XS.icmpNo X69h.here hx rfl (hb hby at_127) rfl (teq rfl).2 kt_) ?_
      show DoneW p e s below _ _ _ T69 (mkF m 130 #[.val (.int p0), .val (.int p1), .val (.int p2), .val (.int p3), .val (.ref rk), .val (.ref rr), .val (.int (1 : Int32)), .val (.ref b58), .val (.ref b61), .val (.ref b65)] [])
      refine DoneW.go (fun _ kt_ => XS.iconst X69h.here hx rfl (hb hby at_130) kt_) ?_
      show DoneW p e s below _ _ _ T69 (mkF m 131 #[.val (.int p0), .val (.int p1), .val (.int p2), .val (.int p3), .val (.ref rk), .val (.ref rr), .val (.int (1 : Int32)), .val (.ref b58), .val (.ref b61), .val (.ref b65)] [(.int (1 : Int32))])
      refine DoneW.go (fun _ kt_ => XS.goto X69h.here hx rfl (pc0 := 131) (pc' := 135) rfl (hb hby at_131) (by decide) (by decide) kt_) ?_
      show DoneW p e s below _ _ _ T69 (mkF m 135 #[.val (.int p0), .val (.int p1), .val (.int p2), .val (.int p3), .val (.ref rk), .val (.ref rr), .val (.int (1 : Int32)), .val (.ref b58), .val (.ref b61), .val (.ref b65)] [(.int (1 : Int32))])
      refine DoneW.retN X69h hx ⟨hlk, _, hS68, (by rw [e69]; exact HK68)⟩ (t := .boolean) hrt (by simp) (z' := (1 : Int32)) rfl (hb hby at_135) ?_ (by first | decide | omega) (by first | decide | omega)
      rw [e69]
      exact ⟨rfl, N69h⟩
    · skip
      refine DoneW.go (fun _ kt_ => XS.ifNo X60h.here hx rfl (hb hby at_63) rfl ((if0 _ _).trans (feq hc63).1) kt_) ?_
      show DoneW p e s below _ _ _ T60 (mkF m 66 #[.val (.int p0), .val (.int p1), .val (.int p2), .val (.int p3), .val (.ref rk), .val (.ref rr), .val (.int (1 : Int32)), .val (.ref b58), .unset, .unset] [])
      obtain ⟨sa70, T70, h70, bs70, kk70, X70, e70, E70, hS70, HK70, hZ, hown, st70⟩ := own_ldcS X60h hx hZ hown (hw _ (List.mem_of_getElem? (i := 15) rfl)) (own_wS hw) e60 hS0 HK60 (g := (mkF m 66 #[.val (.int p0), .val (.int p1), .val (.int p2), .val (.int p3), .val (.ref rk), .val (.ref rr), .val (.int (1 : Int32)), .val (.ref b58), .unset, .unset] [])) rfl (hb hby at_66) (n := 0) (by decide) (by decide) (by decide) (by decide)
      have Z70 : n0 ≤ h70.size := Nat.le_trans Z60 E70.1
      obtain ⟨Lh70, X70h, N70h⟩ : ∃ L, Stand p l e room_1 bs70 m #[(.int p0), (.int p1), (.int p2), (.int p3)] below meth c T70 L 3 6 ∧ Fr n0 L := ⟨_, X70, N60h⟩
      clear X70 N60h X60h e60 Z60
      refine DoneW.go st70 ?_
      clear st70
      show DoneW p e s below _ _ _ T70 (mkF m 68 #[.val (.int p0), .val (.int p1), .val (.int p2), .val (.int p3), .val (.ref rk), .val (.ref rr), .val (.int (1 : Int32)), .val (.ref b58), .unset, .unset] [(.ref sa70)])
      refine DoneW.go (fun _ kt_ => XS.astore X70h.here hx rfl (hb hby at_68) rfl rfl (l' := #[.val (.int p0), .val (.int p1), .val (.int p2), .val (.int p3), .val (.ref rk), .val (.ref rr), .val (.int (1 : Int32)), .val (.ref b58), .val (.ref sa70), .unset]) rfl kt_) ?_
      show DoneW p e s below _ _ _ T70 (mkF m 70 #[.val (.int p0), .val (.int p1), .val (.int p2), .val (.int p3), .val (.ref rk), .val (.ref rr), .val (.int (1 : Int32)), .val (.ref b58), .val (.ref sa70), .unset] [])
      refine DoneW.go (fun _ kt_ => XS.goto X70h.here hx rfl (pc0 := 70) (pc' := 84) rfl (hb hby at_70) (by decide) (by decide) kt_) ?_
      show DoneW p e s below _ _ _ T70 (mkF m 84 #[.val (.int p0), .val (.int p1), .val (.int p2), .val (.int p3), .val (.ref rk), .val (.ref rr), .val (.int (1 : Int32)), .val (.ref b58), .val (.ref sa70), .unset] [])
      refine DoneW.go (fun _ kt_ => XS.iload X70h.here hx rfl (hb hby at_84) rfl kt_) ?_
      show DoneW p e s below _ _ _ T70 (mkF m 86 #[.val (.int p0), .val (.int p1), .val (.int p2), .val (.int p3), .val (.ref rk), .val (.ref rr), .val (.int (1 : Int32)), .val (.ref b58), .val (.ref sa70), .unset] [(.int (1 : Int32))])
      refine DoneW.go (fun _ kt_ => XS.ifNo X70h.here hx rfl (hb hby at_86) rfl ((if0 _ _).trans (feq (by decide)).1) kt_) ?_
      show DoneW p e s below _ _ _ T70 (mkF m 89 #[.val (.int p0), .val (.int p1), .val (.int p2), .val (.int p3), .val (.ref rk), .val (.ref rr), .val (.int (1 : Int32)), .val (.ref b58), .val (.ref sa70), .unset] [])
      obtain ⟨T71, h71, X71, e71, E71, A71, D71, -, st71⟩ := newO X70h hx hZ hown (hw _ (List.mem_of_getElem? (i := 23) rfl)) (hw _ (List.mem_of_getElem? (i := 24) rfl)) (hw _ (List.mem_of_getElem? (i := 25) rfl)) e70 (g := (mkF m 89 #[.val (.int p0), .val (.int p1), .val (.int p2), .val (.int p3), .val (.ref rk), .val (.ref rr), .val (.int (1 : Int32)), .val (.ref b58), .val (.ref sa70), .unset] [])) rfl (hb hby at_89) (by first | decide | omega) (by first | decide | omega)
      have f72 := (V60.ext E70)
      obtain ⟨b71, g71⟩ : ∃ z, z = h70.size := ⟨_, rfl⟩
      rw [← g71] at A71 D71 st71
      have ne_b58_b71 : b58 ≠ b71 := Nat.ne_of_lt (Nat.lt_of_lt_of_le f72.lt (Nat.le_of_eq g71.symm))
      have gz_b71 : n0 ≤ b71 := Nat.le_trans Z70 (Nat.le_of_eq g71.symm)
      have Z71 : n0 ≤ h71.size := Nat.le_trans Z70 E71.1
      have HK71 := Nat.le_trans HK70 E71.1
      obtain ⟨Lh71, X71h, N71h⟩ : ∃ L, Stand p l e room_1 bs70 m #[(.int p0), (.int p1), (.int p2), (.int p3)] below meth c T71 L 4 9 ∧ Fr n0 L := ⟨_, X71, N70h⟩
      clear X71 N70h X70h e70 Z70
      have F71_kind : Fld Z h71 b71 "spinecode/identifier/Judgement" "kind" "Lspinecode/identifier/Kind;" .null := D71 (Or.inr (hw _ (List.mem_of_getElem? (i := 43) rfl))) (ty := (.object "spinecode/identifier/Kind")) (by decide)
      have F71_normalForm : Fld Z h71 b71 "spinecode/identifier/Judgement" "normalForm" "Ljava/lang/String;" .null := D71 (Or.inr (hw _ (List.mem_of_getElem? (i := 45) rfl))) (ty := (.object "java/lang/String")) (by decide)
      have F71_reason : Fld Z h71 b71 "spinecode/identifier/Judgement" "reason" "Lspinecode/identifier/Reason;" .null := D71 (Or.inr (hw _ (List.mem_of_getElem? (i := 47) rfl))) (ty := (.object "spinecode/identifier/Reason")) (by decide)
      refine DoneW.go st71 ?_
      clear st71
      show DoneW p e s below _ _ _ T71 (mkF m 92 #[.val (.int p0), .val (.int p1), .val (.int p2), .val (.int p3), .val (.ref rk), .val (.ref rr), .val (.int (1 : Int32)), .val (.ref b58), .val (.ref sa70), .unset] [(.ref b71)])
      refine DoneW.go (fun _ kt_ => XS.dup X71h.here hx rfl (hb hby at_92) rfl rfl kt_) ?_
      show DoneW p e s below _ _ _ T71 (mkF m 93 #[.val (.int p0), .val (.int p1), .val (.int p2), .val (.int p3), .val (.ref rk), .val (.ref rr), .val (.int (1 : Int32)), .val (.ref b58), .val (.ref sa70), .unset] [(.ref b71), (.ref b71)])
      refine DoneW.go (fun _ kt_ => XS.aload X71h.here hx rfl (hb hby at_93) rfl rfl kt_) ?_
      show DoneW p e s below _ _ _ T71 (mkF m 95 #[.val (.int p0), .val (.int p1), .val (.int p2), .val (.int p3), .val (.ref rk), .val (.ref rr), .val (.int (1 : Int32)), .val (.ref b58), .val (.ref sa70), .unset] [(.ref rk), (.ref b71), (.ref b71)])
      refine DoneW.go (fun _ kt_ => XS.aload X71h.here hx rfl (hb hby at_95) rfl rfl kt_) ?_
      show DoneW p e s below _ _ _ T71 (mkF m 97 #[.val (.int p0), .val (.int p1), .val (.int p2), .val (.int p3), .val (.ref rk), .val (.ref rr), .val (.int (1 : Int32)), .val (.ref b58), .val (.ref sa70), .unset] [(.ref sa70), (.ref rk), (.ref b71), (.ref b71)])
      refine DoneW.go (fun _ kt_ => XS.aconstNull X71h.here hx rfl (hb hby at_97) kt_) ?_
      show DoneW p e s below _ _ _ T71 (mkF m 98 #[.val (.int p0), .val (.int p1), .val (.int p2), .val (.int p3), .val (.ref rk), .val (.ref rr), .val (.int (1 : Int32)), .val (.ref b58), .val (.ref sa70), .unset] [.null, (.ref sa70), (.ref rk), (.ref b71), (.ref b71)])
      obtain ⟨v73, T73, Lc73, bs73, X73, hQ73, hS73, hZ, hown, st73⟩ := own_backW hZ hown hS70 (by rw [e71]; exact HK71) (X71h.specialBackS hx (y := (⟨"spinecode/identifier/Judgement", "<init>", "(Lspinecode/identifier/Kind;Ljava/lang/String;Lspinecode/identifier/Reason;)V"⟩ : MethodName)) rfl hown (mvT hZ (hw _ (List.mem_of_getElem? (i := 26) rfl))) (mvT hZ (hw _ (List.mem_of_getElem? (i := 27) rfl))) (mvT hZ (hw _ (List.mem_of_getElem? (i := 28) rfl))) (by decide) (backOfS (W := 1) (rm3V l Z a0 hw [] b71 rk sa70 h71 n0 Z71 A71 gz_b71 F71_kind F71_normalForm F71_reason) hZ (hw _ (List.mem_of_getElem? (i := 28) rfl)) (hw _ (List.mem_of_getElem? (i := 25) rfl)) (by decide) (by decide)) (g := (mkF m 98 #[.val (.int p0), .val (.int p1), .val (.int p2), .val (.int p3), .val (.ref rk), .val (.ref rr), .val (.int (1 : Int32)), .val (.ref b58), .val (.ref sa70), .unset] [.null, (.ref sa70), (.ref rk), (.ref b71), (.ref b71)])) rfl (by rw [hml]; rfl) (Steps.refl _) (a := b71) (argsL := [(.ref rk), (.ref sa70), .null]) (rest := [(.ref b71)]) (lenOf own_pd5 rfl) rfl (by show 2 * 0 + _ ≤ _; exact Nat.le_of_eq rfl) (hb hby at_98) (fun _ _ => ⟨rfl, e71, (by first | decide | omega : 4 + 2 ≤ _), (by first | decide | omega : 9 + 20 ≤ _)⟩))
      obtain ⟨rfl, N73q, hs73, Ej73, Fj73⟩ := hQ73
      refine DoneW.go st73 ?_
      clear st73
      have N73 := Fr.app N71h N73q
      clear N73q
      have HK73 := Nat.le_refl T73.heap.size
      have Z73 : n0 ≤ T73.heap.size := Nat.le_trans Z71 hs73
      obtain ⟨Lh73, X73h, N73h⟩ : ∃ L, Stand p l e room_1 bs73 m #[(.int p0), (.int p1), (.int p2), (.int p3)] below meth c T73 L 6 29 ∧ Fr n0 L := ⟨_, X73, N73⟩
      clear X73 N73 X71h e71 N71h Z71
      show DoneW p e s below _ _ _ T73 (mkF m 101 #[.val (.int p0), .val (.int p1), .val (.int p2), .val (.int p3), .val (.ref rk), .val (.ref rr), .val (.int (1 : Int32)), .val (.ref b58), .val (.ref sa70), .unset] [(.ref b71)])
      refine DoneW.go (fun _ kt_ => XS.astore X73h.here hx rfl (hb hby at_101) rfl rfl (l' := #[.val (.int p0), .val (.int p1), .val (.int p2), .val (.int p3), .val (.ref rk), .val (.ref rr), .val (.int (1 : Int32)), .val (.ref b58), .val (.ref sa70), .val (.ref b71)]) rfl kt_) ?_
      show DoneW p e s below _ _ _ T73 (mkF m 103 #[.val (.int p0), .val (.int p1), .val (.int p2), .val (.int p3), .val (.ref rk), .val (.ref rr), .val (.int (1 : Int32)), .val (.ref b58), .val (.ref sa70), .val (.ref b71)] [])
      refine DoneW.go (fun _ kt_ => XS.goto X73h.here hx rfl (pc0 := 103) (pc' := 120) rfl (hb hby at_103) (by decide) (by decide) kt_) ?_
      show DoneW p e s below _ _ _ T73 (mkF m 120 #[.val (.int p0), .val (.int p1), .val (.int p2), .val (.int p3), .val (.ref rk), .val (.ref rr), .val (.int (1 : Int32)), .val (.ref b58), .val (.ref sa70), .val (.ref b71)] [])
      refine DoneW.go (fun _ kt_ => XS.aload X73h.here hx rfl (hb hby at_120) rfl rfl kt_) ?_
      show DoneW p e s below _ _ _ T73 (mkF m 122 #[.val (.int p0), .val (.int p1), .val (.int p2), .val (.int p3), .val (.ref rk), .val (.ref rr), .val (.int (1 : Int32)), .val (.ref b58), .val (.ref sa70), .val (.ref b71)] [(.ref b71)])
      obtain ⟨cq74, kq74, q74a, q74b, q74c⟩ := isOf hZ rfl Ej73
      obtain ⟨v74, T74, Lc74, X74, hQ74, st74⟩ := own_backV (X73h.virtualBack hx (y := (⟨"spinecode/identifier/Judgement", "isValid", "()Z"⟩ : MethodName)) (z := (⟨"spinecode/identifier/Judgement", "isValid", "()Z"⟩ : MethodName)) hown (mvT hZ (hw _ (List.mem_of_getElem? (i := 48) rfl))) (mvT hZ (hw _ (List.mem_of_getElem? (i := 49) rfl))) (notFace_of_selects (args := #[]) (mvT hZ (hw _ (List.mem_of_getElem? (i := 51) rfl)))) (mvT hZ (hw _ (List.mem_of_getElem? (i := 51) rfl))) (mvT hZ (hw _ (List.mem_of_getElem? (i := 50) rfl))) (by decide) (backOf (W := 0)  (rm7V l Z a0 hw [] b71 T73.heap n0 Z73 Fj73) hZ (hw _ (List.mem_of_getElem? (i := 52) rfl)) (hw _ (List.mem_of_getElem? (i := 25) rfl)) (by decide) (by decide)) q74a q74c (g := (mkF m 122 #[.val (.int p0), .val (.int p1), .val (.int p2), .val (.int p3), .val (.ref rk), .val (.ref rr), .val (.int (1 : Int32)), .val (.ref b58), .val (.ref sa70), .val (.ref b71)] [(.ref b71)])) rfl (by rw [hml]; rfl) (Steps.refl _) (argsL := []) (rest := []) (lenOf own_pd6 rfl) rfl (by show 2 * 0 + _ ≤ _; exact Nat.le_of_eq rfl) (hb hby at_122) (fun _ _ => ⟨rfl, rfl, (by first | decide | omega : 6 + 0 ≤ _), (by first | decide | omega : 29 + 0 ≤ _)⟩))
      obtain ⟨rfl, N74q, e74⟩ := hQ74
      refine DoneW.go st74 ?_
      clear st74
      have N74 := Fr.app N73h N74q
      clear N74q
      obtain ⟨Lh74, X74h, N74h⟩ : ∃ L, Stand p l e room_1 bs73 m #[(.int p0), (.int p1), (.int p2), (.int p3)] below meth c T74 L 6 29 ∧ Fr n0 L := ⟨_, X74, N74⟩
      clear X74 N74 X73h N73h
      show DoneW p e s below _ _ _ T74 (mkF m 125 #[.val (.int p0), .val (.int p1), .val (.int p2), .val (.int p3), .val (.ref rk), .val (.ref rr), .val (.int (1 : Int32)), .val (.ref b58), .val (.ref sa70), .val (.ref b71)] [(.int (1 : Int32))])
      refine DoneW.go (fun _ kt_ => XS.iload X74h.here hx rfl (hb hby at_125) rfl kt_) ?_
      show DoneW p e s below _ _ _ T74 (mkF m 127 #[.val (.int p0), .val (.int p1), .val (.int p2), .val (.int p3), .val (.ref rk), .val (.ref rr), .val (.int (1 : Int32)), .val (.ref b58), .val (.ref sa70), .val (.ref b71)] [(.int (1 : Int32)), (.int (1 : Int32))])
      refine DoneW.go (fun _ kt_ => XS.icmpNo X74h.here hx rfl (hb hby at_127) rfl (teq rfl).2 kt_) ?_
      show DoneW p e s below _ _ _ T74 (mkF m 130 #[.val (.int p0), .val (.int p1), .val (.int p2), .val (.int p3), .val (.ref rk), .val (.ref rr), .val (.int (1 : Int32)), .val (.ref b58), .val (.ref sa70), .val (.ref b71)] [])
      refine DoneW.go (fun _ kt_ => XS.iconst X74h.here hx rfl (hb hby at_130) kt_) ?_
      show DoneW p e s below _ _ _ T74 (mkF m 131 #[.val (.int p0), .val (.int p1), .val (.int p2), .val (.int p3), .val (.ref rk), .val (.ref rr), .val (.int (1 : Int32)), .val (.ref b58), .val (.ref sa70), .val (.ref b71)] [(.int (1 : Int32))])
      refine DoneW.go (fun _ kt_ => XS.goto X74h.here hx rfl (pc0 := 131) (pc' := 135) rfl (hb hby at_131) (by decide) (by decide) kt_) ?_
      show DoneW p e s below _ _ _ T74 (mkF m 135 #[.val (.int p0), .val (.int p1), .val (.int p2), .val (.int p3), .val (.ref rk), .val (.ref rr), .val (.int (1 : Int32)), .val (.ref b58), .val (.ref sa70), .val (.ref b71)] [(.int (1 : Int32))])
      refine DoneW.retN X74h hx ⟨hlk, _, hS73, (by rw [e74]; exact HK73)⟩ (t := .boolean) hrt (by simp) (z' := (1 : Int32)) rfl (hb hby at_135) ?_ (by first | decide | omega) (by first | decide | omega)
      rw [e74]
      exact ⟨rfl, N74h⟩
set_option maxRecDepth 65536 in
set_option maxHeartbeats 40000000 in
theorem comes_1 {Post : Tables → Env → Array Value → State → Outcome → State → Prop} (hpost : ∀ tb e args s v u, (limb_1_1.after args s (.returned v) u = true ∧ limb_1_2.after args s (.returned v) u = true ∧ True) → ReturnedEndW s (.returned v) u (Jvm.fieldLocs frame_1_writes args s ++ Jvm.arrayLocs frame_1_arrays args s ++ Jvm.staticLocs frame_1_statics s) 24 2176 → Post tb e args s (.returned v) u) :
    ArmFor flags0 classFile x code maxLocals ret World_1 tables_1 room_1 Calls_1 rest_1 Pre_1 Post := by
  intro l hfl _ _ p e ha hc hk s m args below hf hA hF happ hP
  obtain ⟨hcalls, hrest, hpre⟩ := hP
  obtain ⟨-, -, -, hnamed, -, -, -, hat⟩ := (Spec.applies_iff hf).mp happ
  obtain ⟨hg, hn⟩ := and_e (Cond.before_iff.mp (show (Jvm.Cond.and given_1 narrow_1).before args s = true from hpre))
  obtain ⟨hcount, hg⟩ := and_e hg
  obtain ⟨hv0, hg⟩ := and_e hg
  obtain ⟨hv1, hg⟩ := and_e hg
  obtain ⟨hv2, hg⟩ := and_e hg
  have hv3 := hg
  obtain ⟨w0, w1, w2, w3, rfl⟩ : ∃ w0 w1 w2 w3 : Value, args = #[w0, w1, w2, w3] := by
    have hs : args.size = 4 := by simpa [Cond.value, given_1] using hcount
    obtain ⟨L⟩ := args
    match L, hs with
    | [w0, w1, w2, w3], _ => exact ⟨w0, w1, w2, w3, rfl⟩
  have hw := fun d (hd : d ∈ tables_1) => atoms_spec (ws := Jvm.Cond.code x code maxLocals ret :: tables_1) hat d (List.mem_cons_of_mem _ hd)
  have hfit : Fit s := fun {y c} hc i hi => by
    obtain ⟨ha, rfl⟩ := Array.getElem?_eq_some_iff.mp hc
    have q := List.all_eq_true.mp ((Array.all_eq_true_iff_forall_mem.mp hF) _ (Array.getElem_mem ha)) i (List.mem_range.mpr hi)
    simpa [Array.getElem?_eq_getElem hi] using q
  obtain ⟨hsets, hown0⟩ := atoms_of _ (rest_1_c_eq ▸ (show rest_1_c.before _ s = true from hrest))
  have hr0 := Cond.before_iff.mp hown0
  obtain ⟨i0, ei0⟩ := is_v hv0
  obtain rfl : w0 = (.int i0) := Option.some.inj ei0
  obtain ⟨i1, ei1⟩ := is_v hv1
  obtain rfl : w1 = (.int i1) := Option.some.inj ei1
  obtain ⟨i2, ei2⟩ := is_v hv2
  obtain rfl : w2 = (.int i2) := Option.some.inj ei2
  obtain ⟨i3, ei3⟩ := is_v hv3
  obtain rfl : w3 = (.int i3) := Option.some.inj ei3
  obtain ⟨x0, hn⟩ := and_e hn
  obtain ⟨x1, hn⟩ := and_e hn
  obtain ⟨x2, hn⟩ := and_e hn
  obtain ⟨x3, hn⟩ := and_e hn
  obtain ⟨x4, hn⟩ := and_e hn
  obtain ⟨x5, hn⟩ := and_e hn
  obtain ⟨x6, hn⟩ := and_e hn
  obtain ⟨x7, hn⟩ := and_e hn
  have x8 := hn
  obtain ⟨ak0, ev0⟩ := exa_v x0
  have Sk0 := Sta.start ev0 (Or.inr ⟨(hw _ (List.mem_of_getElem? (i := 5) rfl)), (hw _ (List.mem_of_getElem? (i := 6) rfl))⟩)
  obtain ⟨ar3, ev1⟩ := exa_v x1
  have Sr3 := Sta.start ev1 (Or.inr ⟨(hw _ (List.mem_of_getElem? (i := 12) rfl)), (hw _ (List.mem_of_getElem? (i := 13) rfl))⟩)
  obtain ⟨ak3, ev2⟩ := exa_v x2
  have Sk3 := Sta.start ev2 (Or.inr ⟨(hw _ (List.mem_of_getElem? (i := 5) rfl)), (hw _ (List.mem_of_getElem? (i := 76) rfl))⟩)
  obtain ⟨ar4, ev3⟩ := exa_v x3
  have Sr4 := Sta.start ev3 (Or.inr ⟨(hw _ (List.mem_of_getElem? (i := 12) rfl)), (hw _ (List.mem_of_getElem? (i := 78) rfl))⟩)
  obtain ⟨ak2, ev4⟩ := exa_v x4
  have Sk2 := Sta.start ev4 (Or.inr ⟨(hw _ (List.mem_of_getElem? (i := 5) rfl)), (hw _ (List.mem_of_getElem? (i := 80) rfl))⟩)
  obtain ⟨ak1, ev5⟩ := exa_v x5
  have Sk1 := Sta.start ev5 (Or.inr ⟨(hw _ (List.mem_of_getElem? (i := 5) rfl)), (hw _ (List.mem_of_getElem? (i := 82) rfl))⟩)
  obtain ⟨ar0, ev6⟩ := exa_v x6
  have Sr0 := Sta.start ev6 (Or.inr ⟨(hw _ (List.mem_of_getElem? (i := 12) rfl)), (hw _ (List.mem_of_getElem? (i := 84) rfl))⟩)
  obtain ⟨ar1, ev7⟩ := exa_v x7
  have Sr1 := Sta.start ev7 (Or.inr ⟨(hw _ (List.mem_of_getElem? (i := 12) rfl)), (hw _ (List.mem_of_getElem? (i := 86) rfl))⟩)
  obtain ⟨ar2, ev8⟩ := exa_v x8
  have Sr2 := Sta.start ev8 (Or.inr ⟨(hw _ (List.mem_of_getElem? (i := 12) rfl)), (hw _ (List.mem_of_getElem? (i := 88) rfl))⟩)
  obtain ⟨cz, evc⟩ := is_v (Cond.before_iff.mp (hsets _ (List.mem_of_getElem? (i := 1) rfl)))
  have Sc := Sta.start evc (Or.inl (hsets _ (List.mem_of_getElem? (i := 0) rfl)))
  have hcz : ¬ cz = 0 := fun q => by
    have u := not_v (Cond.before_iff.mp (hsets _ (List.mem_of_getElem? (i := 2) rfl)))
    subst q
    rw [eq_i evc (Term.int_eval 0) rfl] at u; cases u
  obtain ⟨n, o, h1, h2, h3, _, L, rfl, ⟨rfl, N⟩, hq⟩ := rm0 l s _ hw tables_1 i0 i1 i2 i3 ak0 ak1 ak2 ak3 ar0 ar1 ar2 ar3 ar4 cz s.heap s.heap.size (Nat.le_refl _) Sk0 Sk1 Sk2 Sk3 Sr0 Sr1 Sr2 Sr3 Sr4 Sc hcz p e ha hc hk s m _ below hf ((Spec.applies_iff_loose hf).mp happ).1 ⟨rfl, State.Warmed39.refl s, rfl⟩ trivial
  refine ⟨n, _, h1, h2, h3, hpost _ _ _ _ _ _ ⟨Cond.after_iff.mpr rfl, Cond.after_iff.mpr (eq_i res_at (Term.int_eval (1)) rfl), trivial⟩ ⟨hq.1, hq.2.1, hq.2.2.1, (hq.2.2.2.sift fun y hy => Or.inr (N y hy)).mono (by decide) (by decide)⟩⟩
theorem main_1_1 : Claimed_1_1 := comes_1 fun _ _ _ _ _ _ h hF => ⟨h.1, hF⟩
theorem main_1_2 : Claimed_1_2 := comes_1 fun _ _ _ _ _ _ h hF => ⟨h.2.1, hF⟩
end Jvm.Pilot.@@N@@
namespace Jvm.Pilot.@@N@@
open Jvm Jvm.ClassFile Sem Op Lib Jvm.Free Jvm.Stand Jvm.Pilot.@@N@@.Jvm.D
/-! MADE BY PROGRAM (witnessworld.py) out of the Statement's table words and the real class files: 25 classes; the members and pool entries that the words name. The judged class is class 1, her method 3. -/
namespace start1
open Jvm.ClassFile
def u (s : String) : CpInfo := .utf8 (stringToUtf16 s)
/-- a pool by its gaps: so many unusable entries, then the entry; so many at the end -/
def gap : Nat → List CpInfo → List CpInfo
  | 0, r => r
  | n + 1, r => .unusable :: gap n r
def poolList (es : List (Nat × CpInfo)) (last : Nat) : List CpInfo := es.foldr (fun e r => gap e.1 (e.2 :: r)) (gap last [])
def pool (es : List (Nat × CpInfo)) (last : Nat) : Array CpInfo := ⟨poolList es last⟩
def fileOf (pool : Array CpInfo) (this : Nat) (attrs : Array Attribute := #[]) (ms : Array MethodInfo := #[]) (fl : Nat := 33) (sup : Nat := 0) (ifs : Array Nat := #[]) (fds : Array FieldInfo := #[]) : ClassFile where
  minorVersion := 0
  majorVersion := 65
  constantPool := pool
  accessFlags := fl
  thisClass := this
  superClass := sup
  interfaces := ifs
  fields := fds
  methods := ms
  attributes := attrs
def plain (name : String) (sup : Option ClassId) : Class where
  name := name
  kind := .ordinary
  loader := none
  accessFlags := 33
  super := sup
  interfaces := #[]
  cf := none
  fields := #[]
  methods := #[]
  instanceTypes := #[]
  staticTypes := #[]
  resolved := #[]
  callSites := []
  init := .initialized
  statics := none
  mirror := none

def pool0 : Array CpInfo := pool [(5, u "<init>"), (0, u "()V"), (1, .class_ 10), (1, u "java/lang/Object")] 113

def k0c0 : Code := { maxStack := 0, maxLocals := 1, code := object_method_1_code, exceptionTable := #[], attributes := #[] }
def k0m0 : Method := { name := "<init>", desc := "()V", sig := { parameters := [], returnType := none }, accessFlags := 1, code := some k0c0 }
/-- java/lang/Object -/
def k0 : Class := { plain "java/lang/Object" none with
  accessFlags := 33
  interfaces := #[]
  cf := some (fileOf pool0 8 #[] #[{ accessFlags := 1, nameIndex := 5, descriptorIndex := 6, attributes := #[] }] 33 0 #[] #[])
  fields := #[]
  methods := #[k0m0]
  instanceTypes := #[]
  staticTypes := #[]
  resolved := Array.replicate 124 none
  statics := none }

def pool1 : Array CpInfo := pool [(2, .class_ 4), (1, u "java/lang/Object"), (0, u "<init>"), (0, u "()V"), (0, .fieldref 8 9), (0, .class_ 10), (0, .nameAndType 11 12), (0, u "spinecode/identifier/Kind"), (0, u "ISBN"), (0, u "Lspinecode/identifier/Kind;"), (0, .fieldref 8 14), (0, .nameAndType 15 12), (0, u "ISSN"), (0, .fieldref 8 17), (0, .nameAndType 18 12), (0, u "DOI"), (0, .fieldref 8 20), (0, .nameAndType 21 12), (0, u "UNKNOWN"), (0, .fieldref 23 24), (0, .class_ 25), (0, .nameAndType 26 27), (0, u "spinecode/identifier/Reason"), (0, u "CHARACTER"), (0, u "Lspinecode/identifier/Reason;"), (0, .fieldref 23 29), (0, .nameAndType 30 27), (0, u "LENGTH"), (0, .fieldref 23 32), (0, .nameAndType 33 27), (0, u "PREFIX"), (0, .fieldref 23 35), (0, .nameAndType 36 27), (0, u "CHECK_DIGIT"), (0, .fieldref 23 38), (0, .nameAndType 39 27), (0, u "SYNTAX"), (0, .methodref 41 42), (0, .class_ 43), (0, .nameAndType 44 45), (0, u "spinecode/identifier/JudgementIsValidPinLaw"), (0, u "pickKind"), (0, u "(I)Lspinecode/identifier/Kind;"), (0, .integer 2147483647), (0, .methodref 41 48), (0, .nameAndType 49 50), (0, u "pickReason"), (0, u "(I)Lspinecode/identifier/Reason;"), (0, .string 52), (0, u ""), (0, .class_ 54), (0, u "java/lang/String"), (0, .methodref 53 56), (0, .nameAndType 5 57), (0, u "([C)V"), (0, .class_ 59), (0, u "spinecode/identifier/Judgement"), (0, .methodref 58 61), (0, .nameAndType 5 62), (0, u "(Lspinecode/identifier/Kind;Ljava/lang/String;Lspinecode/identifier/Reason;)V"), (0, .methodref 58 64), (0, .nameAndType 65 66), (0, u "isValid"), (0, u "()Z"), (3, u "law"), (0, u "(IIII)Z")] 4

def k1m0 : Method := { name := "<init>", desc := "()V", sig := { parameters := [], returnType := none }, accessFlags := 1, code := none }
def k1c1 : Code := { maxStack := 2, maxLocals := 1, code := method_2_code, exceptionTable := #[], attributes := #[] }
def k1m1 : Method := { name := "pickKind", desc := "(I)Lspinecode/identifier/Kind;", sig := { parameters := [.int], returnType := some (.object "spinecode/identifier/Kind") }, accessFlags := 10, code := some k1c1 }
def k1c2 : Code := { maxStack := 2, maxLocals := 1, code := method_3_code, exceptionTable := #[], attributes := #[] }
def k1m2 : Method := { name := "pickReason", desc := "(I)Lspinecode/identifier/Reason;", sig := { parameters := [.int], returnType := some (.object "spinecode/identifier/Reason") }, accessFlags := 10, code := some k1c2 }
def k1c3 : Code := { maxStack := 5, maxLocals := 10, code := code, exceptionTable := #[], attributes := #[] }
def k1m3 : Method := { name := "law", desc := "(IIII)Z", sig := { parameters := [.int, .int, .int, .int], returnType := some .boolean }, accessFlags := 9, code := some k1c3 }
/-- spinecode/identifier/JudgementIsValidPinLaw -/
def k1 : Class := { plain "spinecode/identifier/JudgementIsValidPinLaw" (some 0) with
  accessFlags := 49
  interfaces := #[]
  cf := some (fileOf pool1 41 #[] #[{ accessFlags := 1, nameIndex := 5, descriptorIndex := 6, attributes := #[] }, { accessFlags := 10, nameIndex := 44, descriptorIndex := 45, attributes := #[] }, { accessFlags := 10, nameIndex := 49, descriptorIndex := 50, attributes := #[] }, { accessFlags := 9, nameIndex := 70, descriptorIndex := 71, attributes := #[] }] 49 2 #[] #[])
  fields := #[]
  methods := #[k1m0, k1m1, k1m2, k1m3]
  instanceTypes := #[]
  staticTypes := #[]
  resolved := Array.replicate 76 none
  statics := none }

def pool2 : Array CpInfo := pool [(1, .class_ 2), (0, u "java/lang/constant/Constable"), (0, .class_ 4), (0, u "java/lang/Object")] 6

/-- java/lang/constant/Constable -/
def k2 : Class := { plain "java/lang/constant/Constable" (some 0) with
  accessFlags := 1537
  interfaces := #[]
  cf := some (fileOf pool2 1 #[] #[] 1537 3 #[] #[])
  fields := #[]
  methods := #[]
  instanceTypes := #[]
  staticTypes := #[]
  resolved := Array.replicate 11 none
  statics := none }

def pool3 : Array CpInfo := pool [(1, .class_ 2), (0, u "java/lang/Comparable"), (0, .class_ 4), (0, u "java/lang/Object")] 7

/-- java/lang/Comparable -/
def k3 : Class := { plain "java/lang/Comparable" (some 0) with
  accessFlags := 1537
  interfaces := #[]
  cf := some (fileOf pool3 1 #[] #[] 1537 3 #[] #[])
  fields := #[]
  methods := #[]
  instanceTypes := #[]
  staticTypes := #[]
  resolved := Array.replicate 12 none
  statics := none }

def pool4 : Array CpInfo := pool [(1, .class_ 2), (0, u "java/io/Serializable"), (0, .class_ 4), (0, u "java/lang/Object")] 2

/-- java/io/Serializable -/
def k4 : Class := { plain "java/io/Serializable" (some 0) with
  accessFlags := 1537
  interfaces := #[]
  cf := some (fileOf pool4 1 #[] #[] 1537 3 #[] #[])
  fields := #[]
  methods := #[]
  instanceTypes := #[]
  staticTypes := #[]
  resolved := Array.replicate 7 none
  statics := none }

def pool5 : Array CpInfo := pool [(2, .class_ 4), (1, u "java/lang/Enum"), (0, u "name"), (0, u "Ljava/lang/String;"), (2, u "ordinal"), (0, u "I"), (1, .class_ 14), (1, u "java/lang/Object"), (4, u "hash"), (86, .class_ 108), (1, u "java/lang/Enum$EnumDesc"), (2, .class_ 112), (0, u "java/lang/constant/Constable"), (0, .class_ 114), (0, u "java/lang/Comparable"), (0, .class_ 116), (0, u "java/io/Serializable")] 87

/-- java/lang/Enum -/
def k5 : Class := { plain "java/lang/Enum" (some 0) with
  accessFlags := 1057
  interfaces := #[2, 3, 4]
  cf := some (fileOf pool5 2 #[.nestMembers #[106]] #[] 1057 12 #[111, 113, 115] #[{ accessFlags := 18, nameIndex := 5, descriptorIndex := 6, attributes := #[] }, { accessFlags := 18, nameIndex := 9, descriptorIndex := 10, attributes := #[] }, { accessFlags := 2, nameIndex := 19, descriptorIndex := 10, attributes := #[] }])
  fields := #[{ name := "name", type := (.object "java/lang/String"), accessFlags := 18, slot := 0, constantValue := 0 }, { name := "ordinal", type := .int, accessFlags := 18, slot := 1, constantValue := 0 }, { name := "hash", type := .int, accessFlags := 2, slot := 2, constantValue := 0 }]
  methods := #[]
  instanceTypes := #[(.object "java/lang/String"), .int, .int]
  staticTypes := #[]
  resolved := Array.replicate 204 none
  statics := none }

def pool6 : Array CpInfo := pool [(1, .class_ 2), (0, u "spinecode/identifier/Kind"), (2, u "ISBN"), (0, u "Lspinecode/identifier/Kind;"), (2, u "ISSN"), (2, u "DOI"), (2, u "UNKNOWN"), (2, u "$VALUES"), (0, u "[Lspinecode/identifier/Kind;"), (6, .class_ 28), (1, u "java/lang/Enum")] 43

/-- spinecode/identifier/Kind -/
def k6 : Class := { plain "spinecode/identifier/Kind" (some 5) with
  accessFlags := 16433
  interfaces := #[]
  cf := some (fileOf pool6 1 #[] #[] 16433 26 #[] #[{ accessFlags := 16409, nameIndex := 5, descriptorIndex := 6, attributes := #[] }, { accessFlags := 16409, nameIndex := 9, descriptorIndex := 6, attributes := #[] }, { accessFlags := 16409, nameIndex := 12, descriptorIndex := 6, attributes := #[] }, { accessFlags := 16409, nameIndex := 15, descriptorIndex := 6, attributes := #[] }, { accessFlags := 4122, nameIndex := 18, descriptorIndex := 19, attributes := #[] }])
  fields := #[{ name := "ISBN", type := (.object "spinecode/identifier/Kind"), accessFlags := 16409, slot := 0, constantValue := 0 }, { name := "ISSN", type := (.object "spinecode/identifier/Kind"), accessFlags := 16409, slot := 1, constantValue := 0 }, { name := "DOI", type := (.object "spinecode/identifier/Kind"), accessFlags := 16409, slot := 2, constantValue := 0 }, { name := "UNKNOWN", type := (.object "spinecode/identifier/Kind"), accessFlags := 16409, slot := 3, constantValue := 0 }, { name := "$VALUES", type := (.array (.object "spinecode/identifier/Kind")), accessFlags := 4122, slot := 4, constantValue := 0 }]
  methods := #[]
  instanceTypes := #[(.object "java/lang/String"), .int, .int]
  staticTypes := #[(.object "spinecode/identifier/Kind"), (.object "spinecode/identifier/Kind"), (.object "spinecode/identifier/Kind"), (.object "spinecode/identifier/Kind"), (.array (.object "spinecode/identifier/Kind"))]
  resolved := Array.replicate 72 none
  statics := some 0 }

def pool7 : Array CpInfo := pool [(1, .class_ 2), (0, u "spinecode/identifier/Reason"), (2, u "CHARACTER"), (0, u "Lspinecode/identifier/Reason;"), (2, u "LENGTH"), (2, u "PREFIX"), (2, u "CHECK_DIGIT"), (2, u "SYNTAX"), (2, u "$VALUES"), (0, u "[Lspinecode/identifier/Reason;"), (6, .class_ 31), (1, u "java/lang/Enum"), (8, u "token"), (0, u "Ljava/lang/String;")] 35

/-- spinecode/identifier/Reason -/
def k7 : Class := { plain "spinecode/identifier/Reason" (some 5) with
  accessFlags := 16433
  interfaces := #[]
  cf := some (fileOf pool7 1 #[] #[] 16433 29 #[] #[{ accessFlags := 16409, nameIndex := 5, descriptorIndex := 6, attributes := #[] }, { accessFlags := 16409, nameIndex := 9, descriptorIndex := 6, attributes := #[] }, { accessFlags := 16409, nameIndex := 12, descriptorIndex := 6, attributes := #[] }, { accessFlags := 16409, nameIndex := 15, descriptorIndex := 6, attributes := #[] }, { accessFlags := 16409, nameIndex := 18, descriptorIndex := 6, attributes := #[] }, { accessFlags := 18, nameIndex := 40, descriptorIndex := 41, attributes := #[] }, { accessFlags := 4122, nameIndex := 21, descriptorIndex := 22, attributes := #[] }])
  fields := #[{ name := "CHARACTER", type := (.object "spinecode/identifier/Reason"), accessFlags := 16409, slot := 0, constantValue := 0 }, { name := "LENGTH", type := (.object "spinecode/identifier/Reason"), accessFlags := 16409, slot := 1, constantValue := 0 }, { name := "PREFIX", type := (.object "spinecode/identifier/Reason"), accessFlags := 16409, slot := 2, constantValue := 0 }, { name := "CHECK_DIGIT", type := (.object "spinecode/identifier/Reason"), accessFlags := 16409, slot := 3, constantValue := 0 }, { name := "SYNTAX", type := (.object "spinecode/identifier/Reason"), accessFlags := 16409, slot := 4, constantValue := 0 }, { name := "token", type := (.object "java/lang/String"), accessFlags := 18, slot := 3, constantValue := 0 }, { name := "$VALUES", type := (.array (.object "spinecode/identifier/Reason")), accessFlags := 4122, slot := 5, constantValue := 0 }]
  methods := #[]
  instanceTypes := #[(.object "java/lang/String"), .int, .int, (.object "java/lang/String")]
  staticTypes := #[(.object "spinecode/identifier/Reason"), (.object "spinecode/identifier/Reason"), (.object "spinecode/identifier/Reason"), (.object "spinecode/identifier/Reason"), (.object "spinecode/identifier/Reason"), (.array (.object "spinecode/identifier/Reason"))]
  resolved := Array.replicate 77 none
  statics := some 1 }

def pool8 : Array CpInfo := pool [(2, .class_ 4), (1, u "java/lang/CharSequence"), (42, .class_ 48), (0, u "java/lang/CharSequence$1CodePointIterator"), (10, .class_ 60), (0, u "java/lang/CharSequence$1CharIterator"), (5, .class_ 67), (0, u "java/lang/Object")] 63

/-- java/lang/CharSequence -/
def k8 : Class := { plain "java/lang/CharSequence" (some 0) with
  accessFlags := 1537
  interfaces := #[]
  cf := some (fileOf pool8 2 #[.nestMembers #[47, 59]] #[] 1537 66 #[] #[])
  fields := #[]
  methods := #[]
  instanceTypes := #[]
  staticTypes := #[]
  resolved := Array.replicate 131 none
  statics := none }

def pool9 : Array CpInfo := pool [(1, .class_ 2), (0, u "java/lang/constant/ConstantDesc"), (0, .class_ 4), (0, u "java/lang/Object")] 32

/-- java/lang/constant/ConstantDesc -/
def k9 : Class := { plain "java/lang/constant/ConstantDesc" (some 0) with
  accessFlags := 1537
  interfaces := #[]
  cf := some (fileOf pool9 1 #[] #[] 1537 3 #[] #[])
  fields := #[]
  methods := #[]
  instanceTypes := #[]
  staticTypes := #[]
  resolved := Array.replicate 37 none
  statics := none }

def pool10 : Array CpInfo := pool [(1, .methodref 2 3), (0, .class_ 4), (0, .nameAndType 5 6), (0, u "java/lang/Object"), (0, u "<init>"), (0, u "()V"), (2, .fieldref 10 11), (0, .class_ 12), (0, .nameAndType 13 14), (0, u "java/lang/String"), (0, u "value"), (0, u "[B"), (0, .fieldref 10 16), (0, .nameAndType 17 18), (0, u "coder"), (0, u "B"), (2, u "hash"), (0, u "I"), (2, u "hashIsZero"), (0, u "Z"), (0, .methodref 10 28), (0, .nameAndType 5 29), (0, u "([CIILjava/lang/Void;)V"), (8, .fieldref 10 39), (0, .nameAndType 40 26), (0, u "COMPACT_STRINGS"), (1, .class_ 44), (1, u "java/lang/StringUTF16"), (0, u "compress"), (1, .methodref 42 48), (0, .nameAndType 49 50), (0, u "coderFromArrayLen"), (0, u "([BI)B"), (126, .methodref 42 178), (0, .nameAndType 45 179), (0, u "([CII)[B"), (395, .class_ 576), (0, u "java/lang/CharSequence"), (22, u "CASE_INSENSITIVE_ORDER"), (0, u "Ljava/util/Comparator;"), (409, u "([C)V"), (90, u "serialPersistentFields"), (0, u "[Ljava/io/ObjectStreamField;"), (0, .class_ 1104), (0, u "java/lang/String$CaseInsensitiveComparator"), (1, .class_ 1107), (0, u "java/io/Serializable"), (0, .class_ 1109), (0, u "java/lang/Comparable"), (0, .class_ 1111), (0, u "java/lang/constant/Constable"), (0, .class_ 1113), (0, u "java/lang/constant/ConstantDesc"), (2, u "serialVersionUID"), (0, u "J"), (3, u "REPL"), (0, u "C"), (2, u "LATIN1"), (1, u "UTF16")] 323

def k10m0 : Method := { name := "<init>", desc := "()V", sig := { parameters := [], returnType := none }, accessFlags := 1, code := none }
def k10c1 : Code := { maxStack := 5, maxLocals := 2, code := jdk_42_method_3_code, exceptionTable := #[], attributes := #[] }
def k10m1 : Method := { name := "<init>", desc := "([C)V", sig := { parameters := [(.array .char)], returnType := none }, accessFlags := 1, code := some k10c1 }
def k10c2 : Code := { maxStack := 4, maxLocals := 6, code := jdk_42_method_149_code, exceptionTable := #[], attributes := #[] }
def k10m2 : Method := { name := "<init>", desc := "([CIILjava/lang/Void;)V", sig := { parameters := [(.array .char), .int, .int, (.object "java/lang/Void")], returnType := none }, accessFlags := 2, code := some k10c2 }
/-- java/lang/String -/
def k10 : Class := { plain "java/lang/String" (some 0) with
  accessFlags := 49
  interfaces := #[4, 3, 8, 2, 9]
  cf := some (fileOf pool10 10 #[.nestMembers #[1103]] #[{ accessFlags := 1, nameIndex := 5, descriptorIndex := 6, attributes := #[] }, { accessFlags := 1, nameIndex := 5, descriptorIndex := 1010, attributes := #[] }, { accessFlags := 2, nameIndex := 5, descriptorIndex := 29, attributes := #[] }] 49 2 #[1106, 1108, 575, 1110, 1112] #[{ accessFlags := 18, nameIndex := 13, descriptorIndex := 14, attributes := #[] }, { accessFlags := 18, nameIndex := 17, descriptorIndex := 18, attributes := #[] }, { accessFlags := 2, nameIndex := 21, descriptorIndex := 22, attributes := #[] }, { accessFlags := 2, nameIndex := 25, descriptorIndex := 26, attributes := #[] }, { accessFlags := 26, nameIndex := 1116, descriptorIndex := 1117, attributes := #[] }, { accessFlags := 24, nameIndex := 40, descriptorIndex := 26, attributes := #[] }, { accessFlags := 26, nameIndex := 1101, descriptorIndex := 1102, attributes := #[] }, { accessFlags := 26, nameIndex := 1121, descriptorIndex := 1122, attributes := #[] }, { accessFlags := 25, nameIndex := 599, descriptorIndex := 600, attributes := #[] }, { accessFlags := 24, nameIndex := 1125, descriptorIndex := 18, attributes := #[] }, { accessFlags := 24, nameIndex := 1127, descriptorIndex := 18, attributes := #[] }])
  fields := #[{ name := "value", type := (.array .byte), accessFlags := 18, slot := 0, constantValue := 0 }, { name := "coder", type := .byte, accessFlags := 18, slot := 1, constantValue := 0 }, { name := "hash", type := .int, accessFlags := 2, slot := 2, constantValue := 0 }, { name := "hashIsZero", type := .boolean, accessFlags := 2, slot := 3, constantValue := 0 }, { name := "serialVersionUID", type := .long, accessFlags := 26, slot := 0, constantValue := 0 }, { name := "COMPACT_STRINGS", type := .boolean, accessFlags := 24, slot := 1, constantValue := 0 }, { name := "serialPersistentFields", type := (.array (.object "java/io/ObjectStreamField")), accessFlags := 26, slot := 2, constantValue := 0 }, { name := "REPL", type := .char, accessFlags := 26, slot := 3, constantValue := 0 }, { name := "CASE_INSENSITIVE_ORDER", type := (.object "java/util/Comparator"), accessFlags := 25, slot := 4, constantValue := 0 }, { name := "LATIN1", type := .byte, accessFlags := 24, slot := 5, constantValue := 0 }, { name := "UTF16", type := .byte, accessFlags := 24, slot := 6, constantValue := 0 }]
  methods := #[k10m0, k10m1, k10m2]
  instanceTypes := #[(.array .byte), .byte, .int, .boolean]
  staticTypes := #[.long, .boolean, (.array (.object "java/io/ObjectStreamField")), .char, (.object "java/util/Comparator"), .byte, .byte]
  resolved := Array.replicate 1451 none
  statics := some 2 }

def pool11 : Array CpInfo := pool [(1, .methodref 2 3), (0, .class_ 4), (0, .nameAndType 5 6), (0, u "java/lang/Object"), (0, u "<init>"), (0, u "()V"), (0, .class_ 8), (0, u "java/lang/Record")] 13

def k11c0 : Code := { maxStack := 1, maxLocals := 1, code := jdk_30_method_1_code, exceptionTable := #[], attributes := #[] }
def k11m0 : Method := { name := "<init>", desc := "()V", sig := { parameters := [], returnType := none }, accessFlags := 4, code := some k11c0 }
/-- java/lang/Record -/
def k11 : Class := { plain "java/lang/Record" (some 0) with
  accessFlags := 1057
  interfaces := #[]
  cf := some (fileOf pool11 7 #[] #[{ accessFlags := 4, nameIndex := 5, descriptorIndex := 6, attributes := #[] }] 1057 2 #[] #[])
  fields := #[]
  methods := #[k11m0]
  instanceTypes := #[]
  staticTypes := #[]
  resolved := Array.replicate 22 none
  statics := none }

def pool12 : Array CpInfo := pool [(1, .methodref 2 3), (0, .class_ 4), (0, .nameAndType 5 6), (0, u "java/lang/Record"), (0, u "<init>"), (0, u "()V"), (0, .string 8), (0, u "kind"), (0, .methodref 10 11), (0, .class_ 12), (0, .nameAndType 13 14), (0, u "java/util/Objects"), (0, u "requireNonNull"), (0, u "(Ljava/lang/Object;Ljava/lang/String;)Ljava/lang/Object;"), (7, .fieldref 23 24), (0, .class_ 25), (0, .nameAndType 8 26), (0, u "spinecode/identifier/Judgement"), (0, u "Lspinecode/identifier/Kind;"), (0, .fieldref 23 28), (0, .nameAndType 29 30), (0, u "normalForm"), (0, u "Ljava/lang/String;"), (0, .fieldref 23 32), (0, .nameAndType 33 34), (0, u "reason"), (0, u "Lspinecode/identifier/Reason;"), (2, u "(Lspinecode/identifier/Kind;Ljava/lang/String;Lspinecode/identifier/Reason;)V"), (26, u "isValid"), (0, u "()Z")] 27

def k12c0 : Code := { maxStack := 3, maxLocals := 4, code := prog_8_method_1_code, exceptionTable := #[], attributes := #[] }
def k12m0 : Method := { name := "<init>", desc := "(Lspinecode/identifier/Kind;Ljava/lang/String;Lspinecode/identifier/Reason;)V", sig := { parameters := [(.object "spinecode/identifier/Kind"), (.object "java/lang/String"), (.object "spinecode/identifier/Reason")], returnType := none }, accessFlags := 1, code := some k12c0 }
def k12c1 : Code := { maxStack := 1, maxLocals := 1, code := prog_8_method_4_code, exceptionTable := #[], attributes := #[] }
def k12m1 : Method := { name := "isValid", desc := "()Z", sig := { parameters := [], returnType := some .boolean }, accessFlags := 1, code := some k12c1 }
/-- spinecode/identifier/Judgement -/
def k12 : Class := { plain "spinecode/identifier/Judgement" (some 11) with
  accessFlags := 49
  interfaces := #[]
  cf := some (fileOf pool12 23 #[] #[{ accessFlags := 1, nameIndex := 5, descriptorIndex := 37, attributes := #[] }, { accessFlags := 1, nameIndex := 64, descriptorIndex := 65, attributes := #[] }] 49 2 #[] #[{ accessFlags := 18, nameIndex := 8, descriptorIndex := 26, attributes := #[] }, { accessFlags := 18, nameIndex := 29, descriptorIndex := 30, attributes := #[] }, { accessFlags := 18, nameIndex := 33, descriptorIndex := 34, attributes := #[] }])
  fields := #[{ name := "kind", type := (.object "spinecode/identifier/Kind"), accessFlags := 18, slot := 0, constantValue := 0 }, { name := "normalForm", type := (.object "java/lang/String"), accessFlags := 18, slot := 1, constantValue := 0 }, { name := "reason", type := (.object "spinecode/identifier/Reason"), accessFlags := 18, slot := 2, constantValue := 0 }]
  methods := #[k12m0, k12m1]
  instanceTypes := #[(.object "spinecode/identifier/Kind"), (.object "java/lang/String"), (.object "spinecode/identifier/Reason")]
  staticTypes := #[]
  resolved := Array.replicate 93 none
  statics := none }

def pool13 : Array CpInfo := pool [(2, .class_ 4), (1, u "java/lang/Object"), (0, u "<init>"), (0, u "()V"), (35, .class_ 44), (1, u "java/util/Objects"), (0, u "requireNonNull"), (48, u "(Ljava/lang/Object;Ljava/lang/String;)Ljava/lang/Object;")] 89

def k13m0 : Method := { name := "<init>", desc := "()V", sig := { parameters := [], returnType := none }, accessFlags := 2, code := none }
def k13c1 : Code := { maxStack := 3, maxLocals := 2, code := jdk_31_method_11_code, exceptionTable := #[], attributes := #[] }
def k13m1 : Method := { name := "requireNonNull", desc := "(Ljava/lang/Object;Ljava/lang/String;)Ljava/lang/Object;", sig := { parameters := [(.object "java/lang/Object"), (.object "java/lang/String")], returnType := some (.object "java/lang/Object") }, accessFlags := 9, code := some k13c1 }
/-- java/util/Objects -/
def k13 : Class := { plain "java/util/Objects" (some 0) with
  accessFlags := 49
  interfaces := #[]
  cf := some (fileOf pool13 42 #[] #[{ accessFlags := 2, nameIndex := 5, descriptorIndex := 6, attributes := #[] }, { accessFlags := 9, nameIndex := 45, descriptorIndex := 94, attributes := #[] }] 49 2 #[] #[])
  fields := #[]
  methods := #[k13m0, k13m1]
  instanceTypes := #[]
  staticTypes := #[]
  resolved := Array.replicate 184 none
  statics := none }

def pool14 : Array CpInfo := pool [(6, .class_ 8), (1, u "java/lang/Object"), (0, u "<init>"), (0, u "()V"), (1, .class_ 14), (1, u "java/lang/StringUTF16"), (31, u "$assertionsDisabled"), (0, u "Z"), (13, u "HI_BYTE_SHIFT"), (0, u "I"), (2, u "LO_BYTE_SHIFT"), (49, .methodref 12 116), (0, .nameAndType 117 118), (0, u "compress"), (0, u "([CI[BII)I"), (3, u "([CII)[B"), (138, u "coderFromArrayLen"), (0, u "([BI)B"), (106, .class_ 371), (1, u "java/lang/StringUTF16$LinesSpliterator"), (58, u "MAX_LENGTH"), (196, .class_ 628), (0, u "java/lang/StringUTF16$CodePointsSpliterator"), (0, .class_ 630), (0, u "java/lang/StringUTF16$CharsSpliterator")] 4

def k14m0 : Method := { name := "<init>", desc := "()V", sig := { parameters := [], returnType := none }, accessFlags := 0, code := none }
def k14c1 : Code := { maxStack := 2, maxLocals := 2, code := jdk_52_method_15_code, exceptionTable := #[], attributes := #[] }
def k14m1 : Method := { name := "coderFromArrayLen", desc := "([BI)B", sig := { parameters := [(.array .byte), .int], returnType := some .byte }, accessFlags := 8, code := some k14c1 }
def k14c2 : Code := { maxStack := 5, maxLocals := 6, code := jdk_52_method_16_code, exceptionTable := #[], attributes := #[] }
def k14m2 : Method := { name := "compress", desc := "([CII)[B", sig := { parameters := [(.array .char), .int, .int], returnType := some (.array .byte) }, accessFlags := 9, code := some k14c2 }
def k14c3 : Code := { maxStack := 3, maxLocals := 7, code := jdk_52_method_21_code, exceptionTable := #[], attributes := #[] }
def k14m3 : Method := { name := "compress", desc := "([CI[BII)I", sig := { parameters := [(.array .char), .int, (.array .byte), .int, .int], returnType := some .int }, accessFlags := 9, code := some k14c3 }
/-- java/lang/StringUTF16 -/
def k14 : Class := { plain "java/lang/StringUTF16" (some 0) with
  accessFlags := 48
  interfaces := #[]
  cf := some (fileOf pool14 12 #[.nestMembers #[627, 629, 369]] #[{ accessFlags := 0, nameIndex := 9, descriptorIndex := 10, attributes := #[] }, { accessFlags := 8, nameIndex := 261, descriptorIndex := 262, attributes := #[] }, { accessFlags := 9, nameIndex := 117, descriptorIndex := 122, attributes := #[] }, { accessFlags := 9, nameIndex := 117, descriptorIndex := 118, attributes := #[] }] 48 6 #[] #[{ accessFlags := 26, nameIndex := 61, descriptorIndex := 62, attributes := #[] }, { accessFlags := 26, nameIndex := 65, descriptorIndex := 62, attributes := #[] }, { accessFlags := 24, nameIndex := 430, descriptorIndex := 62, attributes := #[] }, { accessFlags := 4120, nameIndex := 46, descriptorIndex := 47, attributes := #[] }])
  fields := #[{ name := "HI_BYTE_SHIFT", type := .int, accessFlags := 26, slot := 0, constantValue := 0 }, { name := "LO_BYTE_SHIFT", type := .int, accessFlags := 26, slot := 1, constantValue := 0 }, { name := "MAX_LENGTH", type := .int, accessFlags := 24, slot := 2, constantValue := 0 }, { name := "$assertionsDisabled", type := .boolean, accessFlags := 4120, slot := 3, constantValue := 0 }]
  methods := #[k14m0, k14m1, k14m2, k14m3]
  instanceTypes := #[]
  staticTypes := #[.int, .int, .int, .boolean]
  resolved := Array.replicate 635 none
  statics := none }

def pool15 : Array CpInfo := pool [(4, .class_ 6), (1, u "java/lang/Object"), (0, u "<init>"), (0, u "()V"), (5, .class_ 16), (1, u "java/lang/StringLatin1"), (104, u "$assertionsDisabled"), (0, u "Z"), (98, .class_ 223), (1, u "java/lang/StringLatin1$LinesSpliterator"), (166, .class_ 391), (0, u "java/lang/StringLatin1$CharsSpliterator")] 3

def k15m0 : Method := { name := "<init>", desc := "()V", sig := { parameters := [], returnType := none }, accessFlags := 0, code := none }
/-- java/lang/StringLatin1 -/
def k15 : Class := { plain "java/lang/StringLatin1" (some 0) with
  accessFlags := 48
  interfaces := #[]
  cf := some (fileOf pool15 14 #[.nestMembers #[390, 221]] #[{ accessFlags := 0, nameIndex := 7, descriptorIndex := 8, attributes := #[] }] 48 4 #[] #[{ accessFlags := 4120, nameIndex := 121, descriptorIndex := 122, attributes := #[] }])
  fields := #[{ name := "$assertionsDisabled", type := .boolean, accessFlags := 4120, slot := 0, constantValue := 0 }]
  methods := #[k15m0]
  instanceTypes := #[]
  staticTypes := #[.boolean]
  resolved := Array.replicate 395 none
  statics := none }

def pool16 : Array CpInfo := pool [(2, .class_ 4), (1, u "java/lang/Object"), (0, u "<init>"), (0, u "()V"), (17, .class_ 26), (1, u "jdk/internal/util/Preconditions"), (28, .class_ 56), (0, u "jdk/internal/util/Preconditions$4"), (57, .class_ 115), (0, u "jdk/internal/util/Preconditions$1"), (7, u "SIOOBE_FORMATTER"), (0, u "Ljava/util/function/BiFunction;"), (0, .class_ 126), (0, u "jdk/internal/util/Preconditions$2"), (3, u "AIOOBE_FORMATTER"), (0, .class_ 132), (0, u "jdk/internal/util/Preconditions$3"), (3, u "IOOBE_FORMATTER")] 57

def k16m0 : Method := { name := "<init>", desc := "()V", sig := { parameters := [], returnType := none }, accessFlags := 1, code := none }
/-- jdk/internal/util/Preconditions -/
def k16 : Class := { plain "jdk/internal/util/Preconditions" (some 0) with
  accessFlags := 33
  interfaces := #[]
  cf := some (fileOf pool16 24 #[.nestMembers #[55, 131, 125, 114]] #[{ accessFlags := 1, nameIndex := 5, descriptorIndex := 6, attributes := #[] }] 33 2 #[] #[{ accessFlags := 25, nameIndex := 123, descriptorIndex := 124, attributes := #[] }, { accessFlags := 25, nameIndex := 130, descriptorIndex := 124, attributes := #[] }, { accessFlags := 25, nameIndex := 136, descriptorIndex := 124, attributes := #[] }])
  fields := #[{ name := "SIOOBE_FORMATTER", type := (.object "java/util/function/BiFunction"), accessFlags := 25, slot := 0, constantValue := 0 }, { name := "AIOOBE_FORMATTER", type := (.object "java/util/function/BiFunction"), accessFlags := 25, slot := 1, constantValue := 0 }, { name := "IOOBE_FORMATTER", type := (.object "java/util/function/BiFunction"), accessFlags := 25, slot := 2, constantValue := 0 }]
  methods := #[k16m0]
  instanceTypes := #[]
  staticTypes := #[(.object "java/util/function/BiFunction"), (.object "java/util/function/BiFunction"), (.object "java/util/function/BiFunction")]
  resolved := Array.replicate 194 none
  statics := some 3 }

def pool17 : Array CpInfo := pool [(9, u "<init>"), (6, .class_ 18), (1, u "java/lang/Object"), (0, u "()V"), (1, .class_ 23), (1, u "jdk/internal/util/ArraysSupport"), (0, u "LOG2_ARRAY_LONG_INDEX_SCALE"), (0, u "I"), (2, u "U"), (0, u "Ljdk/internal/misc/Unsafe;"), (8, u "BIG_ENDIAN"), (0, u "Z"), (8, u "LOG2_BYTE_BIT_SIZE"), (4, u "LOG2_ARRAY_INT_INDEX_SCALE"), (54, u "JLA"), (0, u "Ljdk/internal/access/JavaLangAccess;"), (11, u "LOG2_ARRAY_BOOLEAN_INDEX_SCALE"), (9, u "LOG2_ARRAY_BYTE_INDEX_SCALE"), (5, u "LOG2_ARRAY_CHAR_INDEX_SCALE"), (5, u "LOG2_ARRAY_SHORT_INDEX_SCALE"), (18, u "LOG2_ARRAY_FLOAT_INDEX_SCALE"), (24, u "LOG2_ARRAY_DOUBLE_INDEX_SCALE"), (89, u "T_BOOLEAN"), (2, u "T_CHAR"), (1, u "T_FLOAT"), (1, u "T_DOUBLE"), (1, u "T_BYTE"), (1, u "T_SHORT"), (1, u "T_INT"), (1, u "T_LONG"), (1, u "SOFT_MAX_ARRAY_LENGTH")] 83

def k17m0 : Method := { name := "<init>", desc := "()V", sig := { parameters := [], returnType := none }, accessFlags := 2, code := none }
/-- jdk/internal/util/ArraysSupport -/
def k17 : Class := { plain "jdk/internal/util/ArraysSupport" (some 0) with
  accessFlags := 33
  interfaces := #[]
  cf := some (fileOf pool17 21 #[] #[{ accessFlags := 2, nameIndex := 9, descriptorIndex := 19, attributes := #[] }] 33 16 #[] #[{ accessFlags := 24, nameIndex := 28, descriptorIndex := 29, attributes := #[] }, { accessFlags := 26, nameIndex := 38, descriptorIndex := 39, attributes := #[] }, { accessFlags := 25, nameIndex := 121, descriptorIndex := 25, attributes := #[] }, { accessFlags := 25, nameIndex := 131, descriptorIndex := 25, attributes := #[] }, { accessFlags := 25, nameIndex := 137, descriptorIndex := 25, attributes := #[] }, { accessFlags := 25, nameIndex := 143, descriptorIndex := 25, attributes := #[] }, { accessFlags := 25, nameIndex := 53, descriptorIndex := 25, attributes := #[] }, { accessFlags := 25, nameIndex := 24, descriptorIndex := 25, attributes := #[] }, { accessFlags := 25, nameIndex := 162, descriptorIndex := 25, attributes := #[] }, { accessFlags := 25, nameIndex := 187, descriptorIndex := 25, attributes := #[] }, { accessFlags := 26, nameIndex := 48, descriptorIndex := 25, attributes := #[] }, { accessFlags := 25, nameIndex := 277, descriptorIndex := 25, attributes := #[] }, { accessFlags := 25, nameIndex := 280, descriptorIndex := 25, attributes := #[] }, { accessFlags := 25, nameIndex := 282, descriptorIndex := 25, attributes := #[] }, { accessFlags := 25, nameIndex := 284, descriptorIndex := 25, attributes := #[] }, { accessFlags := 25, nameIndex := 286, descriptorIndex := 25, attributes := #[] }, { accessFlags := 25, nameIndex := 288, descriptorIndex := 25, attributes := #[] }, { accessFlags := 25, nameIndex := 290, descriptorIndex := 25, attributes := #[] }, { accessFlags := 25, nameIndex := 292, descriptorIndex := 25, attributes := #[] }, { accessFlags := 26, nameIndex := 108, descriptorIndex := 109, attributes := #[] }, { accessFlags := 25, nameIndex := 294, descriptorIndex := 25, attributes := #[] }])
  fields := #[{ name := "U", type := (.object "jdk/internal/misc/Unsafe"), accessFlags := 24, slot := 0, constantValue := 0 }, { name := "BIG_ENDIAN", type := .boolean, accessFlags := 26, slot := 1, constantValue := 0 }, { name := "LOG2_ARRAY_BOOLEAN_INDEX_SCALE", type := .int, accessFlags := 25, slot := 2, constantValue := 0 }, { name := "LOG2_ARRAY_BYTE_INDEX_SCALE", type := .int, accessFlags := 25, slot := 3, constantValue := 0 }, { name := "LOG2_ARRAY_CHAR_INDEX_SCALE", type := .int, accessFlags := 25, slot := 4, constantValue := 0 }, { name := "LOG2_ARRAY_SHORT_INDEX_SCALE", type := .int, accessFlags := 25, slot := 5, constantValue := 0 }, { name := "LOG2_ARRAY_INT_INDEX_SCALE", type := .int, accessFlags := 25, slot := 6, constantValue := 0 }, { name := "LOG2_ARRAY_LONG_INDEX_SCALE", type := .int, accessFlags := 25, slot := 7, constantValue := 0 }, { name := "LOG2_ARRAY_FLOAT_INDEX_SCALE", type := .int, accessFlags := 25, slot := 8, constantValue := 0 }, { name := "LOG2_ARRAY_DOUBLE_INDEX_SCALE", type := .int, accessFlags := 25, slot := 9, constantValue := 0 }, { name := "LOG2_BYTE_BIT_SIZE", type := .int, accessFlags := 26, slot := 10, constantValue := 0 }, { name := "T_BOOLEAN", type := .int, accessFlags := 25, slot := 11, constantValue := 0 }, { name := "T_CHAR", type := .int, accessFlags := 25, slot := 12, constantValue := 0 }, { name := "T_FLOAT", type := .int, accessFlags := 25, slot := 13, constantValue := 0 }, { name := "T_DOUBLE", type := .int, accessFlags := 25, slot := 14, constantValue := 0 }, { name := "T_BYTE", type := .int, accessFlags := 25, slot := 15, constantValue := 0 }, { name := "T_SHORT", type := .int, accessFlags := 25, slot := 16, constantValue := 0 }, { name := "T_INT", type := .int, accessFlags := 25, slot := 17, constantValue := 0 }, { name := "T_LONG", type := .int, accessFlags := 25, slot := 18, constantValue := 0 }, { name := "JLA", type := (.object "jdk/internal/access/JavaLangAccess"), accessFlags := 26, slot := 19, constantValue := 0 }, { name := "SOFT_MAX_ARRAY_LENGTH", type := .int, accessFlags := 25, slot := 20, constantValue := 0 }]
  methods := #[k17m0]
  instanceTypes := #[]
  staticTypes := #[(.object "jdk/internal/misc/Unsafe"), .boolean, .int, .int, .int, .int, .int, .int, .int, .int, .int, .int, .int, .int, .int, .int, .int, .int, .int, (.object "jdk/internal/access/JavaLangAccess"), .int]
  resolved := Array.replicate 378 none
  statics := none }

def pool18 : Array CpInfo := pool [(1, u "java/lang/Cloneable"), (0, .class_ 1), (0, u "java/lang/Object"), (0, .class_ 3)] 3

/-- java/lang/Cloneable -/
def k18 : Class := { plain "java/lang/Cloneable" (some 0) with
  accessFlags := 1537
  interfaces := #[]
  cf := some (fileOf pool18 2 #[] #[] 1537 4 #[] #[])
  fields := #[]
  methods := #[]
  instanceTypes := #[]
  staticTypes := #[]
  resolved := Array.replicate 8 none
  statics := none }

/-- the primitive byte -/
def k19 : Class := { plain "byte" none with kind := .primitive 'B', accessFlags := 0x411 }
/-- [B -/
def k20 : Class := { plain "[B" (some 0) with kind := .array 19 .byte, interfaces := #[18, 4], accessFlags := 1041 }

/-- the primitive char -/
def k21 : Class := { plain "char" none with kind := .primitive 'C', accessFlags := 0x411 }
/-- [C -/
def k22 : Class := { plain "[C" (some 0) with kind := .array 21 .char, interfaces := #[18, 4], accessFlags := 1041 }

/-- the primitive int -/
def k23 : Class := { plain "int" none with kind := .primitive 'I', accessFlags := 0x411 }
/-- [I -/
def k24 : Class := { plain "[I" (some 0) with kind := .array 23 .int, interfaces := #[18, 4], accessFlags := 1041 }

def heap : Heap := #[{ cls := 6, slots := #[.ref 4, .ref 5, .ref 6, .ref 7, .null], vm := .statics 6 },
  { cls := 7, slots := #[.ref 8, .ref 9, .ref 10, .ref 11, .ref 12, .null], vm := .statics 7 },
  { cls := 10, slots := #[.long 0, .int 1, .null, .int 0, .null, .int 0, .int 0], vm := .statics 10 },
  { cls := 16, slots := #[.null, .null, .null], vm := .statics 16 },
  { cls := 6, slots := #[.null, .int 0, .int 0], vm := .none },
  { cls := 6, slots := #[.null, .int 1, .int 0], vm := .none },
  { cls := 6, slots := #[.null, .int 2, .int 0], vm := .none },
  { cls := 6, slots := #[.null, .int 3, .int 0], vm := .none },
  { cls := 7, slots := #[.null, .int 0, .int 0, .null], vm := .none },
  { cls := 7, slots := #[.null, .int 1, .int 0, .null], vm := .none },
  { cls := 7, slots := #[.null, .int 2, .int 0, .null], vm := .none },
  { cls := 7, slots := #[.null, .int 3, .int 0, .null], vm := .none },
  { cls := 7, slots := #[.null, .int 4, .int 0, .null], vm := .none }]
def classes : Array Class := #[k0, k1, k2, k3, k4, k5, k6, k7, k8, k9, k10, k11, k12, k13, k14, k15, k16, k17, k18, k19, k20, k21, k22, k23, k24]
def interned : List (Array UInt16 × Addr) := []
def slotsUsed : Nat := 53
def theMethod : MethodId := ⟨1, 3⟩
def args0 : Array Value := #[.int 5, .int 6, .int 7, .int 8]
def aboutOver (below : List Frame) : State where
  vm := { classes := classes, interned := interned.toArray }
  heap := heap
  slotsUsed := slotsUsed
  threads := #[{ frames := .invoking theMethod args0 :: below }]
def below0 : List Frame := [.native { method := ⟨0, 0⟩, args := #[] }]
def about1 : State := aboutOver below0
def p0 : Program := .bare "" "" ""
def e0 : Env := launch0.env 0 0 0
theorem w_frames : about1.frames = Frame.invoking theMethod args0 :: below0 := rfl
set_option maxRecDepth 65536 in
theorem w_args : argsFit about1.vm theMethod args0 = true := by decide +kernel
set_option maxRecDepth 65536 in
theorem w_heap : heapFits about1 = true := by decide +kernel
set_option maxRecDepth 65536 in
theorem w_runnable : about1.curStatus? = some .runnable := by decide +kernel
set_option maxRecDepth 65536 in
theorem w_alone : about1.alone = true := by decide +kernel
set_option maxRecDepth 65536 in
theorem w_named : about1.methodNamed? x = some theMethod := by decide +kernel
set_option maxRecDepth 65536 in
theorem w_hears : about1.hears theMethod below0 = true := by decide +kernel
set_option maxRecDepth 65536 in
theorem w_ripe : about1.ripe theMethod args0 below0 = true := by decide +kernel
theorem w_running : about1.status = .running := rfl
set_option maxRecDepth 65536 in
theorem w_room : about1.hasRoom e0.platform room_1 = true :=
  launch0.hasRoom_least _ room_1 (by decide +kernel) (by decide +kernel) (by decide +kernel) (by decide +kernel) (by decide +kernel) (by decide +kernel)
theorem allAtoms_all (ts : List Jvm.Cond) (a : Array Jvm.Value) (st : Jvm.State) : (allAtoms ts).before a st = ts.all (fun c => c.before a st) := by
  induction ts with
  | nil => rfl
  | cons c t ih =>
    show (Jvm.Cond.and c (allAtoms t)).before a st = _
    rw [Jvm.Cond.before_and, ih, List.all_cons]
def words1 : List Jvm.Cond := Jvm.Cond.code x code maxLocals ret :: tables_1
/-- a 'code' word, met by the world's own term for the bytes: nothing is compared byte by byte -/
theorem code_word {y : MethodName} {bytes : ByteArray} {mx : Nat} {rt : Option FieldType} {a : Array Value} {s : State} {m : MethodId} {meth : Method} {c : Code} (h1 : s.methodNamed? y = some m) (h2 : s.vm.method? m = some meth) (h3 : meth.code = some c) (h4 : c.code = bytes)
    (h5 : (c.maxLocals == mx && c.exceptionTable.isEmpty && decide (c.maxStack ≤ mostOperands) && decide (meth.sig.returnType = rt) && !meth.locks && decide (parseMethodDescriptor y.desc = some meth.sig)) = true) : (Jvm.Cond.code y bytes mx rt).before a s = true := by
  simp only [Bool.and_eq_true, beq_iff_eq, Bool.not_eq_true', decide_eq_true_eq] at h5
  obtain ⟨⟨⟨⟨⟨g1, g2⟩, g3⟩, g4⟩, g5⟩, g6⟩ := h5
  simp [Cond.before, Cond.holds, Cond.value, h1, h2, h3, h4, g1, g2, g3, g4, g5, g6]
def isCode : Jvm.Cond → Bool
  | .code _ _ _ _ => true
  | _ => false
theorem all_split {L : List Jvm.Cond} {P : Jvm.Cond → Bool} (h1 : L.all (fun c => isCode c || P c) = true) (h2 : ∀ c ∈ L.filter isCode, P c = true) : L.all P = true := by
  refine List.all_eq_true.mpr fun c hc => ?_
  have h := List.all_eq_true.mp h1 c hc
  rcases Bool.eq_false_or_eq_true (isCode c) with hi | hi
  · exact h2 c (List.mem_filter.mpr ⟨hc, hi⟩)
  · simpa [hi] using h
set_option maxRecDepth 65536 in
theorem w_c0 : (Jvm.Cond.code x code maxLocals ret).before args0 about1 = true := code_word (m := ⟨1, 3⟩) (meth := k1m3) (c := k1c3) (by decide +kernel) rfl rfl rfl (by decide +kernel)
set_option maxRecDepth 65536 in
theorem w_c1 : (Jvm.Cond.code ({ cls := "spinecode/identifier/JudgementIsValidPinLaw", name := "pickKind", desc := "(I)Lspinecode/identifier/Kind;" } : Jvm.MethodName) method_2_code (1 : Nat) (Option.some (Jvm.ClassFile.FieldType.object "spinecode/identifier/Kind"))).before args0 about1 = true := code_word (m := ⟨1, 1⟩) (meth := k1m1) (c := k1c1) (by decide +kernel) rfl rfl rfl (by decide +kernel)
set_option maxRecDepth 65536 in
theorem w_c2 : (Jvm.Cond.code ({ cls := "spinecode/identifier/JudgementIsValidPinLaw", name := "pickReason", desc := "(I)Lspinecode/identifier/Reason;" } : Jvm.MethodName) method_3_code (1 : Nat) (Option.some (Jvm.ClassFile.FieldType.object "spinecode/identifier/Reason"))).before args0 about1 = true := code_word (m := ⟨1, 2⟩) (meth := k1m2) (c := k1c2) (by decide +kernel) rfl rfl rfl (by decide +kernel)
set_option maxRecDepth 65536 in
theorem w_c3 : (Jvm.Cond.code ({ cls := "spinecode/identifier/Judgement", name := "<init>", desc := "(Lspinecode/identifier/Kind;Ljava/lang/String;Lspinecode/identifier/Reason;)V" } : Jvm.MethodName) prog_8_method_1_code (4 : Nat) (Option.none : Option Jvm.ClassFile.FieldType)).before args0 about1 = true := code_word (m := ⟨12, 0⟩) (meth := k12m0) (c := k12c0) (by decide +kernel) rfl rfl rfl (by decide +kernel)
set_option maxRecDepth 65536 in
theorem w_c4 : (Jvm.Cond.code ({ cls := "java/lang/Record", name := "<init>", desc := "()V" } : Jvm.MethodName) jdk_30_method_1_code (1 : Nat) (Option.none : Option Jvm.ClassFile.FieldType)).before args0 about1 = true := code_word (m := ⟨11, 0⟩) (meth := k11m0) (c := k11c0) (by decide +kernel) rfl rfl rfl (by decide +kernel)
set_option maxRecDepth 65536 in
theorem w_c5 : (Jvm.Cond.code ({ cls := "java/lang/Object", name := "<init>", desc := "()V" } : Jvm.MethodName) object_method_1_code (1 : Nat) (Option.none : Option Jvm.ClassFile.FieldType)).before args0 about1 = true := code_word (m := ⟨0, 0⟩) (meth := k0m0) (c := k0c0) (by decide +kernel) rfl rfl rfl (by decide +kernel)
set_option maxRecDepth 65536 in
theorem w_c6 : (Jvm.Cond.code ({ cls := "java/util/Objects", name := "requireNonNull", desc := "(Ljava/lang/Object;Ljava/lang/String;)Ljava/lang/Object;" } : Jvm.MethodName) jdk_31_method_11_code (2 : Nat) (Option.some (Jvm.ClassFile.FieldType.object "java/lang/Object"))).before args0 about1 = true := code_word (m := ⟨13, 1⟩) (meth := k13m1) (c := k13c1) (by decide +kernel) rfl rfl rfl (by decide +kernel)
set_option maxRecDepth 65536 in
theorem w_c7 : (Jvm.Cond.code ({ cls := "spinecode/identifier/Judgement", name := "isValid", desc := "()Z" } : Jvm.MethodName) prog_8_method_4_code (1 : Nat) (Option.some Jvm.ClassFile.FieldType.boolean)).before args0 about1 = true := code_word (m := ⟨12, 1⟩) (meth := k12m1) (c := k12c1) (by decide +kernel) rfl rfl rfl (by decide +kernel)
set_option maxRecDepth 65536 in
theorem w_c8 : (Jvm.Cond.code ({ cls := "java/lang/String", name := "<init>", desc := "([C)V" } : Jvm.MethodName) jdk_42_method_3_code (2 : Nat) (Option.none : Option Jvm.ClassFile.FieldType)).before args0 about1 = true := code_word (m := ⟨10, 1⟩) (meth := k10m1) (c := k10c1) (by decide +kernel) rfl rfl rfl (by decide +kernel)
set_option maxRecDepth 65536 in
theorem w_c9 : (Jvm.Cond.code ({ cls := "java/lang/String", name := "<init>", desc := "([CIILjava/lang/Void;)V" } : Jvm.MethodName) jdk_42_method_149_code (6 : Nat) (Option.none : Option Jvm.ClassFile.FieldType)).before args0 about1 = true := code_word (m := ⟨10, 2⟩) (meth := k10m2) (c := k10c2) (by decide +kernel) rfl rfl rfl (by decide +kernel)
set_option maxRecDepth 65536 in
theorem w_c10 : (Jvm.Cond.code ({ cls := "java/lang/StringUTF16", name := "compress", desc := "([CII)[B" } : Jvm.MethodName) jdk_52_method_16_code (6 : Nat) (Option.some (Jvm.ClassFile.FieldType.array Jvm.ClassFile.FieldType.byte))).before args0 about1 = true := code_word (m := ⟨14, 2⟩) (meth := k14m2) (c := k14c2) (by decide +kernel) rfl rfl rfl (by decide +kernel)
set_option maxRecDepth 65536 in
theorem w_c11 : (Jvm.Cond.code ({ cls := "java/lang/StringUTF16", name := "compress", desc := "([CI[BII)I" } : Jvm.MethodName) jdk_52_method_21_code (7 : Nat) (Option.some Jvm.ClassFile.FieldType.int)).before args0 about1 = true := code_word (m := ⟨14, 3⟩) (meth := k14m3) (c := k14c3) (by decide +kernel) rfl rfl rfl (by decide +kernel)
set_option maxRecDepth 65536 in
theorem w_c12 : (Jvm.Cond.code ({ cls := "java/lang/StringUTF16", name := "coderFromArrayLen", desc := "([BI)B" } : Jvm.MethodName) jdk_52_method_15_code (2 : Nat) (Option.some Jvm.ClassFile.FieldType.byte)).before args0 about1 = true := code_word (m := ⟨14, 1⟩) (meth := k14m1) (c := k14c1) (by decide +kernel) rfl rfl rfl (by decide +kernel)
def codes1 : List Jvm.Cond := [Jvm.Cond.code x code maxLocals ret, Jvm.Cond.code ({ cls := "spinecode/identifier/JudgementIsValidPinLaw", name := "pickKind", desc := "(I)Lspinecode/identifier/Kind;" } : Jvm.MethodName) method_2_code (1 : Nat) (Option.some (Jvm.ClassFile.FieldType.object "spinecode/identifier/Kind")), Jvm.Cond.code ({ cls := "spinecode/identifier/JudgementIsValidPinLaw", name := "pickReason", desc := "(I)Lspinecode/identifier/Reason;" } : Jvm.MethodName) method_3_code (1 : Nat) (Option.some (Jvm.ClassFile.FieldType.object "spinecode/identifier/Reason")), Jvm.Cond.code ({ cls := "spinecode/identifier/Judgement", name := "<init>", desc := "(Lspinecode/identifier/Kind;Ljava/lang/String;Lspinecode/identifier/Reason;)V" } : Jvm.MethodName) prog_8_method_1_code (4 : Nat) (Option.none : Option Jvm.ClassFile.FieldType), Jvm.Cond.code ({ cls := "java/lang/Record", name := "<init>", desc := "()V" } : Jvm.MethodName) jdk_30_method_1_code (1 : Nat) (Option.none : Option Jvm.ClassFile.FieldType), Jvm.Cond.code ({ cls := "java/lang/Object", name := "<init>", desc := "()V" } : Jvm.MethodName) object_method_1_code (1 : Nat) (Option.none : Option Jvm.ClassFile.FieldType), Jvm.Cond.code ({ cls := "java/util/Objects", name := "requireNonNull", desc := "(Ljava/lang/Object;Ljava/lang/String;)Ljava/lang/Object;" } : Jvm.MethodName) jdk_31_method_11_code (2 : Nat) (Option.some (Jvm.ClassFile.FieldType.object "java/lang/Object")), Jvm.Cond.code ({ cls := "spinecode/identifier/Judgement", name := "isValid", desc := "()Z" } : Jvm.MethodName) prog_8_method_4_code (1 : Nat) (Option.some Jvm.ClassFile.FieldType.boolean), Jvm.Cond.code ({ cls := "java/lang/String", name := "<init>", desc := "([C)V" } : Jvm.MethodName) jdk_42_method_3_code (2 : Nat) (Option.none : Option Jvm.ClassFile.FieldType), Jvm.Cond.code ({ cls := "java/lang/String", name := "<init>", desc := "([CIILjava/lang/Void;)V" } : Jvm.MethodName) jdk_42_method_149_code (6 : Nat) (Option.none : Option Jvm.ClassFile.FieldType), Jvm.Cond.code ({ cls := "java/lang/StringUTF16", name := "compress", desc := "([CII)[B" } : Jvm.MethodName) jdk_52_method_16_code (6 : Nat) (Option.some (Jvm.ClassFile.FieldType.array Jvm.ClassFile.FieldType.byte)), Jvm.Cond.code ({ cls := "java/lang/StringUTF16", name := "compress", desc := "([CI[BII)I" } : Jvm.MethodName) jdk_52_method_21_code (7 : Nat) (Option.some Jvm.ClassFile.FieldType.int), Jvm.Cond.code ({ cls := "java/lang/StringUTF16", name := "coderFromArrayLen", desc := "([BI)B" } : Jvm.MethodName) jdk_52_method_15_code (2 : Nat) (Option.some Jvm.ClassFile.FieldType.byte)]
set_option maxRecDepth 65536 in
theorem codes_eq : words1.filter isCode = codes1 := rfl
theorem w_codes : ∀ c ∈ words1.filter isCode, c.before args0 about1 = true := by
  rw [codes_eq]
  intro c hc
  simp only [codes1, List.mem_cons, List.not_mem_nil, or_false] at hc
  rcases hc with rfl | rfl | rfl | rfl | rfl | rfl | rfl | rfl | rfl | rfl | rfl | rfl | rfl
  · exact w_c0
  · exact w_c1
  · exact w_c2
  · exact w_c3
  · exact w_c4
  · exact w_c5
  · exact w_c6
  · exact w_c7
  · exact w_c8
  · exact w_c9
  · exact w_c10
  · exact w_c11
  · exact w_c12
set_option maxRecDepth 65536 in
theorem w_t1 : (words1.take 24).all (fun c => isCode c || c.before args0 about1) = true := by decide +kernel
set_option maxRecDepth 65536 in
theorem w_t2 : ((words1.drop 24).take 24).all (fun c => isCode c || c.before args0 about1) = true := by decide +kernel
set_option maxRecDepth 65536 in
theorem w_t3 : (((words1.drop 24).drop 24).take 24).all (fun c => isCode c || c.before args0 about1) = true := by decide +kernel
set_option maxRecDepth 65536 in
theorem w_t4 : (((words1.drop 24).drop 24).drop 24).all (fun c => isCode c || c.before args0 about1) = true := by decide +kernel
theorem w_tables : (allAtoms (Jvm.Cond.code x code maxLocals ret :: tables_1)).before args0 about1 = true := by
  rw [allAtoms_all]
  show words1.all (fun c => c.before args0 about1) = true
  refine all_split ?_ w_codes
  rw [← List.take_append_drop 24 words1, List.all_append, w_t1, ← List.take_append_drop 24 (words1.drop 24), List.all_append, w_t2, ← List.take_append_drop 24 ((words1.drop 24).drop 24), List.all_append, w_t3, w_t4]
  rfl
set_option maxRecDepth 65536 in
theorem w_rest : rest_1_c.before args0 about1 = true := by decide +kernel
set_option maxRecDepth 65536 in
theorem w_case : (Jvm.Cond.and given_1 narrow_1).before args0 about1 = true := by decide +kernel
theorem w_applies : (headSpec (Jvm.Cond.code x code maxLocals ret :: tables_1) room_1).applies x e0.platform about1 = true :=
  (Spec.applies_iff w_frames).mpr ⟨w_running, w_runnable, w_alone, w_named, w_hears, w_ripe, w_room, w_tables⟩
theorem atStart : AtStart classFile x code maxLocals ret World_1 tables_1 room_1 Calls_1 rest_1 Pre_1 launch0 p0 e0 about1 theMethod args0 below0 :=
  ⟨lists_1, trivial, launch0.admits_env _ _ _, launch0.least_env, fairChoices_fair.cas, fairChoices_fair.clock, w_frames, w_args, w_heap, w_applies, trivial, w_rest, w_case⟩
end start1
theorem witness_1 : WitnessClaimed_1 := ⟨start1.p0, start1.e0, start1.about1, start1.theMethod, start1.args0, start1.below0, start1.atStart⟩
end Jvm.Pilot.@@N@@
