import JvmDerived
import JvmDerived.Pilot.@@N@@Statement
import JvmDerived.Pilot.@@N@@Code
set_option linter.unusedVariables false
set_option linter.unusedSimpArgs false
namespace Jvm.Wk
open Sem ClassFile Op Lib Jvm.Stand Jvm.Free Jvm.LawKit Jvm.RoadKit
/-- a boolean as an int -/
def b2 (P : Prop) [Decidable P] : Int32 := if P then 1 else 0
theorem b2_t {P : Prop} [Decidable P] (h : P) : b2 P = 1 := if_pos h
theorem b2_f {P : Prop} [Decidable P] (h : ¬ P) : b2 P = 0 := if_neg h
theorem b2_ne0 (P : Prop) [Decidable P] : (b2 P).toInt ≠ 0 ↔ P := by by_cases h : P <;> simp [b2, h]
theorem b2_eq0 (P : Prop) [Decidable P] : (b2 P).toInt = 0 ↔ ¬ P := by by_cases h : P <;> simp [b2, h]
theorem b2_inj (P P' : Prop) [Decidable P] [Decidable P'] : (b2 P).toInt = (b2 P').toInt ↔ (P ↔ P') := by by_cases h : P <;> by_cases h' : P' <;> simp [b2, h, h']
theorem eqI {x y : Int32} (h : x.toInt = y.toInt) : x = y := Int32.toInt_inj.mp h
/-- from the frame f, with the heap h and so many cells and slots made, the body ends as Q says -/
def Go (p : Program) (l : Launch) (e : Env) (R : Room) (s : State) (m : MethodId) (args : Array Value) (below : List Frame) (meth : Method) (c : Code) (n0 : Nat) (Q : Option Value → Heap → Prop) (h : Heap) (kc ks : Nat) (f : JFrame) : Prop :=
  ∀ (T : State) (locs : List Loc), Stand p l e R s m args below meth c T locs kc ks → T.heap = h → Fr n0 locs →
    ∃ s₂ o, Steps p.tables e below (T.setTop f) s₂ ∧ s₂.status = .running ∧ Ended s₂ below o ∧ ∃ v L, o = .returned v ∧ (Q v s₂.heap ∧ Fr n0 L) ∧ FrameEnd s o s₂ L R.cells R.slots
/-- the ambient of a body's walk, hidden behind G -/
def Cx (l : Launch) (R : Room) (Z : State) (n0 : Nat) (Q : Option Value → Heap → Prop) (own nm : String) (bytes : ByteArray) (maxL : Nat) (ret : Option FieldType) (m : MethodId) (G : Heap → Nat → Nat → JFrame → Prop) : Prop :=
  ∃ (p : Program) (e : Env) (s : State) (args : Array Value) (below : List Frame) (meth : Method) (c : Code), G = Go p l e R s m args below meth c n0 Q ∧ p.tables.exec = Jvm.exec ∧ c.code = bytes ∧ c.maxLocals = maxL ∧ s.vm.findClass own = some m.cls ∧ Z.Warmed39 s.vm ∧ meth.sig.returnType = ret ∧ meth.locks = false ∧ meth.name = nm
/-- the contract of a body, asked with these arguments at this heap -/
def MeetsW (l : Launch) (Z : State) (n0 : Nat) (y : MethodName) (bytes : ByteArray) (maxL : Nat) (ret : Option FieldType) (rm : Room) (as' : Array Value) (h0 : Heap) (Q : Option Value → Heap → Prop) : Prop :=
  ∀ ws : List Cond, MetFree l y (head1 (Cond.code y bytes maxL ret :: ws) rm) (fun a U => a = as' ∧ Z.Warmed39 U.vm ∧ U.heap = h0) (fun _ _ _ _ _ => True) (fun _ U o U' => ∃ v L, o = .returned v ∧ (Q v U'.heap ∧ Fr n0 L) ∧ FrameEnd U o U' L rm.cells rm.slots)
/-- an array with just these values -/
def Ary (Z : State) (h : Heap) (a : Addr) (ty : FieldType) (vs : List Value) : Prop := ∃ c : Cell, Arr Z h a c ty ∧ c.slots.toList = vs ∧ vs.length < 2 ^ 31
section Facts
variable {Z : State} {h h' : Heap} {a b : Addr} {ty : FieldType} {vs : List Value} {v : Value} {sl : Nat} {ws : List Addr}
theorem Ary.lt (A : Ary Z h a ty vs) : a < h.size := by obtain ⟨c, A, -⟩ := A; exact A.lt
theorem Ary.ext (A : Ary Z h a ty vs) (E : Ext h h') : Ary Z h' a ty vs := by obtain ⟨c, A, r⟩ := A; exact ⟨c, A.ext E, r⟩
theorem Ary.other (A : Ary Z h b ty vs) (W : Wr h h' a sl v) (q : b ≠ a) : Ary Z h' b ty vs := by obtain ⟨c, A, r⟩ := A; exact ⟨c, A.other W q, r⟩
theorem Ary.keep (A : Ary Z h a ty vs) (K : Keep h h' ws) (q : a ∉ ws) : Ary Z h' a ty vs := by obtain ⟨c, A, r⟩ := A; exact ⟨c, ⟨K.2.1 a c A.1 q, A.2⟩, r⟩
theorem Ary.same (A : Ary Z h a ty vs) (W : Wr h h' a sl v) : Ary Z h' a ty (vs.set sl v) := by
  obtain ⟨c, A, r, r'⟩ := A
  refine ⟨_, A.same W, ?_, by rw [List.length_set]; exact r'⟩
  show (c.slots.setIfInBounds sl v).toList = _
  rw [Array.toList_setIfInBounds, r]
theorem clamp_of {j : Int32} {i : Nat} (hj : j.toInt = i) : j.toNatClampNeg = i := by simp only [Int32.toNatClampNeg, hj]; rfl
theorem in_of {c : Cell} {j : Int32} {i : Nat} (hj : j.toInt = i) (hi : i < c.slots.toList.length) : ¬ (j < 0 ∨ c.slots.size ≤ j.toNatClampNeg) := by
  rw [clamp_of hj]
  have h0 : ¬ j < 0 := by rw [Int32.lt_iff_toInt_lt, hj, show (0 : Int32).toInt = 0 from rfl]; omega
  rw [Array.length_toList] at hi
  intro q; rcases q with q | q
  · exact h0 q
  · omega
theorem at_of {c : Cell} {j : Int32} {i : Nat} {v : Value} (hj : j.toInt = i) (hv : c.slots.toList[i]? = some v) : c.slots[j.toNatClampNeg]? = some v := by
  rw [clamp_of hj, ← Array.getElem?_toList]; exact hv
theorem len_int {n : Nat} (h : n < 2 ^ 31) : n.toInt32.toInt = n := len_toInt h
theorem Ary.toArv {d : Value} (A : Ary Z h a ty vs) (hf : ∀ v ∈ vs, fits ty v = true) (hd : fits ty d = true) : ∃ (k : ClassId) (z : Int32), z.toInt = ((vs.length : Nat) : Int) ∧ Arv Z h a k ty z vs d := by
  obtain ⟨c, Ar, rfl, hlt⟩ := A
  have hl : c.slots.size < 2 ^ 31 := by rwa [Array.length_toList] at hlt
  refine ⟨c.cls, c.slots.size.toInt32, by rw [Array.length_toList]; exact len_int hl, c, Ar, rfl, by rw [clamp_of (len_int hl)], ?_, ?_, ?_⟩
  · rw [Int32.lt_iff_toInt_lt, len_int hl, show (0 : Int32).toInt = 0 from rfl]; omega
  · intro k hk; simp [List.getD_eq_getElem?_getD, hk]
  · intro i hi
    have q : c.slots.toList.getD i d = c.slots[i] := by simp [List.getD_eq_getElem?_getD, hi]
    rw [q]; exact hf _ (by simp)
theorem Arv.toAry {d : Value} {k : ClassId} {z : Int32} (F : Arv Z h a k ty z vs d) (hz : z.toInt = (vs.length : Nat)) : Ary Z h a ty vs := by
  obtain ⟨c, Ar, -, S, -, H, -⟩ := F
  rw [clamp_of hz] at S
  refine ⟨c, Ar, ?_, by have := z.toInt_lt; omega⟩
  apply List.ext_getElem?
  intro i
  by_cases hi : i < c.slots.size
  · rw [Array.getElem?_toList, H i hi, List.getD_eq_getElem?_getD]
    have hi' : i < vs.length := by omega
    simp [hi']
  · rw [List.getElem?_eq_none (by rw [Array.length_toList]; omega), List.getElem?_eq_none (by omega)]
end Facts
section Steps
variable {l : Launch} {R : Room} {Z : State} {n0 : Nat} {Q : Option Value → Heap → Prop} {own nm : String} {bytes : ByteArray} {maxL : Nat} {ret : Option FieldType} {m : MethodId} {G : Heap → Nat → Nat → JFrame → Prop} {h : Heap} {kc ks pc w' pc1 pc2 : Nat} {L L' : Array Slot} {S : List Value} {a0 : Array Value}
theorem MeetsW.intro {y : MethodName} {rm : Room} {as' : Array Value} {h0 : Heap} (hpl : plainFor y = true) {L0 : Array Slot} (hef : ∀ m, entryFrame m as' maxL = mkF m 0 L0 [])
    (body : ∀ m G, Cx l rm Z n0 Q y.cls y.name bytes maxL ret m G → G h0 0 0 (mkF m 0 L0 [])) : MeetsW l Z n0 y bytes maxL ret rm as' h0 Q := by
  intro ws
  refine MetFree.of_bodySF hpl hisR ?_
  intro p e s m args below meth c s₁ Bd hml0 hP hK
  obtain ⟨rfl, hZ, hh⟩ := hP
  have hnm := (name_of_methodNamed Bd.named Bd.method).1
  have X0 : Stand p l e rm s m args below meth c s₁ [] 0 0 := Stand.of_body Bd
  have e0 : s₁.heap = h0 := by rw [← hh, Bd.state]; rfl
  have q := body m _ ⟨p, e, s, args, below, meth, c, rfl, Bd.exec, Bd.bytes, hml0, findClass_of_methodNamed Bd.named, hZ, Bd.returns, Bd.notSynchronized, hnm⟩ s₁ [] X0 e0 (Fr.nil n0)
  rw [hef]; exact q
theorem Cx.step (K : Cx l R Z n0 Q own nm bytes maxL ret m G) {f f' : JFrame}
    (hs : ∀ (p : Program) (e : Env) (below : List Frame) (T : State) (c : Code), At T m c below → p.tables.exec = Jvm.exec → c.code = bytes → ∀ t, Steps p.tables e below (T.setTop f') t → Steps p.tables e below (T.setTop f) t)
    (hr : G h kc ks f') : G h kc ks f := by
  obtain ⟨p, e, s, args, below, meth, c, rfl, hx, hby, hml, hown, hZ, hret, hlk, hn⟩ := K
  intro T locs X eT N
  obtain ⟨s₂, o, h1, h2⟩ := hr T locs X eT N
  exact ⟨s₂, o, hs p e below T c X.here hx hby _ h1, h2⟩
theorem Cx.stepX (K : Cx l R Z n0 Q own nm bytes maxL ret m G) {f f' : JFrame} {h' : Heap}
    (hs : ∀ (p : Program) (e : Env) (s : State) (args : Array Value) (below : List Frame) (meth : Method) (c : Code) (T : State) (locs : List Loc), Stand p l e R s m args below meth c T locs kc ks → T.heap = h → p.tables.exec = Jvm.exec → c.code = bytes → s.vm.findClass own = some m.cls → Z.Warmed39 s.vm → ∃ T', Stand p l e R s m args below meth c T' locs kc ks ∧ T'.heap = h ∧ ∀ t, Steps p.tables e below (T'.setTop f') t → Steps p.tables e below (T.setTop f) t)
    (hr : G h kc ks f') : G h kc ks f := by
  obtain ⟨p, e, s, args, below, meth, c, rfl, hx, hby, hml, hown, hZ, hret, hlk, hn⟩ := K
  intro T locs X eT N
  obtain ⟨T', X', e', st⟩ := hs p e s args below meth c T locs X eT hx hby hown hZ
  obtain ⟨s₂, o, h1, h2⟩ := hr T' locs X' e' N
  exact ⟨s₂, o, st _ h1, h2⟩
theorem Cx.iloadN (K : Cx l R Z n0 Q own nm bytes maxL ret m G) {k : Fin 4} {v : Int32} (hd : decode bytes pc = .ok (.iload_n k, 1)) (hp : pc + 1 = w') (hl : L[k.val]? = some (.val (.int v))) (hr : G h kc ks (mkF m w' L (.int v :: S))) : G h kc ks (mkF m pc L (S)) := by
  subst hp
  exact K.step (fun p e below T c h hx hb0 t hr => XS.iloadN h hx rfl (hb hb0 hd) hl hr) hr
theorem Cx.iload (K : Cx l R Z n0 Q own nm bytes maxL ret m G) {k : Nat} {v : Int32} (hd : decode bytes pc = .ok (.iload k, 2)) (hp : pc + 2 = w') (hl : L[k]? = some (.val (.int v))) (hr : G h kc ks (mkF m w' L (.int v :: S))) : G h kc ks (mkF m pc L (S)) := by
  subst hp
  exact K.step (fun p e below T c h hx hb0 t hr => XS.iload h hx rfl (hb hb0 hd) hl hr) hr
theorem Cx.istoreN (K : Cx l R Z n0 Q own nm bytes maxL ret m G) {k : Fin 4} {x : Int32} (hd : decode bytes pc = .ok (.istore_n k, 1)) (hp : pc + 1 = w') (hl : storeLocals L k.val (.int x) = some L') (hr : G h kc ks (mkF m w' L' (S))) : G h kc ks (mkF m pc L (.int x :: S)) := by
  subst hp
  exact K.step (fun p e below T c h hx hb0 t hr => XS.istoreN h hx rfl (hb hb0 hd) rfl hl hr) hr
theorem Cx.istore (K : Cx l R Z n0 Q own nm bytes maxL ret m G) {k : Nat} {x : Int32} (hd : decode bytes pc = .ok (.istore k, 2)) (hp : pc + 2 = w') (hl : storeLocals L k (.int x) = some L') (hr : G h kc ks (mkF m w' L' (S))) : G h kc ks (mkF m pc L (.int x :: S)) := by
  subst hp
  exact K.step (fun p e below T c h hx hb0 t hr => XS.istore h hx rfl (hb hb0 hd) rfl hl hr) hr
theorem Cx.lloadN (K : Cx l R Z n0 Q own nm bytes maxL ret m G) {k : Fin 4} {v : Int64} (hd : decode bytes pc = .ok (.lload_n k, 1)) (hp : pc + 1 = w') (hl : L[k.val]? = some (.val (.long v))) (hr : G h kc ks (mkF m w' L (.long v :: S))) : G h kc ks (mkF m pc L (S)) := by
  subst hp
  exact K.step (fun p e below T c h hx hb0 t hr => XS.lloadN h hx rfl (hb hb0 hd) hl hr) hr
theorem Cx.lload (K : Cx l R Z n0 Q own nm bytes maxL ret m G) {k : Nat} {v : Int64} (hd : decode bytes pc = .ok (.lload k, 2)) (hp : pc + 2 = w') (hl : L[k]? = some (.val (.long v))) (hr : G h kc ks (mkF m w' L (.long v :: S))) : G h kc ks (mkF m pc L (S)) := by
  subst hp
  exact K.step (fun p e below T c h hx hb0 t hr => XS.lload h hx rfl (hb hb0 hd) hl hr) hr
theorem Cx.lstore (K : Cx l R Z n0 Q own nm bytes maxL ret m G) {k : Nat} {x : Int64} (hd : decode bytes pc = .ok (.lstore k, 2)) (hp : pc + 2 = w') (hl : storeLocals L k (.long x) = some L') (hr : G h kc ks (mkF m w' L' (S))) : G h kc ks (mkF m pc L (.long x :: S)) := by
  subst hp
  exact K.step (fun p e below T c h hx hb0 t hr => XS.lstore h hx rfl (hb hb0 hd) rfl hl hr) hr
theorem Cx.aloadN (K : Cx l R Z n0 Q own nm bytes maxL ret m G) {k : Fin 4} {v : Value} (hd : decode bytes pc = .ok (.aload_n k, 1)) (hp : pc + 1 = w') (hl : L[k.val]? = some (.val v)) (hv : v.isRef = true) (hr : G h kc ks (mkF m w' L (v :: S))) : G h kc ks (mkF m pc L (S)) := by
  subst hp
  exact K.step (fun p e below T c h hx hb0 t hr => XS.aloadN h hx rfl (hb hb0 hd) hl hv hr) hr
theorem Cx.astoreN (K : Cx l R Z n0 Q own nm bytes maxL ret m G) {k : Fin 4} {x : Value} (hd : decode bytes pc = .ok (.astore_n k, 1)) (hp : pc + 1 = w') (hv : x.isRef = true) (hl : storeLocals L k.val x = some L') (hr : G h kc ks (mkF m w' L' (S))) : G h kc ks (mkF m pc L (x :: S)) := by
  subst hp
  exact K.step (fun p e below T c h hx hb0 t hr => XS.astoreN h hx rfl (hb hb0 hd) rfl hv hl hr) hr
theorem Cx.iconst (K : Cx l R Z n0 Q own nm bytes maxL ret m G) {i : Int} {z : Int32} (hd : decode bytes pc = .ok (.iconst i, 1)) (hp : pc + 1 = w') (hz : Int32.ofInt i = z) (hr : G h kc ks (mkF m w' L (.int z :: S))) : G h kc ks (mkF m pc L (S)) := by
  subst hp hz
  exact K.step (fun p e below T c h hx hb0 t hr => XS.iconst h hx rfl (hb hb0 hd) hr) hr
theorem Cx.bipush (K : Cx l R Z n0 Q own nm bytes maxL ret m G) {i : Int} {z : Int32} (hd : decode bytes pc = .ok (.bipush i, 2)) (hp : pc + 2 = w') (hz : (Int8.ofInt i).toInt32 = z) (hr : G h kc ks (mkF m w' L (.int z :: S))) : G h kc ks (mkF m pc L (S)) := by
  subst hp hz
  exact K.step (fun p e below T c h hx hb0 t hr => XS.bipush h hx rfl (hb hb0 hd) hr) hr
theorem Cx.lconst (K : Cx l R Z n0 Q own nm bytes maxL ret m G) {k : Fin 2} {z : Int64} (hd : decode bytes pc = .ok (.lconst k, 1)) (hp : pc + 1 = w') (hz : Int64.ofNat k = z) (hr : G h kc ks (mkF m w' L (.long z :: S))) : G h kc ks (mkF m pc L (S)) := by
  subst hp hz
  exact K.step (fun p e below T c h hx hb0 t hr => XS.lconst h hx rfl (hb hb0 hd) hr) hr
theorem Cx.anull (K : Cx l R Z n0 Q own nm bytes maxL ret m G) (hd : decode bytes pc = .ok (.aconst_null, 1)) (hp : pc + 1 = w')  (hr : G h kc ks (mkF m w' L (.null :: S))) : G h kc ks (mkF m pc L (S)) := by
  subst hp
  exact K.step (fun p e below T c h hx hb0 t hr => XS.aconstNull h hx rfl (hb hb0 hd) hr) hr
theorem Cx.iadd (K : Cx l R Z n0 Q own nm bytes maxL ret m G) {x y z : Int32} (hd : decode bytes pc = .ok (.iadd, 1)) (hp : pc + 1 = w') (hz : x + y = z) (hr : G h kc ks (mkF m w' L (.int z :: S))) : G h kc ks (mkF m pc L (.int y :: .int x :: S)) := by
  subst hp hz
  exact K.step (fun p e below T c h hx hb0 t hr => XS.iadd h hx rfl (hb hb0 hd) rfl hr) hr
theorem Cx.isub (K : Cx l R Z n0 Q own nm bytes maxL ret m G) {x y z : Int32} (hd : decode bytes pc = .ok (.isub, 1)) (hp : pc + 1 = w') (hz : x - y = z) (hr : G h kc ks (mkF m w' L (.int z :: S))) : G h kc ks (mkF m pc L (.int y :: .int x :: S)) := by
  subst hp hz
  exact K.step (fun p e below T c h hx hb0 t hr => XS.isub h hx rfl (hb hb0 hd) rfl hr) hr
theorem Cx.iand (K : Cx l R Z n0 Q own nm bytes maxL ret m G) {x y z : Int32} (hd : decode bytes pc = .ok (.iand, 1)) (hp : pc + 1 = w') (hz : x &&& y = z) (hr : G h kc ks (mkF m w' L (.int z :: S))) : G h kc ks (mkF m pc L (.int y :: .int x :: S)) := by
  subst hp hz
  exact K.step (fun p e below T c h hx hb0 t hr => XS.iand h hx rfl (hb hb0 hd) rfl hr) hr
theorem Cx.land (K : Cx l R Z n0 Q own nm bytes maxL ret m G) {x y z : Int64} (hd : decode bytes pc = .ok (.land, 1)) (hp : pc + 1 = w') (hz : x &&& y = z) (hr : G h kc ks (mkF m w' L (.long z :: S))) : G h kc ks (mkF m pc L (.long y :: .long x :: S)) := by
  subst hp hz
  exact K.step (fun p e below T c h hx hb0 t hr => XS.land h hx rfl (hb hb0 hd) rfl hr) hr
theorem Cx.lor (K : Cx l R Z n0 Q own nm bytes maxL ret m G) {x y z : Int64} (hd : decode bytes pc = .ok (.lor, 1)) (hp : pc + 1 = w') (hz : x ||| y = z) (hr : G h kc ks (mkF m w' L (.long z :: S))) : G h kc ks (mkF m pc L (.long y :: .long x :: S)) := by
  subst hp hz
  exact K.step (fun p e below T c h hx hb0 t hr => XS.lor h hx rfl (hb hb0 hd) rfl hr) hr
theorem Cx.lxor (K : Cx l R Z n0 Q own nm bytes maxL ret m G) {x y z : Int64} (hd : decode bytes pc = .ok (.lxor, 1)) (hp : pc + 1 = w') (hz : x ^^^ y = z) (hr : G h kc ks (mkF m w' L (.long z :: S))) : G h kc ks (mkF m pc L (.long y :: .long x :: S)) := by
  subst hp hz
  exact K.step (fun p e below T c h hx hb0 t hr => XS.lxor h hx rfl (hb hb0 hd) rfl hr) hr
theorem Cx.ishr (K : Cx l R Z n0 Q own nm bytes maxL ret m G) {x y z : Int32} (hd : decode bytes pc = .ok (.ishr, 1)) (hp : pc + 1 = w') (hz : x >>> (y &&& 31) = z) (hr : G h kc ks (mkF m w' L (.int z :: S))) : G h kc ks (mkF m pc L (.int y :: .int x :: S)) := by
  subst hp hz
  exact K.step (fun p e below T c h hx hb0 t hr => XS.ishr h hx rfl (hb hb0 hd) rfl hr) hr
theorem Cx.iushr (K : Cx l R Z n0 Q own nm bytes maxL ret m G) {x y z : Int32} (hd : decode bytes pc = .ok (.iushr, 1)) (hp : pc + 1 = w') (hz : (x.toUInt32 >>> (y &&& 31).toUInt32).toInt32 = z) (hr : G h kc ks (mkF m w' L (.int z :: S))) : G h kc ks (mkF m pc L (.int y :: .int x :: S)) := by
  subst hp hz
  exact K.step (fun p e below T c h hx hb0 t hr => XS.iushr h hx rfl (hb hb0 hd) rfl hr) hr
theorem Cx.lshl (K : Cx l R Z n0 Q own nm bytes maxL ret m G) {x z : Int64} {y : Int32} (hd : decode bytes pc = .ok (.lshl, 1)) (hp : pc + 1 = w') (hz : x <<< (y &&& 0x3f).toInt64 = z) (hr : G h kc ks (mkF m w' L (.long z :: S))) : G h kc ks (mkF m pc L (.int y :: .long x :: S)) := by
  subst hp hz
  exact K.step (fun p e below T c h hx hb0 t hr => XS.lshl h hx rfl (hb hb0 hd) rfl hr) hr
theorem Cx.iinc (K : Cx l R Z n0 Q own nm bytes maxL ret m G) {k : Nat} {cst : Int} {x z : Int32} (hd : decode bytes pc = .ok (.iinc k cst, 3)) (hp : pc + 3 = w') (hl : L[k]? = some (.val (.int x))) (hz : x + Int32.ofInt cst = z) (hl' : storeLocals L k (.int z) = some L') (hr : G h kc ks (mkF m w' L' (S))) : G h kc ks (mkF m pc L (S)) := by
  subst hp hz
  exact K.step (fun p e below T c h hx hb0 t hr => XS.iinc h hx rfl (hb hb0 hd) hl hl' hr) hr
theorem Cx.dup (K : Cx l R Z n0 Q own nm bytes maxL ret m G) {x : Value} (hd : decode bytes pc = .ok (.dup, 1)) (hp : pc + 1 = w') (hc : x.category = 1) (hr : G h kc ks (mkF m w' L (x :: x :: S))) : G h kc ks (mkF m pc L (x :: S)) := by
  subst hp
  exact K.step (fun p e below T c h hx hb0 t hr => XS.dup h hx rfl (hb hb0 hd) rfl hc hr) hr
theorem Cx.goto (K : Cx l R Z n0 Q own nm bytes maxL ret m G) {o : Int} (hd : decode bytes pc = .ok (.goto o, 3)) (ho : 0 ≤ (pc : Int) + o) (hp : ((pc : Int) + o).toNat = w') (hr : G h kc ks (mkF m w' L S)) : G h kc ks (mkF m pc L S) :=
  K.step (fun p e below T c h hx hb0 t hr => XS.goto h hx rfl (pc0 := pc) (pc' := w') rfl (hb hb0 hd) ho hp hr) hr
theorem icmpW (cd : ClassFile.Cond) {x y : Int32} {a b : Int} (ha : x.toInt = a) (hb : y.toInt = b) : if_icmp.holds cd x y = (match cd with | .lt => decide (a < b) | .ge => decide (b ≤ a) | .gt => decide (b < a) | .le => decide (a ≤ b) | .eq => decide (a = b) | .ne => decide (a ≠ b)) := by
  subst ha hb
  cases cd <;> rw [Bool.eq_iff_iff] <;> simp [if_icmp.holds, Int32.lt_iff_toInt_lt, Int32.le_iff_toInt_le, Int32.toInt_inj]
theorem lcmpW0 (cd : ClassFile.Cond) {x y : Int64} {a b : Int} (ha : x.toInt = a) (hb : y.toInt = b) : ifCond.holds cd (if x > y then 1 else if x = y then 0 else -1) = (match cd with | .lt => decide (a < b) | .ge => decide (b ≤ a) | .gt => decide (b < a) | .le => decide (a ≤ b) | .eq => decide (a = b) | .ne => decide (a ≠ b)) := by
  subst ha hb
  rcases Int.lt_trichotomy x.toInt y.toInt with h | h | h
  · have e : (if x > y then (1 : Int32) else if x = y then 0 else -1) = -1 := by rw [if_neg (by rw [gt_iff_lt, Int64.lt_iff_toInt_lt]; omega), if_neg (by rw [← Int64.toInt_inj]; omega)]
    rw [e, if0, icmpW cd (a := -1) (b := 0) rfl rfl]
    cases cd <;> exact decide_eq_decide.mpr (by omega)
  · have e : (if x > y then (1 : Int32) else if x = y then 0 else -1) = 0 := by rw [if_neg (by rw [gt_iff_lt, Int64.lt_iff_toInt_lt]; omega), if_pos (by rw [← Int64.toInt_inj]; omega)]
    rw [e, if0, icmpW cd (a := 0) (b := 0) rfl rfl]
    cases cd <;> exact decide_eq_decide.mpr (by omega)
  · have e : (if x > y then (1 : Int32) else if x = y then 0 else -1) = 1 := by rw [if_pos (by rw [gt_iff_lt, Int64.lt_iff_toInt_lt]; omega)]
    rw [e, if0, icmpW cd (a := 1) (b := 0) rfl rfl]
    cases cd <;> exact decide_eq_decide.mpr (by omega)
theorem Cx.icmp_lt (K : Cx l R Z n0 Q own nm bytes maxL ret m G) {o : Int} {x y : Int32} {a b : Int} (hd : decode bytes pc = .ok (.if_icmp .lt o, 3)) (hp : pc + 3 = pc1) (ho : 0 ≤ (pc : Int) + o) (hq : ((pc : Int) + o).toNat = pc2) (ha : x.toInt = a) (hb' : y.toInt = b) (ht : a < b → G h kc ks (mkF m pc2 L S)) (hf : b ≤ a → G h kc ks (mkF m pc1 L S)) : G h kc ks (mkF m pc L (.int y :: .int x :: S)) := by
  subst hp
  have q := icmpW .lt ha hb'
  by_cases hc : a < b
  · exact K.step (fun p e below T c h hx hb0 t hr => XS.icmpYes h hx rfl (pc0 := pc) (pc' := pc2) rfl (hb hb0 hd) rfl (q.trans (decide_eq_true hc)) ho hq hr) (ht hc)
  · exact K.step (fun p e below T c h hx hb0 t hr => XS.icmpNo h hx rfl (hb hb0 hd) rfl (q.trans (decide_eq_false hc)) hr) (hf (by omega))
theorem Cx.if_lt (K : Cx l R Z n0 Q own nm bytes maxL ret m G) {o : Int} {x : Int32} {a : Int} (hd : decode bytes pc = .ok (.ifCond .lt o, 3)) (hp : pc + 3 = pc1) (ho : 0 ≤ (pc : Int) + o) (hq : ((pc : Int) + o).toNat = pc2) (ha : x.toInt = a) (ht : a < 0 → G h kc ks (mkF m pc2 L S)) (hf : 0 ≤ a → G h kc ks (mkF m pc1 L S)) : G h kc ks (mkF m pc L (.int x :: S)) := by
  subst hp
  have q := (if0 .lt x).trans (icmpW .lt ha (b := 0) rfl)
  by_cases hc : a < 0
  · exact K.step (fun p e below T c h hx hb0 t hr => XS.ifYes h hx rfl (pc0 := pc) (pc' := pc2) rfl (hb hb0 hd) rfl (q.trans (decide_eq_true hc)) ho hq hr) (ht hc)
  · exact K.step (fun p e below T c h hx hb0 t hr => XS.ifNo h hx rfl (hb hb0 hd) rfl (q.trans (decide_eq_false hc)) hr) (hf (by omega))
theorem Cx.icmp_ge (K : Cx l R Z n0 Q own nm bytes maxL ret m G) {o : Int} {x y : Int32} {a b : Int} (hd : decode bytes pc = .ok (.if_icmp .ge o, 3)) (hp : pc + 3 = pc1) (ho : 0 ≤ (pc : Int) + o) (hq : ((pc : Int) + o).toNat = pc2) (ha : x.toInt = a) (hb' : y.toInt = b) (ht : b ≤ a → G h kc ks (mkF m pc2 L S)) (hf : a < b → G h kc ks (mkF m pc1 L S)) : G h kc ks (mkF m pc L (.int y :: .int x :: S)) := by
  subst hp
  have q := icmpW .ge ha hb'
  by_cases hc : b ≤ a
  · exact K.step (fun p e below T c h hx hb0 t hr => XS.icmpYes h hx rfl (pc0 := pc) (pc' := pc2) rfl (hb hb0 hd) rfl (q.trans (decide_eq_true hc)) ho hq hr) (ht hc)
  · exact K.step (fun p e below T c h hx hb0 t hr => XS.icmpNo h hx rfl (hb hb0 hd) rfl (q.trans (decide_eq_false hc)) hr) (hf (by omega))
theorem Cx.if_ge (K : Cx l R Z n0 Q own nm bytes maxL ret m G) {o : Int} {x : Int32} {a : Int} (hd : decode bytes pc = .ok (.ifCond .ge o, 3)) (hp : pc + 3 = pc1) (ho : 0 ≤ (pc : Int) + o) (hq : ((pc : Int) + o).toNat = pc2) (ha : x.toInt = a) (ht : 0 ≤ a → G h kc ks (mkF m pc2 L S)) (hf : a < 0 → G h kc ks (mkF m pc1 L S)) : G h kc ks (mkF m pc L (.int x :: S)) := by
  subst hp
  have q := (if0 .ge x).trans (icmpW .ge ha (b := 0) rfl)
  by_cases hc : 0 ≤ a
  · exact K.step (fun p e below T c h hx hb0 t hr => XS.ifYes h hx rfl (pc0 := pc) (pc' := pc2) rfl (hb hb0 hd) rfl (q.trans (decide_eq_true hc)) ho hq hr) (ht hc)
  · exact K.step (fun p e below T c h hx hb0 t hr => XS.ifNo h hx rfl (hb hb0 hd) rfl (q.trans (decide_eq_false hc)) hr) (hf (by omega))
theorem Cx.lcmp_ge (K : Cx l R Z n0 Q own nm bytes maxL ret m G) {o : Int} {x y : Int64} {a b : Int} (hd0 : decode bytes pc = .ok (.lcmp, 1)) (hd : decode bytes (pc + 1) = .ok (.ifCond .ge o, 3)) (hp : pc + 4 = pc1) (ho : 0 ≤ ((pc + 1 : Nat) : Int) + o) (hq : (((pc + 1 : Nat) : Int) + o).toNat = pc2) (ha : x.toInt = a) (hb' : y.toInt = b) (ht : b ≤ a → G h kc ks (mkF m pc2 L S)) (hf : a < b → G h kc ks (mkF m pc1 L S)) : G h kc ks (mkF m pc L (.long y :: .long x :: S)) := by
  subst hp
  have q := lcmpW0 .ge ha hb'
  refine K.step (f' := mkF m (pc + 1) L (.int (if x > y then 1 else if x = y then 0 else -1) :: S)) (fun p e below T c h hx hb0 t hr => XS.lcmp h hx rfl (hb hb0 hd0) rfl hr) ?_
  by_cases hc : b ≤ a
  · exact K.step (fun p e below T c h hx hb0 t hr => XS.ifYes h hx rfl (pc0 := pc + 1) (pc' := pc2) rfl (hb hb0 hd) rfl (q.trans (decide_eq_true hc)) ho hq hr) (ht hc)
  · exact K.step (fun p e below T c h hx hb0 t hr => XS.ifNo h hx rfl (hb hb0 hd) rfl (q.trans (decide_eq_false hc)) hr) (hf (by omega))
theorem Cx.icmp_gt (K : Cx l R Z n0 Q own nm bytes maxL ret m G) {o : Int} {x y : Int32} {a b : Int} (hd : decode bytes pc = .ok (.if_icmp .gt o, 3)) (hp : pc + 3 = pc1) (ho : 0 ≤ (pc : Int) + o) (hq : ((pc : Int) + o).toNat = pc2) (ha : x.toInt = a) (hb' : y.toInt = b) (ht : b < a → G h kc ks (mkF m pc2 L S)) (hf : a ≤ b → G h kc ks (mkF m pc1 L S)) : G h kc ks (mkF m pc L (.int y :: .int x :: S)) := by
  subst hp
  have q := icmpW .gt ha hb'
  by_cases hc : b < a
  · exact K.step (fun p e below T c h hx hb0 t hr => XS.icmpYes h hx rfl (pc0 := pc) (pc' := pc2) rfl (hb hb0 hd) rfl (q.trans (decide_eq_true hc)) ho hq hr) (ht hc)
  · exact K.step (fun p e below T c h hx hb0 t hr => XS.icmpNo h hx rfl (hb hb0 hd) rfl (q.trans (decide_eq_false hc)) hr) (hf (by omega))
theorem Cx.icmp_le (K : Cx l R Z n0 Q own nm bytes maxL ret m G) {o : Int} {x y : Int32} {a b : Int} (hd : decode bytes pc = .ok (.if_icmp .le o, 3)) (hp : pc + 3 = pc1) (ho : 0 ≤ (pc : Int) + o) (hq : ((pc : Int) + o).toNat = pc2) (ha : x.toInt = a) (hb' : y.toInt = b) (ht : a ≤ b → G h kc ks (mkF m pc2 L S)) (hf : b < a → G h kc ks (mkF m pc1 L S)) : G h kc ks (mkF m pc L (.int y :: .int x :: S)) := by
  subst hp
  have q := icmpW .le ha hb'
  by_cases hc : a ≤ b
  · exact K.step (fun p e below T c h hx hb0 t hr => XS.icmpYes h hx rfl (pc0 := pc) (pc' := pc2) rfl (hb hb0 hd) rfl (q.trans (decide_eq_true hc)) ho hq hr) (ht hc)
  · exact K.step (fun p e below T c h hx hb0 t hr => XS.icmpNo h hx rfl (hb hb0 hd) rfl (q.trans (decide_eq_false hc)) hr) (hf (by omega))
theorem Cx.if_le (K : Cx l R Z n0 Q own nm bytes maxL ret m G) {o : Int} {x : Int32} {a : Int} (hd : decode bytes pc = .ok (.ifCond .le o, 3)) (hp : pc + 3 = pc1) (ho : 0 ≤ (pc : Int) + o) (hq : ((pc : Int) + o).toNat = pc2) (ha : x.toInt = a) (ht : a ≤ 0 → G h kc ks (mkF m pc2 L S)) (hf : 0 < a → G h kc ks (mkF m pc1 L S)) : G h kc ks (mkF m pc L (.int x :: S)) := by
  subst hp
  have q := (if0 .le x).trans (icmpW .le ha (b := 0) rfl)
  by_cases hc : a ≤ 0
  · exact K.step (fun p e below T c h hx hb0 t hr => XS.ifYes h hx rfl (pc0 := pc) (pc' := pc2) rfl (hb hb0 hd) rfl (q.trans (decide_eq_true hc)) ho hq hr) (ht hc)
  · exact K.step (fun p e below T c h hx hb0 t hr => XS.ifNo h hx rfl (hb hb0 hd) rfl (q.trans (decide_eq_false hc)) hr) (hf (by omega))
theorem Cx.lcmp_le (K : Cx l R Z n0 Q own nm bytes maxL ret m G) {o : Int} {x y : Int64} {a b : Int} (hd0 : decode bytes pc = .ok (.lcmp, 1)) (hd : decode bytes (pc + 1) = .ok (.ifCond .le o, 3)) (hp : pc + 4 = pc1) (ho : 0 ≤ ((pc + 1 : Nat) : Int) + o) (hq : (((pc + 1 : Nat) : Int) + o).toNat = pc2) (ha : x.toInt = a) (hb' : y.toInt = b) (ht : a ≤ b → G h kc ks (mkF m pc2 L S)) (hf : b < a → G h kc ks (mkF m pc1 L S)) : G h kc ks (mkF m pc L (.long y :: .long x :: S)) := by
  subst hp
  have q := lcmpW0 .le ha hb'
  refine K.step (f' := mkF m (pc + 1) L (.int (if x > y then 1 else if x = y then 0 else -1) :: S)) (fun p e below T c h hx hb0 t hr => XS.lcmp h hx rfl (hb hb0 hd0) rfl hr) ?_
  by_cases hc : a ≤ b
  · exact K.step (fun p e below T c h hx hb0 t hr => XS.ifYes h hx rfl (pc0 := pc + 1) (pc' := pc2) rfl (hb hb0 hd) rfl (q.trans (decide_eq_true hc)) ho hq hr) (ht hc)
  · exact K.step (fun p e below T c h hx hb0 t hr => XS.ifNo h hx rfl (hb hb0 hd) rfl (q.trans (decide_eq_false hc)) hr) (hf (by omega))
theorem Cx.icmp_eq (K : Cx l R Z n0 Q own nm bytes maxL ret m G) {o : Int} {x y : Int32} {a b : Int} (hd : decode bytes pc = .ok (.if_icmp .eq o, 3)) (hp : pc + 3 = pc1) (ho : 0 ≤ (pc : Int) + o) (hq : ((pc : Int) + o).toNat = pc2) (ha : x.toInt = a) (hb' : y.toInt = b) (ht : a = b → G h kc ks (mkF m pc2 L S)) (hf : a ≠ b → G h kc ks (mkF m pc1 L S)) : G h kc ks (mkF m pc L (.int y :: .int x :: S)) := by
  subst hp
  have q := icmpW .eq ha hb'
  by_cases hc : a = b
  · exact K.step (fun p e below T c h hx hb0 t hr => XS.icmpYes h hx rfl (pc0 := pc) (pc' := pc2) rfl (hb hb0 hd) rfl (q.trans (decide_eq_true hc)) ho hq hr) (ht hc)
  · exact K.step (fun p e below T c h hx hb0 t hr => XS.icmpNo h hx rfl (hb hb0 hd) rfl (q.trans (decide_eq_false hc)) hr) (hf (by omega))
theorem Cx.if_eq (K : Cx l R Z n0 Q own nm bytes maxL ret m G) {o : Int} {x : Int32} {a : Int} (hd : decode bytes pc = .ok (.ifCond .eq o, 3)) (hp : pc + 3 = pc1) (ho : 0 ≤ (pc : Int) + o) (hq : ((pc : Int) + o).toNat = pc2) (ha : x.toInt = a) (ht : a = 0 → G h kc ks (mkF m pc2 L S)) (hf : a ≠ 0 → G h kc ks (mkF m pc1 L S)) : G h kc ks (mkF m pc L (.int x :: S)) := by
  subst hp
  have q := (if0 .eq x).trans (icmpW .eq ha (b := 0) rfl)
  by_cases hc : a = 0
  · exact K.step (fun p e below T c h hx hb0 t hr => XS.ifYes h hx rfl (pc0 := pc) (pc' := pc2) rfl (hb hb0 hd) rfl (q.trans (decide_eq_true hc)) ho hq hr) (ht hc)
  · exact K.step (fun p e below T c h hx hb0 t hr => XS.ifNo h hx rfl (hb hb0 hd) rfl (q.trans (decide_eq_false hc)) hr) (hf (by omega))
theorem Cx.lcmp_eq (K : Cx l R Z n0 Q own nm bytes maxL ret m G) {o : Int} {x y : Int64} {a b : Int} (hd0 : decode bytes pc = .ok (.lcmp, 1)) (hd : decode bytes (pc + 1) = .ok (.ifCond .eq o, 3)) (hp : pc + 4 = pc1) (ho : 0 ≤ ((pc + 1 : Nat) : Int) + o) (hq : (((pc + 1 : Nat) : Int) + o).toNat = pc2) (ha : x.toInt = a) (hb' : y.toInt = b) (ht : a = b → G h kc ks (mkF m pc2 L S)) (hf : a ≠ b → G h kc ks (mkF m pc1 L S)) : G h kc ks (mkF m pc L (.long y :: .long x :: S)) := by
  subst hp
  have q := lcmpW0 .eq ha hb'
  refine K.step (f' := mkF m (pc + 1) L (.int (if x > y then 1 else if x = y then 0 else -1) :: S)) (fun p e below T c h hx hb0 t hr => XS.lcmp h hx rfl (hb hb0 hd0) rfl hr) ?_
  by_cases hc : a = b
  · exact K.step (fun p e below T c h hx hb0 t hr => XS.ifYes h hx rfl (pc0 := pc + 1) (pc' := pc2) rfl (hb hb0 hd) rfl (q.trans (decide_eq_true hc)) ho hq hr) (ht hc)
  · exact K.step (fun p e below T c h hx hb0 t hr => XS.ifNo h hx rfl (hb hb0 hd) rfl (q.trans (decide_eq_false hc)) hr) (hf (by omega))
theorem Cx.icmp_ne (K : Cx l R Z n0 Q own nm bytes maxL ret m G) {o : Int} {x y : Int32} {a b : Int} (hd : decode bytes pc = .ok (.if_icmp .ne o, 3)) (hp : pc + 3 = pc1) (ho : 0 ≤ (pc : Int) + o) (hq : ((pc : Int) + o).toNat = pc2) (ha : x.toInt = a) (hb' : y.toInt = b) (ht : a ≠ b → G h kc ks (mkF m pc2 L S)) (hf : a = b → G h kc ks (mkF m pc1 L S)) : G h kc ks (mkF m pc L (.int y :: .int x :: S)) := by
  subst hp
  have q := icmpW .ne ha hb'
  by_cases hc : a ≠ b
  · exact K.step (fun p e below T c h hx hb0 t hr => XS.icmpYes h hx rfl (pc0 := pc) (pc' := pc2) rfl (hb hb0 hd) rfl (q.trans (decide_eq_true hc)) ho hq hr) (ht hc)
  · exact K.step (fun p e below T c h hx hb0 t hr => XS.icmpNo h hx rfl (hb hb0 hd) rfl (q.trans (decide_eq_false hc)) hr) (hf (by omega))
theorem Cx.if_ne (K : Cx l R Z n0 Q own nm bytes maxL ret m G) {o : Int} {x : Int32} {a : Int} (hd : decode bytes pc = .ok (.ifCond .ne o, 3)) (hp : pc + 3 = pc1) (ho : 0 ≤ (pc : Int) + o) (hq : ((pc : Int) + o).toNat = pc2) (ha : x.toInt = a) (ht : a ≠ 0 → G h kc ks (mkF m pc2 L S)) (hf : a = 0 → G h kc ks (mkF m pc1 L S)) : G h kc ks (mkF m pc L (.int x :: S)) := by
  subst hp
  have q := (if0 .ne x).trans (icmpW .ne ha (b := 0) rfl)
  by_cases hc : a ≠ 0
  · exact K.step (fun p e below T c h hx hb0 t hr => XS.ifYes h hx rfl (pc0 := pc) (pc' := pc2) rfl (hb hb0 hd) rfl (q.trans (decide_eq_true hc)) ho hq hr) (ht hc)
  · exact K.step (fun p e below T c h hx hb0 t hr => XS.ifNo h hx rfl (hb hb0 hd) rfl (q.trans (decide_eq_false hc)) hr) (hf (by omega))
theorem Cx.lcmp_ne (K : Cx l R Z n0 Q own nm bytes maxL ret m G) {o : Int} {x y : Int64} {a b : Int} (hd0 : decode bytes pc = .ok (.lcmp, 1)) (hd : decode bytes (pc + 1) = .ok (.ifCond .ne o, 3)) (hp : pc + 4 = pc1) (ho : 0 ≤ ((pc + 1 : Nat) : Int) + o) (hq : (((pc + 1 : Nat) : Int) + o).toNat = pc2) (ha : x.toInt = a) (hb' : y.toInt = b) (ht : a ≠ b → G h kc ks (mkF m pc2 L S)) (hf : a = b → G h kc ks (mkF m pc1 L S)) : G h kc ks (mkF m pc L (.long y :: .long x :: S)) := by
  subst hp
  have q := lcmpW0 .ne ha hb'
  refine K.step (f' := mkF m (pc + 1) L (.int (if x > y then 1 else if x = y then 0 else -1) :: S)) (fun p e below T c h hx hb0 t hr => XS.lcmp h hx rfl (hb hb0 hd0) rfl hr) ?_
  by_cases hc : a ≠ b
  · exact K.step (fun p e below T c h hx hb0 t hr => XS.ifYes h hx rfl (pc0 := pc + 1) (pc' := pc2) rfl (hb hb0 hd) rfl (q.trans (decide_eq_true hc)) ho hq hr) (ht hc)
  · exact K.step (fun p e below T c h hx hb0 t hr => XS.ifNo h hx rfl (hb hb0 hd) rfl (q.trans (decide_eq_false hc)) hr) (hf (by omega))
theorem Cx.ifeqB (K : Cx l R Z n0 Q own nm bytes maxL ret m G) {o : Int} {P : Prop} [Decidable P] (hd : decode bytes pc = .ok (.ifCond .eq o, 3)) (hp : pc + 3 = pc1) (ho : 0 ≤ (pc : Int) + o) (hq : ((pc : Int) + o).toNat = pc2) (ht : ¬ P → G h kc ks (mkF m pc2 L S)) (hf : P → G h kc ks (mkF m pc1 L S)) : G h kc ks (mkF m pc L (.int (b2 P) :: S)) :=
  K.if_eq hd hp ho hq rfl (fun q => ht ((b2_eq0 P).mp q)) (fun q => hf ((b2_ne0 P).mp q))
theorem Cx.ifnull0 (K : Cx l R Z n0 Q own nm bytes maxL ret m G) {o : Int} (hd : decode bytes pc = .ok (.ifnull o, 3)) (ho : 0 ≤ (pc : Int) + o) (hq : ((pc : Int) + o).toNat = pc2) (hr : G h kc ks (mkF m pc2 L S)) : G h kc ks (mkF m pc L (.null :: S)) :=
  K.step (fun p e below T c h hx hb0 t hr => XS.ifnullYes h hx rfl (pc0 := pc) (pc' := pc2) rfl (hb hb0 hd) rfl ho hq hr) hr
theorem Cx.ifnull1 (K : Cx l R Z n0 Q own nm bytes maxL ret m G) {o : Int} {b : Addr} (hd : decode bytes pc = .ok (.ifnull o, 3)) (hp : pc + 3 = w') (hr : G h kc ks (mkF m w' L S)) : G h kc ks (mkF m pc L (.ref b :: S)) := by
  subst hp
  exact K.step (fun p e below T c h hx hb0 t hr => XS.ifnullNo h hx rfl (hb hb0 hd) rfl hr) hr
theorem Cx.ifnonnull1 (K : Cx l R Z n0 Q own nm bytes maxL ret m G) {o : Int} {b : Addr} (hd : decode bytes pc = .ok (.ifnonnull o, 3)) (ho : 0 ≤ (pc : Int) + o) (hq : ((pc : Int) + o).toNat = pc2) (hr : G h kc ks (mkF m pc2 L S)) : G h kc ks (mkF m pc L (.ref b :: S)) :=
  K.step (fun p e below T c h hx hb0 t hr => XS.ifnonnullYes h hx rfl (pc0 := pc) (pc' := pc2) rfl (hb hb0 hd) rfl ho hq hr) hr
theorem Cx.ifnonnull0 (K : Cx l R Z n0 Q own nm bytes maxL ret m G) {o : Int} (hd : decode bytes pc = .ok (.ifnonnull o, 3)) (hp : pc + 3 = w') (hr : G h kc ks (mkF m w' L S)) : G h kc ks (mkF m pc L (.null :: S)) := by
  subst hp
  exact K.step (fun p e below T c h hx hb0 t hr => XS.ifnonnullNo h hx rfl (hb hb0 hd) rfl hr) hr
theorem Cx.ldc2J (K : Cx l R Z n0 Q own nm bytes maxL ret m G) {index : Nat} {v : Int64} (hd : decode bytes pc = .ok (.ldc2_w index, 3)) (hp : pc + 3 = w') (w : (Cond.constantLong own index v).before a0 Z = true) (hr : G h kc ks (mkF m w' L (.long v :: S))) : G h kc ks (mkF m pc L S) := by
  subst hp
  exact K.stepX (h' := h) (fun p e s args below meth c T locs X eT hx hb0 hown hZ => ⟨T, X, eT, X.ldc2Long hx hown (mvT hZ w) (g := mkF m pc L S) rfl (hb hb0 hd)⟩) hr
theorem Cx.getf (K : Cx l R Z n0 Q own nm bytes maxL ret m G) {R0 O n d host : String} {index : Nat} {a : Addr} {v : Value} (hd : decode bytes pc = .ok (.getfield index, 3)) (hp : pc + 3 = w') (w : (Cond.fieldLink own index R0 n d).before a0 Z = true ∨ (Cond.fieldLinkNest own index R0 n d host).before a0 Z = true) (via : Via Z R0 O n d) (F : Fld Z h a O n d v) (hr : G h kc ks (mkF m w' L (v :: S))) : G h kc ks (mkF m pc L (.ref a :: S)) := by
  subst hp
  exact K.stepX (h' := h) (fun p e s args below meth c T locs X eT hx hb0 hown hZ => RoadKit.getF X hx hZ hown w via eT F (g := mkF m pc L (.ref a :: S)) rfl rfl (hb hb0 hd)) hr
theorem Cx.gets (K : Cx l R Z n0 Q own nm bytes maxL ret m G) {R0 O n d host : String} {index : Nat} {v : Value} (hd : decode bytes pc = .ok (.getstatic index, 3)) (hp : pc + 3 = w') (w : (Cond.fieldLink own index R0 n d).before a0 Z = true ∨ (Cond.fieldLinkNest own index R0 n d host).before a0 Z = true) (via : Via Z R0 O n d) (F : Sta Z h O n d v) (hr : G h kc ks (mkF m w' L (v :: S))) : G h kc ks (mkF m pc L S) := by
  subst hp
  exact K.stepX (h' := h) (fun p e s args below meth c T locs X eT hx hb0 hown hZ => RoadKit.getS2 X hx hZ hown w via eT F (g := mkF m pc L S) rfl (hb hb0 hd)) hr
theorem Cx.putf (K : Cx l R Z n0 Q own nm bytes maxL ret m G) {R0 O n d host C : String} {index kk : Nat} {ty : FieldType} {a : Addr} {v old : Value} (hd : decode bytes pc = .ok (.putfield index, 3)) (hp : pc + 3 = w') (w : (Cond.fieldLink own index R0 n d).before a0 Z = true ∨ (Cond.fieldLinkNest own index R0 n d host).before a0 Z = true) (via : Via Z R0 O n d) (F : Fld Z h a O n d old) (E : Exa Z h a C)
    (LL : (Cond.lays C O n d).before a0 Z = true ∨ ((Cond.laysFinal C O n d).before a0 Z = true ∧ own = O ∧ nm = "<init>")) (wi : (Cond.instantiable C kk).before a0 Z = true) (hty : parseFieldDescriptor d = some ty) (hn : narrow ty v = v) (hf : fits ty v = true) (ga : n0 ≤ a)
    (hr : ∀ h', Wr h h' a (Jvm.RoadKit.slotOf Z O n d) v → G h' kc ks (mkF m w' L S)) : G h kc ks (mkF m pc L (v :: .ref a :: S)) := by
  obtain ⟨p, e, s, args, below, meth, c, rfl, hx, hby, hml, hown, hZ, hret, hlk, hnm⟩ := K
  subst hp
  intro T locs X eT N
  obtain ⟨T', h', X', e', W, st⟩ := RoadKit.putF X hx hZ hown w via eT F E (LL.imp id fun q => ⟨q.1, q.2.1, hnm.trans q.2.2⟩) wi hty hn hf (g := mkF m pc L (v :: .ref a :: S)) rfl rfl (hb hby hd)
  obtain ⟨s₂, o, h1, h2⟩ := hr h' W T' _ X' e' (Fr.snoc X' N ga)
  exact ⟨s₂, o, st _ h1, h2⟩
theorem Cx.newo (K : Cx l R Z n0 Q own nm bytes maxL ret m G) {C : String} {index n : Nat} (hd : decode bytes pc = .ok (.new index, 3)) (hp : pc + 3 = w') (w : (Cond.classLink own index C).before a0 Z = true) (wi : (Cond.instantiable C n).before a0 Z = true) (wz : (Cond.initialized C).before a0 Z = true) (hc : kc + 1 ≤ R.cells) (hl : ks + n ≤ R.slots)
    (hr : ∀ h' a, a = h.size → Ext h h' → Exa Z h' a C → (∀ {O nm d : String} {ty : FieldType}, Laid Z a0 C O nm d → parseFieldDescriptor d = some ty → Fld Z h' a O nm d (defaultValue ty)) → G h' (kc + 1) (ks + n) (mkF m w' L (.ref a :: S))) : G h kc ks (mkF m pc L S) := by
  obtain ⟨p, e, s, args, below, meth, c, rfl, hx, hby, hml, hown, hZ, hret, hlk, hnm⟩ := K
  subst hp
  intro T locs X eT N
  obtain ⟨T', h', X', e', E, A, D, -, st⟩ := RoadKit.newO X hx hZ hown w wi wz eT (g := mkF m pc L S) rfl (hb hby hd) hc hl
  obtain ⟨s₂, o, h1, h2⟩ := hr h' _ rfl E A D T' _ X' e' N
  exact ⟨s₂, o, st _ h1, h2⟩
theorem Cx.newa (K : Cx l R Z n0 Q own nm bytes maxL ret m G) {aty : ArrayType} {n : Int32} {k cap : Nat} (hd : decode bytes pc = .ok (.newarray aty, 2)) (hp : pc + 2 = w') (w : (Cond.arrayClass (newarray.typeOf aty)).before a0 Z = true) (hn : n.toInt = (k : Nat)) (hk : k ≤ cap) (hbig : cap * 8 ≤ 536870912) (hc : kc + 1 ≤ R.cells) (hl : ks + cap ≤ R.slots) {ad : String} (had : "[" ++ (newarray.typeOf aty).toString = ad)
    (hr : ∀ h' a, a = h.size → Ext h h' → Ary Z h' a (newarray.typeOf aty) (List.replicate k (defaultValue (newarray.typeOf aty))) → Exa Z h' a ad → G h' (kc + 1) (ks + cap) (mkF m w' L (.ref a :: S))) : G h kc ks (mkF m pc L (.int n :: S)) := by
  obtain ⟨p, e, s, args, below, meth, c, rfl, hx, hby, hml, hown, hZ, hret, hlk, hnm⟩ := K
  subst hp
  intro T locs X eT N
  have hn0 : ¬ n < 0 := by rw [Int32.lt_iff_toInt_lt, hn, show (0 : Int32).toInt = 0 from rfl]; omega
  obtain ⟨T', h', cA, X', e', E, A, EX, st⟩ := RoadKit.newPE X hx hZ w eT (g := mkF m pc L (.int n :: S)) rfl (hb hby hd) rfl hn0 (cap := cap) (by rw [clamp_of hn]; exact hk) hbig hc hl had
  obtain ⟨s₂, o, h1, h2⟩ := hr h' _ rfl E ⟨_, A, by simp [newA, clamp_of hn], by rw [List.length_replicate]; have := n.toInt_lt; omega⟩ EX T' _ X' e' N
  exact ⟨s₂, o, st _ h1, h2⟩
theorem Cx.iald (K : Cx l R Z n0 Q own nm bytes maxL ret m G) {a : Addr} {vs : List Value} {j : Int32} {i : Nat} {v : Value} (hd : decode bytes pc = .ok (.iaload, 1)) (hp : pc + 1 = w') (A : Ary Z h a .int vs) (hj : j.toInt = (i : Nat)) (hv : vs[i]? = some v) (hr : G h kc ks (mkF m w' L (v :: S))) : G h kc ks (mkF m pc L (.int j :: .ref a :: S)) := by
  subst hp
  obtain ⟨cl, Ar, rfl, hlt⟩ := A
  have hi : i < cl.slots.toList.length := (List.getElem?_eq_some_iff.mp hv).1
  exact K.stepX (h' := h) (fun p e s args below meth c T locs X eT hx hb0 hown hZ => ⟨T, X, eT, fun t hr => X.iaload hx (j := j) (v := v) (by rw [eT]; exact Ar.1) (State.isArrayOf_alike hZ.alike Ar.2.1) Ar.2.2 (in_of hj hi) (at_of hj hv) (g := mkF m pc L (.int j :: .ref a :: S)) rfl rfl (hb hb0 hd) _ hr⟩) hr
theorem Cx.lald (K : Cx l R Z n0 Q own nm bytes maxL ret m G) {a : Addr} {vs : List Value} {j : Int32} {i : Nat} {v : Value} (hd : decode bytes pc = .ok (.laload, 1)) (hp : pc + 1 = w') (A : Ary Z h a .long vs) (hj : j.toInt = (i : Nat)) (hv : vs[i]? = some v) (hr : G h kc ks (mkF m w' L (v :: S))) : G h kc ks (mkF m pc L (.int j :: .ref a :: S)) := by
  subst hp
  obtain ⟨cl, Ar, rfl, hlt⟩ := A
  have hi : i < cl.slots.toList.length := (List.getElem?_eq_some_iff.mp hv).1
  exact K.stepX (h' := h) (fun p e s args below meth c T locs X eT hx hb0 hown hZ => ⟨T, X, eT, fun t hr => X.laload hx (j := j) (v := v) (by rw [eT]; exact Ar.1) (State.isArrayOf_alike hZ.alike Ar.2.1) Ar.2.2 (in_of hj hi) (at_of hj hv) (g := mkF m pc L (.int j :: .ref a :: S)) rfl rfl (hb hb0 hd) _ hr⟩) hr
theorem Cx.alen (K : Cx l R Z n0 Q own nm bytes maxL ret m G) {a : Addr} {vs : List Value} {ty : FieldType} (hd : decode bytes pc = .ok (.arraylength, 1)) (hp : pc + 1 = w') (A : Ary Z h a ty vs) (hr : ∀ z : Int32, z.toInt = (vs.length : Nat) → G h kc ks (mkF m w' L (.int z :: S))) : G h kc ks (mkF m pc L (.ref a :: S)) := by
  subst hp
  obtain ⟨cl, Ar, rfl, hlt⟩ := A
  refine K.stepX (h' := h) (f' := mkF m (pc + 1) L (.int cl.slots.size.toInt32 :: S)) (fun p e s args below meth c T locs X eT hx hb0 hown hZ => ⟨T, X, eT, fun t hr => X.arraylength hx (by rw [eT]; exact Ar.1) (State.isArrayOf_alike hZ.alike Ar.2.1) (g := mkF m pc L (.ref a :: S)) rfl rfl (hb hb0 hd) _ hr⟩) (hr _ ?_)
  rw [Array.length_toList] at hlt ⊢
  exact len_int hlt
theorem Cx.iast (K : Cx l R Z n0 Q own nm bytes maxL ret m G) {a : Addr} {vs : List Value} {j : Int32} {x : Int32} {i : Nat} (hd : decode bytes pc = .ok (.iastore, 1)) (hp : pc + 1 = w') (A : Ary Z h a .int vs) (hj : j.toInt = (i : Nat)) (hi : i < vs.length) (ga : n0 ≤ a) (hr : ∀ h', Wr h h' a i (.int x) → Ary Z h' a .int (vs.set i (.int x)) → G h' kc ks (mkF m w' L S)) : G h kc ks (mkF m pc L (.int x :: .int j :: .ref a :: S)) := by
  obtain ⟨p, e, s, args, below, meth, c, rfl, hx, hby, hml, hown, hZ, hret, hlk, hnm⟩ := K
  subst hp
  intro T locs X eT N
  have A0 := A
  obtain ⟨cl, Ar, rfl, hlt⟩ := A
  obtain ⟨T', h', X', e', W, st⟩ := RoadKit.stI X hx hZ eT Ar (j := j) (in_of hj hi) (g := mkF m pc L (.int x :: .int j :: .ref a :: S)) rfl rfl (hb hby hd)
  have W' := W
  rw [clamp_of hj] at W'
  obtain ⟨s₂, o, h1, h2⟩ := hr h' W' (A0.same W') T' _ X' e' (Fr.snoc X' N ga)
  exact ⟨s₂, o, st _ h1, h2⟩
theorem Cx.last (K : Cx l R Z n0 Q own nm bytes maxL ret m G) {a : Addr} {vs : List Value} {j : Int32} {x : Int64} {i : Nat} (hd : decode bytes pc = .ok (.lastore, 1)) (hp : pc + 1 = w') (A : Ary Z h a .long vs) (hj : j.toInt = (i : Nat)) (hi : i < vs.length) (ga : n0 ≤ a) (hr : ∀ h', Wr h h' a i (.long x) → Ary Z h' a .long (vs.set i (.long x)) → G h' kc ks (mkF m w' L S)) : G h kc ks (mkF m pc L (.long x :: .int j :: .ref a :: S)) := by
  obtain ⟨p, e, s, args, below, meth, c, rfl, hx, hby, hml, hown, hZ, hret, hlk, hnm⟩ := K
  subst hp
  intro T locs X eT N
  have A0 := A
  obtain ⟨cl, Ar, rfl, hlt⟩ := A
  obtain ⟨T', h', X', e', W, st⟩ := RoadKit.stJ X hx hZ eT Ar (j := j) (in_of hj hi) (g := mkF m pc L (.long x :: .int j :: .ref a :: S)) rfl rfl (hb hby hd)
  have W' := W
  rw [clamp_of hj] at W'
  obtain ⟨s₂, o, h1, h2⟩ := hr h' W' (A0.same W') T' _ X' e' (Fr.snoc X' N ga)
  exact ⟨s₂, o, st _ h1, h2⟩
theorem Cx.init0 (K : Cx l R Z n0 Q own nm bytes maxL ret m G) {idx W : Nat} {a : Addr} (hd : decode bytes pc = .ok (.invokespecial idx, 3)) (hp : pc + 3 = w') (w1 : (Cond.methodLink own idx Lib.objectInit).before a0 Z = true) (w2 : (Cond.instanceMethod Lib.objectInit).before a0 Z = true) (w3 : (Cond.code Lib.objectInit ⟨#[0xb1]⟩ 1 none).before a0 Z = true) (hL : L.size = maxL) (hf : 1 ≤ R.frames) (hW : (S.map fun v => v.category).sum ≤ W) (hl : W + 12 ≤ R.locals)
    (hr : G h kc ks (mkF m w' L S)) : G h kc ks (mkF m pc L (.ref a :: S)) := by
  obtain ⟨p, e, s, args, below, meth, c, rfl, hx, hby, hml, hown, hZ, hret, hlk, hnm⟩ := K
  subst hp
  intro T locs X eT N
  obtain ⟨T', X', e', st⟩ := RoadKit.initO X hx hZ hown w1 w2 w3 eT (g := mkF m pc L (.ref a :: S)) rfl (by rw [hml]; exact hL) rfl (hb hby hd) hf (W := W) (by show 2 * 0 + _ ≤ _; omega) hl
  obtain ⟨s₂, o, h1, h2⟩ := hr T' _ X' e' N
  exact ⟨s₂, o, st _ h1, h2⟩
theorem Cx.calls (K : Cx l R Z n0 Q own nm bytes maxL ret m G) {y : MethodName} {b' : ByteArray} {ml' : Nat} {rt' r : Option FieldType} {rm : Room} {Qc : Option Value → Heap → Prop} {index : Nat} {argsL rest : List Value} {W : Nat} {ps : List FieldType} (hd : decode bytes pc = .ok (.invokestatic index, 3)) (hp : pc + 3 = w') (M : MeetsW l Z n0 y b' ml' rt' rm argsL.toArray h Qc) (w1 : (Cond.methodLink own index y).before a0 Z = true) (w2 : (Cond.static y).before a0 Z = true) (w3 : (Cond.initialized y.cls).before a0 Z = true) (w4 : (Cond.code y b' ml' rt').before a0 Z = true) (hy : y.cls ≠ "java/lang/invoke/MethodHandle" ∧ y.cls ≠ "java/lang/invoke/VarHandle") (hpd : parseMethodDescriptor y.desc = some ⟨ps, r⟩) (hlen : argsL.length = ps.length) (hL : L.size = maxL) (hW : (rest.map fun v => v.category).sum ≤ W) (hf : rm.frames + 1 ≤ R.frames) (hl : W + (ml' + 11) + rm.locals ≤ R.locals) (hc : kc + rm.cells ≤ R.cells) (hsl : ks + rm.slots ≤ R.slots) (hr : ∀ v h', Qc v h' → G h' (kc + rm.cells) (ks + rm.slots) (mkF m w' L (v.toList ++ rest))) : G h kc ks (mkF m pc L (argsL.reverse ++ rest)) := by
  obtain ⟨p, e, s, args, below, meth, c, rfl, hx, hby, hml, hown, hZ, hret, hlk, hnm⟩ := K
  subst hp
  intro T locs X eT N
  obtain ⟨v, _, ⟨T', Lo, ko, no⟩, -, X', ⟨Lc, hQ, l', y', z'⟩, st⟩ := Jvm.LawKit.callS X hx (y := y) hown (mvT hZ w1) (mvT hZ w2) (mvT hZ w3) (mvT hZ w4) hy (backOf (Q := fun v h L => Qc v h ∧ Fr n0 L) (W := W) (M []) hZ w4 w3 hf hl) (g := mkF m pc L (argsL.reverse ++ rest)) rfl (by rw [hml]; exact hL) (argsL := argsL) (rest := rest) (lenOf hpd hlen) rfl (by show 2 * 0 + _ ≤ _; omega) (hb hby hd) (fun _ _ => ⟨rfl, eT, hc, hsl⟩)
  dsimp only [Pt.U, Pt.locs, Pt.cells, Pt.slots] at X' l' y' z' st hQ
  subst l' y' z'
  obtain ⟨s₂, o, h1, h2⟩ := hr v T'.heap hQ.1 T' _ X' rfl (Fr.app N hQ.2)
  exact ⟨s₂, o, st _ h1, h2⟩
theorem Cx.callc (K : Cx l R Z n0 Q own nm bytes maxL ret m G) {y : MethodName} {b' : ByteArray} {ml' : Nat} {r : Option FieldType} {rm : Room} {Qc : Option Value → Heap → Prop} {index : Nat} {argsL rest : List Value} {W : Nat} {ps : List FieldType} {a : Addr} (hd : decode bytes pc = .ok (.invokespecial index, 3)) (hp : pc + 3 = w') (hi : y.name = "<init>") (M : MeetsW l Z n0 y b' ml' none rm (Value.ref a :: argsL).toArray h Qc) (w1 : (Cond.methodLink own index y).before a0 Z = true) (w2 : (Cond.instanceMethod y).before a0 Z = true) (w3 : (Cond.initialized y.cls).before a0 Z = true) (w4 : (Cond.code y b' ml' none).before a0 Z = true) (hy : y.cls ≠ "java/lang/invoke/MethodHandle" ∧ y.cls ≠ "java/lang/invoke/VarHandle") (hpd : parseMethodDescriptor y.desc = some ⟨ps, r⟩) (hlen : argsL.length = ps.length) (hL : L.size = maxL) (hW : (rest.map fun v => v.category).sum ≤ W) (hf : rm.frames + 1 ≤ R.frames) (hl : W + (ml' + 11) + rm.locals ≤ R.locals) (hc : kc + rm.cells ≤ R.cells) (hsl : ks + rm.slots ≤ R.slots) (hr : ∀ v h', Qc v h' → G h' (kc + rm.cells) (ks + rm.slots) (mkF m w' L (v.toList ++ rest))) : G h kc ks (mkF m pc L (argsL.reverse ++ .ref a :: rest)) := by
  obtain ⟨p, e, s, args, below, meth, c, rfl, hx, hby, hml, hown, hZ, hret, hlk, hnm⟩ := K
  subst hp
  intro T locs X eT N
  obtain ⟨v, _, ⟨T', Lo, ko, no⟩, -, X', ⟨Lc, hQ, l', y', z'⟩, st⟩ := X.specialBack hx (y := y) hi hown (mvT hZ w1) (mvT hZ w2) (mvT hZ w4) hy (backOf (Q := fun v h L => Qc v h ∧ Fr n0 L) (W := W) (M []) hZ w4 w3 hf hl) (g := mkF m pc L (argsL.reverse ++ .ref a :: rest)) rfl (by rw [hml]; exact hL) (Steps.refl _) (a := a) (argsL := argsL) (rest := rest) (lenOf hpd hlen) rfl (by show 2 * 0 + _ ≤ _; omega) (hb hby hd) (fun _ _ => ⟨rfl, eT, hc, hsl⟩)
  dsimp only [Pt.U, Pt.locs, Pt.cells, Pt.slots] at X' l' y' z' st hQ
  subst l' y' z'
  obtain ⟨s₂, o, h1, h2⟩ := hr v T'.heap hQ.1 T' _ X' rfl (Fr.app N hQ.2)
  exact ⟨s₂, o, st.trans h1, h2⟩
theorem Cx.callv (K : Cx l R Z n0 Q own nm bytes maxL ret m G) {y z : MethodName} {b' : ByteArray} {ml' : Nat} {rt' r : Option FieldType} {rm : Room} {Qc : Option Value → Heap → Prop} {index : Nat} {argsL rest : List Value} {W : Nat} {ps : List FieldType} {C : String} {a : Addr} (hd : decode bytes pc = .ok (.invokevirtual index, 3)) (hp : pc + 3 = w') (M : MeetsW l Z n0 z b' ml' rt' rm (Value.ref a :: argsL).toArray h Qc) (E : Exa Z h a C) (w1 : (Cond.methodLink own index y).before a0 Z = true) (w5 : (Cond.declares y).before a0 Z = true) (nf : ∀ s : State, Z.Warmed39 s.vm → NotFace s y) (w6 : (Cond.selects C y z).before a0 Z = true) (w2 : (Cond.instanceMethod z).before a0 Z = true) (w3 : (Cond.initialized z.cls).before a0 Z = true) (w4 : (Cond.code z b' ml' rt').before a0 Z = true) (hy : y.cls ≠ "java/lang/invoke/MethodHandle" ∧ y.cls ≠ "java/lang/invoke/VarHandle") (hpd : parseMethodDescriptor y.desc = some ⟨ps, r⟩) (hlen : argsL.length = ps.length) (hL : L.size = maxL) (hW : (rest.map fun v => v.category).sum ≤ W) (hf : rm.frames + 1 ≤ R.frames) (hl : W + (ml' + 11) + rm.locals ≤ R.locals) (hc : kc + rm.cells ≤ R.cells) (hsl : ks + rm.slots ≤ R.slots) (hr : ∀ v h', Qc v h' → G h' (kc + rm.cells) (ks + rm.slots) (mkF m w' L (v.toList ++ rest))) : G h kc ks (mkF m pc L (argsL.reverse ++ .ref a :: rest)) := by
  obtain ⟨p, e, s, args, below, meth, c, rfl, hx, hby, hml, hown, hZ, hret, hlk, hnm⟩ := K
  subst hp
  intro T locs X eT N
  obtain ⟨cq, kq, qa, qb, qc⟩ := isOf hZ eT E
  obtain ⟨v, _, ⟨T', Lo, ko, no⟩, -, X', ⟨Lc, hQ, l', y', z'⟩, st⟩ := X.virtualBack hx (y := y) (z := z) hown (mvT hZ w1) (mvT hZ w5) (nf s hZ) (mvT hZ w6) (mvT hZ w2) hy (backOf (Q := fun v h L => Qc v h ∧ Fr n0 L) (W := W) (M []) hZ w4 w3 hf hl) qa qc (g := mkF m pc L (argsL.reverse ++ .ref a :: rest)) rfl (by rw [hml]; exact hL) (Steps.refl _) (argsL := argsL) (rest := rest) (lenOf hpd hlen) rfl (by show 2 * 0 + _ ≤ _; omega) (hb hby hd) (fun _ _ => ⟨rfl, eT, hc, hsl⟩)
  dsimp only [Pt.U, Pt.locs, Pt.cells, Pt.slots] at X' l' y' z' st hQ
  subst l' y' z'
  obtain ⟨s₂, o, h1, h2⟩ := hr v T'.heap hQ.1 T' _ X' rfl (Fr.app N hQ.2)
  exact ⟨s₂, o, st.trans h1, h2⟩
theorem nf_sel {y z : MethodName} {C : String} (w : (Cond.selects C y z).before a0 Z = true) (hyz : y = z) : ∀ s : State, Z.Warmed39 s.vm → NotFace s y := fun s hZ => by subst hyz; exact notFace_of_selects (args := #[]) (mvT hZ w)
theorem Cx.callp (K : Cx l R Z n0 Q own nm bytes maxL ret m G) {y : MethodName} {b' : ByteArray} {ml' : Nat} {rt' r : Option FieldType} {rm : Room} {Qc : Option Value → Heap → Prop} {index : Nat} {argsL rest : List Value} {W : Nat} {ps : List FieldType} {C : String} {a : Addr} (hd : decode bytes pc = .ok (.invokevirtual index, 3)) (hp : pc + 3 = w') (M : MeetsW l Z n0 y b' ml' rt' rm (Value.ref a :: argsL).toArray h Qc) (E : Exa Z h a C) (w1 : (Cond.methodLink own index y).before a0 Z = true) (w2 : (Cond.instanceMethod y).before a0 Z = true) {kk : Nat} (wi : (Cond.instantiable y.cls kk).before a0 Z = true) (w7 : (Cond.privateMethod y).before a0 Z = true) (w3 : (Cond.initialized y.cls).before a0 Z = true) (w4 : (Cond.code y b' ml' rt').before a0 Z = true) (hy : y.cls ≠ "java/lang/invoke/MethodHandle" ∧ y.cls ≠ "java/lang/invoke/VarHandle") (hpd : parseMethodDescriptor y.desc = some ⟨ps, r⟩) (hlen : argsL.length = ps.length) (hL : L.size = maxL) (hW : (rest.map fun v => v.category).sum ≤ W) (hf : rm.frames + 1 ≤ R.frames) (hl : W + (ml' + 11) + rm.locals ≤ R.locals) (hc : kc + rm.cells ≤ R.cells) (hsl : ks + rm.slots ≤ R.slots) (hr : ∀ v h', Qc v h' → G h' (kc + rm.cells) (ks + rm.slots) (mkF m w' L (v.toList ++ rest))) : G h kc ks (mkF m pc L (argsL.reverse ++ .ref a :: rest)) := by
  obtain ⟨p, e, s, args, below, meth, c, rfl, hx, hby, hml, hown, hZ, hret, hlk, hnm⟩ := K
  subst hp
  intro T locs X eT N
  obtain ⟨cq, q1, q2⟩ := E.cell
  have hpriv : s.PrivateAt y := Cond.privateMethod_at (mvP hZ w7 (args := #[]))
  obtain ⟨c0, k0, i1, i2, i3, i4, -⟩ := Cond.instantiable_spec (show (Cond.instantiable y.cls kk).before args s = true from mvT hZ wi)
  have w6 : (Cond.selects y.cls y y).before args s = true := selects_self_of_private i1 i2 (by simp only [Bool.or_eq_false_iff] at i4; exact i4.1) hpriv (mvT hZ w2) hy
  obtain ⟨v, _, ⟨T', Lo, ko, no⟩, -, X', ⟨Lc, hQ, l', y', z'⟩, st⟩ := X.privateBack hx (y := y) hown (mvT hZ w1) (mvT hZ w2) w6 hpriv (mvT hZ w4) hy (backOf (Q := fun v h L => Qc v h ∧ Fr n0 L) (W := W) (M []) hZ w4 w3 hf hl) (g := mkF m pc L (argsL.reverse ++ .ref a :: rest)) rfl (by rw [hml]; exact hL) (Steps.refl _) (a := a) (by rw [eT]; exact q1) q2 (argsL := argsL) (rest := rest) (lenOf hpd hlen) rfl (by show 2 * 0 + _ ≤ _; omega) (hb hby hd) (fun _ _ => ⟨rfl, eT, hc, hsl⟩)
  dsimp only [Pt.U, Pt.locs, Pt.cells, Pt.slots] at X' l' y' z' st hQ
  subst l' y' z'
  obtain ⟨s₂, o, h1, h2⟩ := hr v T'.heap hQ.1 T' _ X' rfl (Fr.app N hQ.2)
  exact ⟨s₂, o, st.trans h1, h2⟩
theorem Cx.acopy (K : Cx l R Z n0 Q own nm bytes maxL ret m G) {index W i j k : Nat} {a b : Addr} {ty : FieldType} {vs vd : List Value} {sp dp nn : Int32} (dv : Value) (hd : decode bytes pc = .ok (.invokestatic index, 3)) (hp : pc + 3 = w') (w1 : (Cond.methodLink own index Jvm.Stand.acN).before a0 Z = true) (w2 : (Cond.native Jvm.Stand.acN).before a0 Z = true) (w3 : (Cond.static Jvm.Stand.acN).before a0 Z = true) (w4 : (Cond.initialized "java/lang/System").before a0 Z = true)
    (A : Ary Z h a ty vs) (B : Ary Z h b ty vd) (hpr : refKind ty = false) (hfa : ∀ v ∈ vs, fits ty v = true) (hfb : ∀ v ∈ vd, fits ty v = true) (hdv : fits ty dv = true) (hi : sp.toInt = (i : Nat)) (hj : dp.toInt = (j : Nat)) (hk : nn.toInt = (k : Nat)) (h4 : i + k ≤ vs.length) (h5 : j + k ≤ vd.length) (gb : n0 ≤ b)
    (hL : L.size = maxL) (hf : 1 ≤ R.frames) (hW : (S.map fun v => v.category).sum ≤ W) (hlo : W + (nativeFrameWords "java/lang/System" "arraycopy" 5 + 11) ≤ R.locals)
    (hr : ∀ h', Keep h h' [b] → Ary Z h' b ty (vd.take j ++ ((List.range k).map fun t => vs.getD (i + t) dv) ++ vd.drop (j + k)) → G h' kc ks (mkF m w' L S)) : G h kc ks (mkF m pc L (.int nn :: .int dp :: .ref b :: .int sp :: .ref a :: S)) := by
  obtain ⟨p, e, s, args, below, meth, c, rfl, hx, hby, hml, hown, hZ, hret, hlk, hnm⟩ := K
  subst hp
  intro T locs X eT N
  obtain ⟨ka, za, ea, VA⟩ := A.toArv hfa hdv
  obtain ⟨kb, zb, eb, VB⟩ := B.toArv hfb hdv
  have neg : ∀ {x : Int32} {n : Nat}, x.toInt = (n : Nat) → ¬ x < 0 := fun {x n} q => by rw [Int32.lt_iff_toInt_lt, q, show (0 : Int32).toInt = 0 from rfl]; omega
  obtain ⟨T', h', Lc, X', e', N', Kp, V, st⟩ := RoadKit.cpA X hx hZ hown w1 w2 w3 w4 eT VA VB (Or.inl ⟨rfl, hpr⟩) (neg hi) (neg hj) (neg hk) (by rw [clamp_of hi, clamp_of hk, clamp_of ea]; exact h4) (by rw [clamp_of hj, clamp_of hk, clamp_of eb]; exact h5) rfl (by rw [clamp_of hj, clamp_of hk]; exact h5) N gb (g := mkF m pc L (.int nn :: .int dp :: .ref b :: .int sp :: .ref a :: S)) rfl (by rw [hml]; exact hL) rfl (hb hby hd) hf (W := W) (by show 2 * 0 + _ ≤ _; omega) hlo
  rw [clamp_of hi, clamp_of hj, clamp_of hk] at V
  obtain ⟨s₂, o, h1, h2⟩ := hr h' Kp (Arv.toAry V (by rw [eb]; simp; omega)) T' _ X' e' N'
  exact ⟨s₂, o, st _ h1, h2⟩
theorem Cx.clone (K : Cx l R Z n0 Q own nm bytes maxL ret m G) {index W cap : Nat} {a : Addr} {ad : String} {ty : FieldType} {vs : List Value} (dv : Value) (hd : decode bytes pc = .ok (.invokevirtual index, 3)) (hp : pc + 3 = w')
    (w1 : (Cond.methodLink own index ⟨ad, "clone", "()Ljava/lang/Object;"⟩).before a0 Z = true) (w2 : (Cond.sameMethod ad "java/lang/Object" "clone" "()Ljava/lang/Object;").before a0 Z = true) (w3 : (Cond.native ⟨"java/lang/Object", "clone", "()Ljava/lang/Object;"⟩).before a0 Z = true)
    (w4 : (Cond.instanceMethod ⟨"java/lang/Object", "clone", "()Ljava/lang/Object;"⟩).before a0 Z = true) (w5 : (Cond.selects ad ⟨ad, "clone", "()Ljava/lang/Object;"⟩ ⟨"java/lang/Object", "clone", "()Ljava/lang/Object;"⟩).before a0 Z = true) (w6 : (Cond.castable ad "java/lang/Cloneable").before a0 Z = true)
    (A : Ary Z h a ty vs) (E : Exa Z h a ad) (hfv : ∀ v ∈ vs, fits ty v = true) (hdv : fits ty dv = true) (hL : L.size = maxL) (hf : 1 ≤ R.frames) (hW : (S.map fun v => v.category).sum ≤ W) (hl : W + 14 ≤ R.locals) (hcap : vs.length ≤ cap) (hc : kc + 1 ≤ R.cells) (hsl : ks + cap ≤ R.slots)
    (hr : ∀ h' b, b = h.size → Ext h h' → Ary Z h' b ty vs → Exa Z h' b ad → G h' (kc + 1) (ks + cap) (mkF m w' L (.ref b :: S))) : G h kc ks (mkF m pc L (.ref a :: S)) := by
  obtain ⟨p, e, s, args, below, meth, c, rfl, hx, hby, hml, hown, hZ, hret, hlk, hnm⟩ := K
  subst hp
  intro T locs X eT N
  obtain ⟨ka, za, ea, VA⟩ := A.toArv hfv hdv
  obtain ⟨T', h', X', e', Ex', V, EX, st⟩ := RoadKit.cloneH X hx hZ hown w1 w2 w3 w4 w5 w6 eT VA.arh E (g := mkF m pc L (.ref a :: S)) rfl (by rw [hml]; exact hL) rfl (hb hby hd) hf (W := W) (cap := cap) (by show 2 * 0 + _ ≤ _; omega) hl (by rw [clamp_of ea]; exact hcap) hc hsl
  obtain ⟨s₂, o, h1, h2⟩ := hr h' _ rfl Ex' (Arv.toAry (show Arv Z h' h.size ka ty za vs dv from V) ea) EX T' _ X' e' N
  exact ⟨s₂, o, st _ h1, h2⟩
theorem Cx.ccast (K : Cx l R Z n0 Q own nm bytes maxL ret m G) {index : Nat} {Kc : String} {a : Addr} (hd : decode bytes pc = .ok (.checkcast index, 3)) (hp : pc + 3 = w') (w : (Cond.classLink own index Kc).before a0 Z = true) (F : Ins Z h a Kc true) (hr : G h kc ks (mkF m w' L (.ref a :: S))) : G h kc ks (mkF m pc L (.ref a :: S)) := by
  subst hp
  exact K.stepX (h' := h) (fun p e s args below meth c T locs X eT hx hb0 hown hZ => RoadKit.castY X hx hZ hown w eT F (g := mkF m pc L (.ref a :: S)) rfl rfl (hb hb0 hd)) hr
theorem Cx.reti (K : Cx l R Z n0 Q own nm bytes maxL (some .int) m G) {z : Int32} (hd : decode bytes pc = .ok (.ireturn, 1)) (hc : kc ≤ R.cells) (hs : ks ≤ R.slots) (hQ : Q (some (.int z)) h) : G h kc ks (mkF m pc L (.int z :: S)) := by
  obtain ⟨p, e, s, args, below, meth, c, rfl, hx, hby, hml, hown, hZ, hret, hlk, hnm⟩ := K
  intro T locs X eT N
  obtain ⟨fs, hr, hrun, hended, hW, hsame⟩ := X.leave (v := some (.int z)) (fun h => by rw [hret] at h; cases h) hlk
  refine ⟨_, _, ?_, hrun, hended, _, _, rfl, ⟨?_, N⟩, ⟨_, rfl⟩, hW, hsame.mono hc hs⟩
  · exact retOut X hx hret rfl (Or.inl ⟨rfl, Or.inl rfl, _, rfl⟩) (hb hby hd) hr
  · show Q _ T.heap
    rw [eT]; exact hQ
theorem Cx.retz (K : Cx l R Z n0 Q own nm bytes maxL (some .boolean) m G) {z : Int32} (hd : decode bytes pc = .ok (.ireturn, 1)) (hz : z = 0 ∨ z = 1) (hc : kc ≤ R.cells) (hs : ks ≤ R.slots) (hQ : Q (some (.int z)) h) : G h kc ks (mkF m pc L (.int z :: S)) := by
  obtain ⟨p, e, s, args, below, meth, c, rfl, hx, hby, hml, hown, hZ, hret, hlk, hnm⟩ := K
  intro T locs X eT N
  obtain ⟨fs, hr, hrun, hended, hW, hsame⟩ := X.leave (v := some (.int z)) (fun h => by rw [hret] at h; cases h) hlk
  refine ⟨_, _, ?_, hrun, hended, _, _, rfl, ⟨?_, N⟩, ⟨_, rfl⟩, hW, hsame.mono hc hs⟩
  · exact retOut X hx hret (by rcases hz with rfl | rfl <;> rfl) (Or.inl ⟨rfl, Or.inr (Or.inl rfl), _, rfl⟩) (hb hby hd) hr
  · show Q _ T.heap
    rw [eT]; exact hQ
theorem Cx.reta {t : FieldType} (K : Cx l R Z n0 Q own nm bytes maxL (some t) m G) {v : Value} (hd : decode bytes pc = .ok (.areturn, 1)) (ht : t.isReference = true) (hn : narrow t v = v) (hv : v.isRef = true) (hc : kc ≤ R.cells) (hs : ks ≤ R.slots) (hQ : Q (some v) h) : G h kc ks (mkF m pc L (v :: S)) := by
  obtain ⟨p, e, s, args, below, meth, c, rfl, hx, hby, hml, hown, hZ, hret, hlk, hnm⟩ := K
  intro T locs X eT N
  obtain ⟨fs, hr, hrun, hended, hW, hsame⟩ := X.leave (v := some v) (fun h => by rw [hret] at h; cases h) hlk
  refine ⟨_, _, ?_, hrun, hended, _, _, rfl, ⟨?_, N⟩, ⟨_, rfl⟩, hW, hsame.mono hc hs⟩
  · exact retOut X hx hret hn (Or.inr (Or.inr (Or.inr (Or.inr ⟨rfl, ht, hv⟩)))) (hb hby hd) hr
  · show Q _ T.heap
    rw [eT]; exact hQ
theorem Cx.ret0 (K : Cx l R Z n0 Q own nm bytes maxL none m G) (hd : decode bytes pc = .ok (.return_, 1)) (hc : kc ≤ R.cells) (hs : ks ≤ R.slots) (hQ : Q none h) : G h kc ks (mkF m pc L []) := by
  obtain ⟨p, e, s, args, below, meth, c, rfl, hx, hby, hml, hown, hZ, hret, hlk, hnm⟩ := K
  intro T locs X eT N
  obtain ⟨fs, hr, hrun, hended, hW, hsame⟩ := X.leave (v := none) (fun h => rfl) hlk
  refine ⟨_, _, ?_, hrun, hended, _, _, rfl, ⟨?_, N⟩, ⟨_, rfl⟩, hW, hsame.mono hc hs⟩
  · exact X.returnOut hx hret (hb hby hd) hr
  · show Q _ T.heap
    rw [eT]; exact hQ
end Steps
end Jvm.Wk
namespace Jvm.Wk
section More
variable {l : Launch} {R : Room} {Z : State} {n0 : Nat} {Q : Option Value → Heap → Prop} {own nm : String} {bytes : ByteArray} {maxL : Nat} {ret : Option FieldType} {m : MethodId} {G : Heap → Nat → Nat → JFrame → Prop} {h : Heap} {kc ks pc w' pc1 pc2 : Nat} {L L' : Array Slot} {S : List Value} {a0 : Array Value}
open Sem ClassFile Op Lib Jvm.Stand Jvm.Free Jvm.LawKit Jvm.RoadKit
theorem MeetsW.mono {y : MethodName} {rm : Room} {as' : Array Value} {h0 : Heap} {Q' : Option Value → Heap → Prop} (M : MeetsW l Z n0 y bytes maxL ret rm as' h0 Q) (hQ : ∀ v h', Q v h' → Q' v h') : MeetsW l Z n0 y bytes maxL ret rm as' h0 Q' := by
  intro ws p e ha hc hk s m args below hf happ hP hK
  obtain ⟨n, o, h1, h2, h3, v, L, e1, e2, e3⟩ := M ws p e ha hc hk s m args below hf happ hP hK
  exact ⟨n, o, h1, h2, h3, v, L, e1, ⟨hQ _ _ e2.1, e2.2⟩, e3⟩
theorem Cx.getL (K : Cx l R Z n0 Q own nm bytes maxL ret m G) {O n d : String} {index : Nat} {a : Addr} {v : Value} (hd : decode bytes pc = .ok (.getfield index, 3)) (hp : pc + 3 = w') (w : (Cond.fieldLink own index O n d).before a0 Z = true) (F : Fld Z h a O n d v) (hr : G h kc ks (mkF m w' L (v :: S))) : G h kc ks (mkF m pc L (.ref a :: S)) := K.getf hd hp (host := "") (Or.inl w) Via.refl F hr
theorem Cx.dup2 (K : Cx l R Z n0 Q own nm bytes maxL ret m G) {x y : Value} (hd : decode bytes pc = .ok (.dup2, 1)) (hp : pc + 1 = w') (hc : x.category = 1) (hc2 : y.category = 1) (hr : G h kc ks (mkF m w' L (x :: y :: x :: y :: S))) : G h kc ks (mkF m pc L (x :: y :: S)) := by
  subst hp
  exact K.step (fun p e below T c h hx hb0 t hr => Jvm.Free.XT.dup2 h hx rfl (hb hb0 hd) rfl hc hc2 hr) hr
end More
end Jvm.Wk
namespace Jvm.Wv
open Sem ClassFile Op Lib Jvm.Stand Jvm.Free Jvm.LawKit Jvm.RoadKit Jvm.Wk
def LV (_ : State) (_ : Vm) (_ : Option Addr) : Prop := True
theorem LV.warm {Z s : State} {vm1 : Vm} {lv : Option Addr} (_ : LV Z s.vm lv) (_ : s.WarmedH vm1) : LV Z vm1 lv := trivial
def Go (p : Program) (l : Launch) (e : Env) (R : Room) (s : State) (m : MethodId) (args : Array Value) (below : List Frame) (meth : Method) (c : Code) (n0 : Nat) (Z : State) (lv : Option Addr) (Q : Option Value → Heap → Option Addr → Prop) (h : Heap) (kc ks : Nat) (f : JFrame) : Prop :=
  ∀ (vm0 : Vm) (n1 : Nat), s.Since vm0 n1 → n1 ≤ h.size → LV Z vm0 lv → ∀ (T : State) (locs : List Loc), Stand p l e R (s.setVm vm0) m args below meth c T locs kc ks → T.heap = h → Fr n0 locs →
    ∃ s₂ o, Steps p.tables e below (T.setTop f) s₂ ∧ s₂.status = .running ∧ Ended s₂ below o ∧ ∃ v L, o = .returned v ∧ ((∃ lv', LV Z s₂.vm lv' ∧ Q v s₂.heap lv') ∧ Fr n0 L) ∧ ReturnedEndW s o s₂ L R.cells R.slots
def Cx (l : Launch) (R : Room) (Z : State) (n0 : Nat) (Q : Option Value → Heap → Option Addr → Prop) (own nm : String) (bytes : ByteArray) (maxL : Nat) (ret : Option FieldType) (m : MethodId) (lv : Option Addr) (hE : Heap) (G : Heap → Nat → Nat → JFrame → Prop) : Prop :=
  ∃ (p : Program) (e : Env) (s : State) (args : Array Value) (below : List Frame) (meth : Method) (c : Code), G = Go p l e R s m args below meth c n0 Z lv Q ∧ p.tables.exec = Jvm.exec ∧ c.code = bytes ∧ c.maxLocals = maxL ∧ s.vm.findClass own = some m.cls ∧ Z.Warmed39 s.vm ∧ meth.sig.returnType = ret ∧ meth.locks = false ∧ meth.name = nm ∧ s.heap = hE
def MeetsV (l : Launch) (Z : State) (n0 : Nat) (y : MethodName) (bytes : ByteArray) (maxL : Nat) (ret : Option FieldType) (rm : Room) (as' : Array Value) (h0 : Heap) (lv : Option Addr) (Q : Option Value → Heap → Option Addr → Prop) : Prop :=
  ∀ ws : List Cond, MetFree l y (head1 (Cond.code y bytes maxL ret :: ws) rm) (fun a U => a = as' ∧ Z.Warmed39 U.vm ∧ U.heap = h0 ∧ LV Z U.vm lv) (fun _ _ _ _ _ => True) (fun _ U o U' => ∃ v L, o = .returned v ∧ ((∃ lv', LV Z U'.vm lv' ∧ Q v U'.heap lv') ∧ Fr n0 L) ∧ ReturnedEndW U o U' L rm.cells rm.slots)
section Calls
variable {p : Program} {l : Launch} {e : Env} {R : Room} {s : State} {args : Array Value} {below : List Frame} {Z : State} {a0 : Array Value} {h : Heap} {n0 : Nat} {lv : Option Addr}
theorem backOfV {y : MethodName} {bytes : ByteArray} {maxL : Nat} {ret : Option FieldType} {rm : Room} {len W : Nat} {as' : Array Value} {Q : Option Value → Heap → Vm → List Loc → Prop}
    (hM : MetFree l y (head1 [Cond.code y bytes maxL ret] rm) (fun a U => a = as' ∧ Z.Warmed39 U.vm ∧ U.heap = h ∧ LV Z U.vm lv) (fun _ _ _ _ _ => True) (fun _ U o U' => ∃ v L, o = .returned v ∧ Q v U'.heap U'.vm L ∧ ReturnedEndW U o U' L rm.cells rm.slots))
    (hZ : Z.Warmed39 s.vm) (hV : LV Z s.vm lv) (wc : (Cond.code y bytes maxL ret).before a0 Z = true) (wz : (Cond.initialized y.cls).before a0 Z = true) (hf : rm.frames + 1 ≤ R.frames) (hl : W + (maxL + 11) + rm.locals ≤ R.locals) :
    BackS l R p e below s args y len W (fun A a => a = as' ∧ A.U.heap = h ∧ A.cells + rm.cells ≤ R.cells ∧ A.slots + rm.slots ≤ R.slots)
      (fun A _ v B => ∃ L, Q v B.U.heap B.U.vm L ∧ B.locs = A.locs ++ L ∧ B.cells = A.cells + rm.cells ∧ B.slots = A.slots + rm.slots) := by
  refine BackS.of_freeW (bytes := bytes) (maxL := maxL) (ret := ret) (E := fun _ _ o t L k n => k = rm.cells ∧ n = rm.slots ∧ ∃ v, o = .returned v ∧ Q v t.heap t.vm L) hM hf hl ?_ ?_ ?_ ?_ ?_
  · intro m meth c A a Y hp
    have hU : Z.Warmed39 A.U.vm := wtrans hZ Y.warmed
    have hc : (Cond.code y bytes maxL ret).before a A.U = true := mv hU wc
    refine ⟨?_, hc, mv hU wz, hp.2.2⟩
    show (Cond.and _ .tt).before a A.U = true
    rw [Cond.before_and, hc]; rfl
  · intro m meth c A a g mk Y hp
    exact ⟨hp.1, wtrans hZ Y.warmed, hp.2.1, hV.warm Y.warmed⟩
  · intros; trivial
  · rintro _ _ _ _ ⟨v, L, h1, h2, h3⟩
    exact ⟨L, _, _, h3, rfl, rfl, v, h1, h2⟩
  · rintro m meth c A a g mk v t L k n Y hp _ _ ⟨e1, e2, v', e3, e4⟩
    cases e3; subst e1 e2
    exact ⟨L, e4, rfl, rfl, rfl⟩
theorem growM {y : MethodName} {S : Spec} {as' : Array Value} {kc ks : Nat} {Qc : Option Value → Heap → Prop}
    (M : MetFree l y S (fun a U => a = as' ∧ Z.Warmed39 U.vm ∧ U.heap = h) (fun _ _ _ _ _ => True) (fun _ U o U' => ∃ v L, o = .returned v ∧ (Qc v U'.heap ∧ Fr n0 L) ∧ FrameEnd U o U' L kc ks)) :
    MetFree l y S (fun a U => a = as' ∧ Z.Warmed39 U.vm ∧ U.heap = h) (fun _ _ _ _ _ => True) (fun _ U o U' => ∃ v L, o = .returned v ∧ ((Qc v U'.heap ∧ Fr n0 L) ∧ h.size ≤ U'.heap.size) ∧ FrameEnd U o U' L kc ks) := by
  intro p e ha hc hk s m args below hf happ hP hK
  obtain ⟨n, o, h1, h2, h3, v, L, e1, e2, e3⟩ := M p e ha hc hk s m args below hf happ hP hK
  refine ⟨n, o, h1, h2, h3, v, L, e1, ⟨e2, ?_⟩, e3⟩
  have q := e3.2.2.2.1
  rw [hP.2.2] at q
  exact q
end Calls
section Steps
variable {l : Launch} {R : Room} {Z : State} {n0 : Nat} {Q : Option Value → Heap → Option Addr → Prop} {own nm : String} {bytes : ByteArray} {maxL : Nat} {ret : Option FieldType} {m : MethodId} {lv : Option Addr} {hE : Heap} {G : Heap → Nat → Nat → JFrame → Prop} {h : Heap} {kc ks pc w' pc1 pc2 : Nat} {L L' : Array Slot} {S : List Value} {a0 : Array Value}
theorem MeetsV.intro {y : MethodName} {rm : Room} {as' : Array Value} {h0 : Heap} (hpl : plainFor y = true) {L0 : Array Slot} (hef : ∀ m, entryFrame m as' maxL = mkF m 0 L0 [])
    (body : ∀ m G, Cx l rm Z n0 Q y.cls y.name bytes maxL ret m lv h0 G → G h0 0 0 (mkF m 0 L0 [])) : MeetsV l Z n0 y bytes maxL ret rm as' h0 lv Q := by
  intro ws
  refine MetFree.of_bodySF hpl hisR ?_
  intro p e s m args below meth c s₁ Bd hml0 hP hK
  obtain ⟨rfl, hZ, hh, hV⟩ := hP
  have hnm := (name_of_methodNamed Bd.named Bd.method).1
  have X0 : Stand p l e rm s m args below meth c s₁ [] 0 0 := Stand.of_body Bd
  have e0 : s₁.heap = h0 := by rw [← hh, Bd.state]; rfl
  have q := body m _ ⟨p, e, s, args, below, meth, c, rfl, Bd.exec, Bd.bytes, hml0, findClass_of_methodNamed Bd.named, hZ, Bd.returns, Bd.notSynchronized, hnm, hh⟩ s.vm s.heap.size ((State.WarmedH.refl s).since _) (Nat.le_of_eq (by rw [hh])) hV s₁ [] X0 e0 (Fr.nil n0)
  rw [hef]; exact q
theorem Cx.step (K : Cx l R Z n0 Q own nm bytes maxL ret m lv hE G) {f f' : JFrame}
    (hs : ∀ (p : Program) (e : Env) (below : List Frame) (T : State) (c : Code), At T m c below → p.tables.exec = Jvm.exec → c.code = bytes → ∀ t, Steps p.tables e below (T.setTop f') t → Steps p.tables e below (T.setTop f) t)
    (hr : G h kc ks f') : G h kc ks f := by
  obtain ⟨p, e, s0, args, below, meth, c, rfl, hx, hby, hml, hown0, hZ0, hret, hlk, hnm, hE0⟩ := K
  intro vm0 n1 hS hn1 hV T locs X eT N
  obtain ⟨s₂, o, h1, h2⟩ := hr vm0 n1 hS hn1 hV T locs X eT N
  exact ⟨s₂, o, hs p e below T c X.here hx hby _ h1, h2⟩
theorem Cx.stepX (K : Cx l R Z n0 Q own nm bytes maxL ret m lv hE G) {f f' : JFrame} {h' : Heap}
    (hs : ∀ (p : Program) (e : Env) (s : State) (args : Array Value) (below : List Frame) (meth : Method) (c : Code) (T : State) (locs : List Loc), Stand p l e R s m args below meth c T locs kc ks → T.heap = h → p.tables.exec = Jvm.exec → c.code = bytes → s.vm.findClass own = some m.cls → Z.Warmed39 s.vm → ∃ T', Stand p l e R s m args below meth c T' locs kc ks ∧ T'.heap = h ∧ ∀ t, Steps p.tables e below (T'.setTop f') t → Steps p.tables e below (T.setTop f) t)
    (hr : G h kc ks f') : G h kc ks f := by
  obtain ⟨p, e, s0, args, below, meth, c, rfl, hx, hby, hml, hown0, hZ0, hret, hlk, hnm, hE0⟩ := K
  intro vm0 n1 hS hn1 hV T locs X eT N
  have hZ : Z.Warmed39 (s0.setVm vm0).vm := State.Warmed39.trans (t := s0) hZ0 hS.1
  have hown : (s0.setVm vm0).vm.findClass own = some m.cls := by rw [show (s0.setVm vm0).vm = vm0 from rfl, hS.1.alike.findClass]; exact hown0
  obtain ⟨T', X', e', st⟩ := hs p e (s0.setVm vm0) args below meth c T locs X eT hx hby hown hZ
  obtain ⟨s₂, o, h1, h2⟩ := hr vm0 n1 hS hn1 hV T' locs X' e' N
  exact ⟨s₂, o, st _ h1, h2⟩
theorem Cx.iloadN (K : Cx l R Z n0 Q own nm bytes maxL ret m lv hE G) {k : Fin 4} {v : Int32} (hd : decode bytes pc = .ok (.iload_n k, 1)) (hp : pc + 1 = w') (hl : L[k.val]? = some (.val (.int v))) (hr : G h kc ks (mkF m w' L (.int v :: S))) : G h kc ks (mkF m pc L (S)) := by
  subst hp
  exact K.step (fun p e below T c h hx hb0 t hr => XS.iloadN h hx rfl (hb hb0 hd) hl hr) hr
theorem Cx.iload (K : Cx l R Z n0 Q own nm bytes maxL ret m lv hE G) {k : Nat} {v : Int32} (hd : decode bytes pc = .ok (.iload k, 2)) (hp : pc + 2 = w') (hl : L[k]? = some (.val (.int v))) (hr : G h kc ks (mkF m w' L (.int v :: S))) : G h kc ks (mkF m pc L (S)) := by
  subst hp
  exact K.step (fun p e below T c h hx hb0 t hr => XS.iload h hx rfl (hb hb0 hd) hl hr) hr
theorem Cx.istoreN (K : Cx l R Z n0 Q own nm bytes maxL ret m lv hE G) {k : Fin 4} {x : Int32} (hd : decode bytes pc = .ok (.istore_n k, 1)) (hp : pc + 1 = w') (hl : storeLocals L k.val (.int x) = some L') (hr : G h kc ks (mkF m w' L' (S))) : G h kc ks (mkF m pc L (.int x :: S)) := by
  subst hp
  exact K.step (fun p e below T c h hx hb0 t hr => XS.istoreN h hx rfl (hb hb0 hd) rfl hl hr) hr
theorem Cx.istore (K : Cx l R Z n0 Q own nm bytes maxL ret m lv hE G) {k : Nat} {x : Int32} (hd : decode bytes pc = .ok (.istore k, 2)) (hp : pc + 2 = w') (hl : storeLocals L k (.int x) = some L') (hr : G h kc ks (mkF m w' L' (S))) : G h kc ks (mkF m pc L (.int x :: S)) := by
  subst hp
  exact K.step (fun p e below T c h hx hb0 t hr => XS.istore h hx rfl (hb hb0 hd) rfl hl hr) hr
theorem Cx.aloadN (K : Cx l R Z n0 Q own nm bytes maxL ret m lv hE G) {k : Fin 4} {v : Value} (hd : decode bytes pc = .ok (.aload_n k, 1)) (hp : pc + 1 = w') (hl : L[k.val]? = some (.val v)) (hv : v.isRef = true) (hr : G h kc ks (mkF m w' L (v :: S))) : G h kc ks (mkF m pc L (S)) := by
  subst hp
  exact K.step (fun p e below T c h hx hb0 t hr => XS.aloadN h hx rfl (hb hb0 hd) hl hv hr) hr
theorem Cx.aload (K : Cx l R Z n0 Q own nm bytes maxL ret m lv hE G) {k : Nat} {v : Value} (hd : decode bytes pc = .ok (.aload k, 2)) (hp : pc + 2 = w') (hl : L[k]? = some (.val v)) (hv : v.isRef = true) (hr : G h kc ks (mkF m w' L (v :: S))) : G h kc ks (mkF m pc L (S)) := by
  subst hp
  exact K.step (fun p e below T c h hx hb0 t hr => XS.aload h hx rfl (hb hb0 hd) hl hv hr) hr
theorem Cx.astoreN (K : Cx l R Z n0 Q own nm bytes maxL ret m lv hE G) {k : Fin 4} {x : Value} (hd : decode bytes pc = .ok (.astore_n k, 1)) (hp : pc + 1 = w') (hv : x.isRef = true) (hl : storeLocals L k.val x = some L') (hr : G h kc ks (mkF m w' L' (S))) : G h kc ks (mkF m pc L (x :: S)) := by
  subst hp
  exact K.step (fun p e below T c h hx hb0 t hr => XS.astoreN h hx rfl (hb hb0 hd) rfl hv hl hr) hr
theorem Cx.astore (K : Cx l R Z n0 Q own nm bytes maxL ret m lv hE G) {k : Nat} {x : Value} (hd : decode bytes pc = .ok (.astore k, 2)) (hp : pc + 2 = w') (hv : x.isRef = true) (hl : storeLocals L k x = some L') (hr : G h kc ks (mkF m w' L' (S))) : G h kc ks (mkF m pc L (x :: S)) := by
  subst hp
  exact K.step (fun p e below T c h hx hb0 t hr => XS.astore h hx rfl (hb hb0 hd) rfl hv hl hr) hr
theorem Cx.iconst (K : Cx l R Z n0 Q own nm bytes maxL ret m lv hE G) {i : Int} {z : Int32} (hd : decode bytes pc = .ok (.iconst i, 1)) (hp : pc + 1 = w') (hz : Int32.ofInt i = z) (hr : G h kc ks (mkF m w' L (.int z :: S))) : G h kc ks (mkF m pc L (S)) := by
  subst hp hz
  exact K.step (fun p e below T c h hx hb0 t hr => XS.iconst h hx rfl (hb hb0 hd) hr) hr
theorem Cx.bipush (K : Cx l R Z n0 Q own nm bytes maxL ret m lv hE G) {i : Int} {z : Int32} (hd : decode bytes pc = .ok (.bipush i, 2)) (hp : pc + 2 = w') (hz : (Int8.ofInt i).toInt32 = z) (hr : G h kc ks (mkF m w' L (.int z :: S))) : G h kc ks (mkF m pc L (S)) := by
  subst hp hz
  exact K.step (fun p e below T c h hx hb0 t hr => XS.bipush h hx rfl (hb hb0 hd) hr) hr
theorem Cx.anull (K : Cx l R Z n0 Q own nm bytes maxL ret m lv hE G) (hd : decode bytes pc = .ok (.aconst_null, 1)) (hp : pc + 1 = w')  (hr : G h kc ks (mkF m w' L (.null :: S))) : G h kc ks (mkF m pc L (S)) := by
  subst hp
  exact K.step (fun p e below T c h hx hb0 t hr => XS.aconstNull h hx rfl (hb hb0 hd) hr) hr
theorem Cx.iadd (K : Cx l R Z n0 Q own nm bytes maxL ret m lv hE G) {x y z : Int32} (hd : decode bytes pc = .ok (.iadd, 1)) (hp : pc + 1 = w') (hz : x + y = z) (hr : G h kc ks (mkF m w' L (.int z :: S))) : G h kc ks (mkF m pc L (.int y :: .int x :: S)) := by
  subst hp hz
  exact K.step (fun p e below T c h hx hb0 t hr => XS.iadd h hx rfl (hb hb0 hd) rfl hr) hr
theorem Cx.iand (K : Cx l R Z n0 Q own nm bytes maxL ret m lv hE G) {x y z : Int32} (hd : decode bytes pc = .ok (.iand, 1)) (hp : pc + 1 = w') (hz : x &&& y = z) (hr : G h kc ks (mkF m w' L (.int z :: S))) : G h kc ks (mkF m pc L (.int y :: .int x :: S)) := by
  subst hp hz
  exact K.step (fun p e below T c h hx hb0 t hr => XS.iand h hx rfl (hb hb0 hd) rfl hr) hr
theorem Cx.iushr (K : Cx l R Z n0 Q own nm bytes maxL ret m lv hE G) {x y z : Int32} (hd : decode bytes pc = .ok (.iushr, 1)) (hp : pc + 1 = w') (hz : (x.toUInt32 >>> (y &&& 31).toUInt32).toInt32 = z) (hr : G h kc ks (mkF m w' L (.int z :: S))) : G h kc ks (mkF m pc L (.int y :: .int x :: S)) := by
  subst hp hz
  exact K.step (fun p e below T c h hx hb0 t hr => XS.iushr h hx rfl (hb hb0 hd) rfl hr) hr
theorem Cx.irem (K : Cx l R Z n0 Q own nm bytes maxL ret m lv hE G) {x y z : Int32} (hd : decode bytes pc = .ok (.irem, 1)) (hp : pc + 1 = w') (hy : y ≠ 0) (hz : x % y = z) (hr : G h kc ks (mkF m w' L (.int z :: S))) : G h kc ks (mkF m pc L (.int y :: .int x :: S)) := by
  subst hp hz
  exact K.step (fun p e below T c h hx hb0 t hr => XS.irem h hx rfl (hb hb0 hd) rfl hy (by rw [irem_eq_mod]; exact hr)) hr
theorem Cx.iinc (K : Cx l R Z n0 Q own nm bytes maxL ret m lv hE G) {k : Nat} {cst : Int} {x z : Int32} (hd : decode bytes pc = .ok (.iinc k cst, 3)) (hp : pc + 3 = w') (hl : L[k]? = some (.val (.int x))) (hz : x + Int32.ofInt cst = z) (hl' : storeLocals L k (.int z) = some L') (hr : G h kc ks (mkF m w' L' (S))) : G h kc ks (mkF m pc L (S)) := by
  subst hp hz
  exact K.step (fun p e below T c h hx hb0 t hr => XS.iinc h hx rfl (hb hb0 hd) hl hl' hr) hr
theorem Cx.dup (K : Cx l R Z n0 Q own nm bytes maxL ret m lv hE G) {x : Value} (hd : decode bytes pc = .ok (.dup, 1)) (hp : pc + 1 = w') (hc : x.category = 1) (hr : G h kc ks (mkF m w' L (x :: x :: S))) : G h kc ks (mkF m pc L (x :: S)) := by
  subst hp
  exact K.step (fun p e below T c h hx hb0 t hr => XS.dup h hx rfl (hb hb0 hd) rfl hc hr) hr
theorem Cx.goto (K : Cx l R Z n0 Q own nm bytes maxL ret m lv hE G) {o : Int} (hd : decode bytes pc = .ok (.goto o, 3)) (ho : 0 ≤ (pc : Int) + o) (hp : ((pc : Int) + o).toNat = w') (hr : G h kc ks (mkF m w' L S)) : G h kc ks (mkF m pc L S) :=
  K.step (fun p e below T c h hx hb0 t hr => XS.goto h hx rfl (pc0 := pc) (pc' := w') rfl (hb hb0 hd) ho hp hr) hr
theorem Cx.icmp_ge (K : Cx l R Z n0 Q own nm bytes maxL ret m lv hE G) {o : Int} {x y : Int32} {a b : Int} (hd : decode bytes pc = .ok (.if_icmp .ge o, 3)) (hp : pc + 3 = pc1) (ho : 0 ≤ (pc : Int) + o) (hq : ((pc : Int) + o).toNat = pc2) (ha : x.toInt = a) (hb' : y.toInt = b) (ht : b ≤ a → G h kc ks (mkF m pc2 L S)) (hf : a < b → G h kc ks (mkF m pc1 L S)) : G h kc ks (mkF m pc L (.int y :: .int x :: S)) := by
  subst hp
  have q := icmpW .ge ha hb'
  by_cases hc : b ≤ a
  · exact K.step (fun p e below T c h hx hb0 t hr => XS.icmpYes h hx rfl (pc0 := pc) (pc' := pc2) rfl (hb hb0 hd) rfl (q.trans (decide_eq_true hc)) ho hq hr) (ht hc)
  · exact K.step (fun p e below T c h hx hb0 t hr => XS.icmpNo h hx rfl (hb hb0 hd) rfl (q.trans (decide_eq_false hc)) hr) (hf (by omega))
theorem Cx.icmp_eq (K : Cx l R Z n0 Q own nm bytes maxL ret m lv hE G) {o : Int} {x y : Int32} {a b : Int} (hd : decode bytes pc = .ok (.if_icmp .eq o, 3)) (hp : pc + 3 = pc1) (ho : 0 ≤ (pc : Int) + o) (hq : ((pc : Int) + o).toNat = pc2) (ha : x.toInt = a) (hb' : y.toInt = b) (ht : a = b → G h kc ks (mkF m pc2 L S)) (hf : a ≠ b → G h kc ks (mkF m pc1 L S)) : G h kc ks (mkF m pc L (.int y :: .int x :: S)) := by
  subst hp
  have q := icmpW .eq ha hb'
  by_cases hc : a = b
  · exact K.step (fun p e below T c h hx hb0 t hr => XS.icmpYes h hx rfl (pc0 := pc) (pc' := pc2) rfl (hb hb0 hd) rfl (q.trans (decide_eq_true hc)) ho hq hr) (ht hc)
  · exact K.step (fun p e below T c h hx hb0 t hr => XS.icmpNo h hx rfl (hb hb0 hd) rfl (q.trans (decide_eq_false hc)) hr) (hf (by omega))
theorem Cx.icmp_ne (K : Cx l R Z n0 Q own nm bytes maxL ret m lv hE G) {o : Int} {x y : Int32} {a b : Int} (hd : decode bytes pc = .ok (.if_icmp .ne o, 3)) (hp : pc + 3 = pc1) (ho : 0 ≤ (pc : Int) + o) (hq : ((pc : Int) + o).toNat = pc2) (ha : x.toInt = a) (hb' : y.toInt = b) (ht : a ≠ b → G h kc ks (mkF m pc2 L S)) (hf : a = b → G h kc ks (mkF m pc1 L S)) : G h kc ks (mkF m pc L (.int y :: .int x :: S)) := by
  subst hp
  have q := icmpW .ne ha hb'
  by_cases hc : a ≠ b
  · exact K.step (fun p e below T c h hx hb0 t hr => XS.icmpYes h hx rfl (pc0 := pc) (pc' := pc2) rfl (hb hb0 hd) rfl (q.trans (decide_eq_true hc)) ho hq hr) (ht hc)
  · exact K.step (fun p e below T c h hx hb0 t hr => XS.icmpNo h hx rfl (hb hb0 hd) rfl (q.trans (decide_eq_false hc)) hr) (hf (by omega))
theorem Cx.if_eq (K : Cx l R Z n0 Q own nm bytes maxL ret m lv hE G) {o : Int} {x : Int32} {a : Int} (hd : decode bytes pc = .ok (.ifCond .eq o, 3)) (hp : pc + 3 = pc1) (ho : 0 ≤ (pc : Int) + o) (hq : ((pc : Int) + o).toNat = pc2) (ha : x.toInt = a) (ht : a = 0 → G h kc ks (mkF m pc2 L S)) (hf : a ≠ 0 → G h kc ks (mkF m pc1 L S)) : G h kc ks (mkF m pc L (.int x :: S)) := by
  subst hp
  have q := (if0 .eq x).trans (icmpW .eq ha (b := 0) rfl)
  by_cases hc : a = 0
  · exact K.step (fun p e below T c h hx hb0 t hr => XS.ifYes h hx rfl (pc0 := pc) (pc' := pc2) rfl (hb hb0 hd) rfl (q.trans (decide_eq_true hc)) ho hq hr) (ht hc)
  · exact K.step (fun p e below T c h hx hb0 t hr => XS.ifNo h hx rfl (hb hb0 hd) rfl (q.trans (decide_eq_false hc)) hr) (hf (by omega))
theorem Cx.if_ne (K : Cx l R Z n0 Q own nm bytes maxL ret m lv hE G) {o : Int} {x : Int32} {a : Int} (hd : decode bytes pc = .ok (.ifCond .ne o, 3)) (hp : pc + 3 = pc1) (ho : 0 ≤ (pc : Int) + o) (hq : ((pc : Int) + o).toNat = pc2) (ha : x.toInt = a) (ht : a ≠ 0 → G h kc ks (mkF m pc2 L S)) (hf : a = 0 → G h kc ks (mkF m pc1 L S)) : G h kc ks (mkF m pc L (.int x :: S)) := by
  subst hp
  have q := (if0 .ne x).trans (icmpW .ne ha (b := 0) rfl)
  by_cases hc : a ≠ 0
  · exact K.step (fun p e below T c h hx hb0 t hr => XS.ifYes h hx rfl (pc0 := pc) (pc' := pc2) rfl (hb hb0 hd) rfl (q.trans (decide_eq_true hc)) ho hq hr) (ht hc)
  · exact K.step (fun p e below T c h hx hb0 t hr => XS.ifNo h hx rfl (hb hb0 hd) rfl (q.trans (decide_eq_false hc)) hr) (hf (by omega))
theorem Cx.icmpneB (K : Cx l R Z n0 Q own nm bytes maxL ret m lv hE G) {o : Int} {P P' : Prop} [Decidable P] [Decidable P'] (hd : decode bytes pc = .ok (.if_icmp .ne o, 3)) (hp : pc + 3 = pc1) (ho : 0 ≤ (pc : Int) + o) (hq : ((pc : Int) + o).toNat = pc2) (ht : ¬ (P ↔ P') → G h kc ks (mkF m pc2 L S)) (hf : (P ↔ P') → G h kc ks (mkF m pc1 L S)) : G h kc ks (mkF m pc L (.int (b2 P') :: .int (b2 P) :: S)) :=
  K.icmp_ne hd hp ho hq rfl rfl (fun q => ht (fun z => q ((b2_inj P P').mpr z))) (fun q => hf ((b2_inj P P').mp q))
theorem Cx.ldcI (K : Cx l R Z n0 Q own nm bytes maxL ret m lv hE G) {index : Nat} {v : Int32} (hd : decode bytes pc = .ok (.ldc index, 2)) (hp : pc + 2 = w') (w : (Cond.constant own index v).before a0 Z = true) (hr : G h kc ks (mkF m w' L (.int v :: S))) : G h kc ks (mkF m pc L S) := by
  subst hp
  exact K.stepX (h' := h) (fun p e s args below meth c T locs X eT hx hb0 hown hZ => ⟨T, X, eT, X.ldcInt hx hown (mvT hZ w) (g := mkF m pc L S) rfl (hb hb0 hd)⟩) hr
theorem Cx.alen (K : Cx l R Z n0 Q own nm bytes maxL ret m lv hE G) {a : Addr} {vs : List Value} {ty : FieldType} (hd : decode bytes pc = .ok (.arraylength, 1)) (hp : pc + 1 = w') (A : Ary Z h a ty vs) (hr : ∀ z : Int32, z.toInt = (vs.length : Nat) → G h kc ks (mkF m w' L (.int z :: S))) : G h kc ks (mkF m pc L (.ref a :: S)) := by
  subst hp
  obtain ⟨cl, Ar, rfl, hlt⟩ := A
  refine K.stepX (h' := h) (f' := mkF m (pc + 1) L (.int cl.slots.size.toInt32 :: S)) (fun p e s args below meth c T locs X eT hx hb0 hown hZ => ⟨T, X, eT, fun t hr => X.arraylength hx (by rw [eT]; exact Ar.1) (State.isArrayOf_alike hZ.alike Ar.2.1) (g := mkF m pc L (.ref a :: S)) rfl rfl (hb hb0 hd) _ hr⟩) (hr _ ?_)
  rw [Array.length_toList] at hlt ⊢
  exact len_int hlt
theorem Cx.putf (K : Cx l R Z n0 Q own nm bytes maxL ret m lv hE G) {R0 O n d host C : String} {index kk : Nat} {ty : FieldType} {a : Addr} {v old : Value} (hd : decode bytes pc = .ok (.putfield index, 3)) (hp : pc + 3 = w') (w : (Cond.fieldLink own index R0 n d).before a0 Z = true ∨ (Cond.fieldLinkNest own index R0 n d host).before a0 Z = true) (via : Via Z R0 O n d) (F : Fld Z h a O n d old) (E : Exa Z h a C)
    (LL : (Cond.lays C O n d).before a0 Z = true ∨ ((Cond.laysFinal C O n d).before a0 Z = true ∧ own = O ∧ nm = "<init>")) (wi : (Cond.instantiable C kk).before a0 Z = true) (hty : parseFieldDescriptor d = some ty) (hn : narrow ty v = v) (hf : fits ty v = true) (ga : n0 ≤ a)
    (hr : ∀ h', Wr h h' a (Jvm.RoadKit.slotOf Z O n d) v → G h' kc ks (mkF m w' L S)) : G h kc ks (mkF m pc L (v :: .ref a :: S)) := by
  obtain ⟨p, e, s0, args, below, meth, c, rfl, hx, hby, hml, hown0, hZ0, hret, hlk, hnm, hE0⟩ := K
  subst hp
  intro vm0 n1 hS hn1 hV T locs X eT N
  have hZ : Z.Warmed39 (s0.setVm vm0).vm := State.Warmed39.trans (t := s0) hZ0 hS.1
  have hown : (s0.setVm vm0).vm.findClass own = some m.cls := by rw [show (s0.setVm vm0).vm = vm0 from rfl, hS.1.alike.findClass]; exact hown0
  obtain ⟨T', h', X', e', W, st⟩ := RoadKit.putF X hx hZ hown w via eT F E (LL.imp id fun q => ⟨q.1, q.2.1, hnm.trans q.2.2⟩) wi hty hn hf (g := mkF m pc L (v :: .ref a :: S)) rfl rfl (hb hby hd)
  obtain ⟨s₂, o, h1, h2⟩ := hr h' W vm0 n1 hS (Nat.le_trans hn1 (Keep.of_wr W).1) hV T' _ X' e' (Fr.snoc X' N ga)
  exact ⟨s₂, o, st _ h1, h2⟩
theorem Cx.newo (K : Cx l R Z n0 Q own nm bytes maxL ret m lv hE G) {C : String} {index n : Nat} (hd : decode bytes pc = .ok (.new index, 3)) (hp : pc + 3 = w') (w : (Cond.classLink own index C).before a0 Z = true) (wi : (Cond.instantiable C n).before a0 Z = true) (wz : (Cond.initialized C).before a0 Z = true) (hc : kc + 1 ≤ R.cells) (hl : ks + n ≤ R.slots)
    (hr : ∀ h' a, a = h.size → Ext h h' → Exa Z h' a C → (∀ {O nm d : String} {ty : FieldType}, Laid Z a0 C O nm d → parseFieldDescriptor d = some ty → Fld Z h' a O nm d (defaultValue ty)) → G h' (kc + 1) (ks + n) (mkF m w' L (.ref a :: S))) : G h kc ks (mkF m pc L S) := by
  obtain ⟨p, e, s0, args, below, meth, c, rfl, hx, hby, hml, hown0, hZ0, hret, hlk, hnm, hE0⟩ := K
  subst hp
  intro vm0 n1 hS hn1 hV T locs X eT N
  have hZ : Z.Warmed39 (s0.setVm vm0).vm := State.Warmed39.trans (t := s0) hZ0 hS.1
  have hown : (s0.setVm vm0).vm.findClass own = some m.cls := by rw [show (s0.setVm vm0).vm = vm0 from rfl, hS.1.alike.findClass]; exact hown0
  obtain ⟨T', h', X', e', E, A, D, -, st⟩ := RoadKit.newO X hx hZ hown w wi wz eT (g := mkF m pc L S) rfl (hb hby hd) hc hl
  obtain ⟨s₂, o, h1, h2⟩ := hr h' _ rfl E A D vm0 n1 hS (Nat.le_trans hn1 E.1) hV T' _ X' e' N
  exact ⟨s₂, o, st _ h1, h2⟩
theorem Cx.newa (K : Cx l R Z n0 Q own nm bytes maxL ret m lv hE G) {aty : ArrayType} {n : Int32} {k cap : Nat} (hd : decode bytes pc = .ok (.newarray aty, 2)) (hp : pc + 2 = w') (w : (Cond.arrayClass (newarray.typeOf aty)).before a0 Z = true) (hn : n.toInt = (k : Nat)) (hk : k ≤ cap) (hbig : cap * 8 ≤ 536870912) (hc : kc + 1 ≤ R.cells) (hl : ks + cap ≤ R.slots) {ad : String} (had : "[" ++ (newarray.typeOf aty).toString = ad)
    (hr : ∀ h' a, a = h.size → Ext h h' → Ary Z h' a (newarray.typeOf aty) (List.replicate k (defaultValue (newarray.typeOf aty))) → Exa Z h' a ad → G h' (kc + 1) (ks + cap) (mkF m w' L (.ref a :: S))) : G h kc ks (mkF m pc L (.int n :: S)) := by
  obtain ⟨p, e, s0, args, below, meth, c, rfl, hx, hby, hml, hown0, hZ0, hret, hlk, hnm, hE0⟩ := K
  subst hp
  intro vm0 n1 hS hn1 hV T locs X eT N
  have hZ : Z.Warmed39 (s0.setVm vm0).vm := State.Warmed39.trans (t := s0) hZ0 hS.1
  have hown : (s0.setVm vm0).vm.findClass own = some m.cls := by rw [show (s0.setVm vm0).vm = vm0 from rfl, hS.1.alike.findClass]; exact hown0
  have hn0 : ¬ n < 0 := by rw [Int32.lt_iff_toInt_lt, hn, show (0 : Int32).toInt = 0 from rfl]; omega
  obtain ⟨T', h', cA, X', e', E, A, EX, st⟩ := RoadKit.newPE X hx hZ w eT (g := mkF m pc L (.int n :: S)) rfl (hb hby hd) rfl hn0 (cap := cap) (by rw [clamp_of hn]; exact hk) hbig hc hl had
  obtain ⟨s₂, o, h1, h2⟩ := hr h' _ rfl E ⟨_, A, by simp [newA, clamp_of hn], by rw [List.length_replicate]; have := n.toInt_lt; omega⟩ EX vm0 n1 hS (Nat.le_trans hn1 E.1) hV T' _ X' e' N
  exact ⟨s₂, o, st _ h1, h2⟩
theorem Cx.init0 (K : Cx l R Z n0 Q own nm bytes maxL ret m lv hE G) {idx W : Nat} {a : Addr} (hd : decode bytes pc = .ok (.invokespecial idx, 3)) (hp : pc + 3 = w') (w1 : (Cond.methodLink own idx Lib.objectInit).before a0 Z = true) (w2 : (Cond.instanceMethod Lib.objectInit).before a0 Z = true) (w3 : (Cond.code Lib.objectInit ⟨#[0xb1]⟩ 1 none).before a0 Z = true) (hL : L.size = maxL) (hf : 1 ≤ R.frames) (hW : (S.map fun v => v.category).sum ≤ W) (hl : W + 12 ≤ R.locals)
    (hr : G h kc ks (mkF m w' L S)) : G h kc ks (mkF m pc L (.ref a :: S)) := by
  obtain ⟨p, e, s0, args, below, meth, c, rfl, hx, hby, hml, hown0, hZ0, hret, hlk, hnm, hE0⟩ := K
  subst hp
  intro vm0 n1 hS hn1 hV T locs X eT N
  have hZ : Z.Warmed39 (s0.setVm vm0).vm := State.Warmed39.trans (t := s0) hZ0 hS.1
  have hown : (s0.setVm vm0).vm.findClass own = some m.cls := by rw [show (s0.setVm vm0).vm = vm0 from rfl, hS.1.alike.findClass]; exact hown0
  obtain ⟨T', X', e', st⟩ := RoadKit.initO X hx hZ hown w1 w2 w3 eT (g := mkF m pc L (.ref a :: S)) rfl (by rw [hml]; exact hL) rfl (hb hby hd) hf (W := W) (by show 2 * 0 + _ ≤ _; omega) hl
  obtain ⟨s₂, o, h1, h2⟩ := hr vm0 n1 hS hn1 hV T' _ X' e' N
  exact ⟨s₂, o, st _ h1, h2⟩
theorem Cx.calls (K : Cx l R Z n0 Q own nm bytes maxL ret m lv hE G) {y : MethodName} {b' : ByteArray} {ml' : Nat} {rt' r : Option FieldType} {rm : Room} {Qc : Option Value → Heap → Prop} {index : Nat} {argsL rest : List Value} {W : Nat} {ps : List FieldType} (hd : decode bytes pc = .ok (.invokestatic index, 3)) (hp : pc + 3 = w') (M : MeetsW l Z n0 y b' ml' rt' rm argsL.toArray h Qc) (w1 : (Cond.methodLink own index y).before a0 Z = true) (w2 : (Cond.static y).before a0 Z = true) (w3 : (Cond.initialized y.cls).before a0 Z = true) (w4 : (Cond.code y b' ml' rt').before a0 Z = true) (hy : y.cls ≠ "java/lang/invoke/MethodHandle" ∧ y.cls ≠ "java/lang/invoke/VarHandle") (hpd : parseMethodDescriptor y.desc = some ⟨ps, r⟩) (hlen : argsL.length = ps.length) (hL : L.size = maxL) (hW : (rest.map fun v => v.category).sum ≤ W) (hf : rm.frames + 1 ≤ R.frames) (hl : W + (ml' + 11) + rm.locals ≤ R.locals) (hc : kc + rm.cells ≤ R.cells) (hsl : ks + rm.slots ≤ R.slots) (hr : ∀ v h', Qc v h' → G h' (kc + rm.cells) (ks + rm.slots) (mkF m w' L (v.toList ++ rest))) : G h kc ks (mkF m pc L (argsL.reverse ++ rest)) := by
  obtain ⟨p, e, s0, args, below, meth, c, rfl, hx, hby, hml, hown0, hZ0, hret, hlk, hnm, hE0⟩ := K
  subst hp
  intro vm0 n1 hS hn1 hV T locs X eT N
  have hZ : Z.Warmed39 (s0.setVm vm0).vm := State.Warmed39.trans (t := s0) hZ0 hS.1
  have hown : (s0.setVm vm0).vm.findClass own = some m.cls := by rw [show (s0.setVm vm0).vm = vm0 from rfl, hS.1.alike.findClass]; exact hown0
  obtain ⟨v, _, ⟨T', Lo, ko, no⟩, -, X', ⟨Lc, hQ, l', y', z'⟩, st⟩ := Jvm.LawKit.callS X hx (y := y) hown (mvT hZ w1) (mvT hZ w2) (mvT hZ w3) (mvT hZ w4) hy (backOf (Q := fun v h' L => (Qc v h' ∧ Fr n0 L) ∧ h.size ≤ h'.size) (W := W) (growM (M [])) hZ w4 w3 hf hl) (g := mkF m pc L (argsL.reverse ++ rest)) rfl (by rw [hml]; exact hL) (argsL := argsL) (rest := rest) (lenOf hpd hlen) rfl (by show 2 * 0 + _ ≤ _; omega) (hb hby hd) (fun _ _ => ⟨rfl, eT, hc, hsl⟩)
  dsimp only [Pt.U, Pt.locs, Pt.cells, Pt.slots] at X' l' y' z' st hQ
  subst l' y' z'
  obtain ⟨s₂, o, h1, h2⟩ := hr v T'.heap hQ.1.1 vm0 n1 hS (Nat.le_trans hn1 hQ.2) hV T' _ X' rfl (Fr.app N hQ.1.2)
  exact ⟨s₂, o, st _ h1, h2⟩
theorem Cx.callc (K : Cx l R Z n0 Q own nm bytes maxL ret m lv hE G) {y : MethodName} {b' : ByteArray} {ml' : Nat} {r : Option FieldType} {rm : Room} {Qc : Option Value → Heap → Prop} {index : Nat} {argsL rest : List Value} {W : Nat} {ps : List FieldType} {a : Addr} (hd : decode bytes pc = .ok (.invokespecial index, 3)) (hp : pc + 3 = w') (hi : y.name = "<init>") (M : MeetsW l Z n0 y b' ml' none rm (Value.ref a :: argsL).toArray h Qc) (w1 : (Cond.methodLink own index y).before a0 Z = true) (w2 : (Cond.instanceMethod y).before a0 Z = true) (w3 : (Cond.initialized y.cls).before a0 Z = true) (w4 : (Cond.code y b' ml' none).before a0 Z = true) (hy : y.cls ≠ "java/lang/invoke/MethodHandle" ∧ y.cls ≠ "java/lang/invoke/VarHandle") (hpd : parseMethodDescriptor y.desc = some ⟨ps, r⟩) (hlen : argsL.length = ps.length) (hL : L.size = maxL) (hW : (rest.map fun v => v.category).sum ≤ W) (hf : rm.frames + 1 ≤ R.frames) (hl : W + (ml' + 11) + rm.locals ≤ R.locals) (hc : kc + rm.cells ≤ R.cells) (hsl : ks + rm.slots ≤ R.slots) (hr : ∀ v h', Qc v h' → G h' (kc + rm.cells) (ks + rm.slots) (mkF m w' L (v.toList ++ rest))) : G h kc ks (mkF m pc L (argsL.reverse ++ .ref a :: rest)) := by
  obtain ⟨p, e, s0, args, below, meth, c, rfl, hx, hby, hml, hown0, hZ0, hret, hlk, hnm, hE0⟩ := K
  subst hp
  intro vm0 n1 hS hn1 hV T locs X eT N
  have hZ : Z.Warmed39 (s0.setVm vm0).vm := State.Warmed39.trans (t := s0) hZ0 hS.1
  have hown : (s0.setVm vm0).vm.findClass own = some m.cls := by rw [show (s0.setVm vm0).vm = vm0 from rfl, hS.1.alike.findClass]; exact hown0
  obtain ⟨v, _, ⟨T', Lo, ko, no⟩, -, X', ⟨Lc, hQ, l', y', z'⟩, st⟩ := X.specialBack hx (y := y) hi hown (mvT hZ w1) (mvT hZ w2) (mvT hZ w4) hy (backOf (Q := fun v h' L => (Qc v h' ∧ Fr n0 L) ∧ h.size ≤ h'.size) (W := W) (growM (M [])) hZ w4 w3 hf hl) (g := mkF m pc L (argsL.reverse ++ .ref a :: rest)) rfl (by rw [hml]; exact hL) (Steps.refl _) (a := a) (argsL := argsL) (rest := rest) (lenOf hpd hlen) rfl (by show 2 * 0 + _ ≤ _; omega) (hb hby hd) (fun _ _ => ⟨rfl, eT, hc, hsl⟩)
  dsimp only [Pt.U, Pt.locs, Pt.cells, Pt.slots] at X' l' y' z' st hQ
  subst l' y' z'
  obtain ⟨s₂, o, h1, h2⟩ := hr v T'.heap hQ.1.1 vm0 n1 hS (Nat.le_trans hn1 hQ.2) hV T' _ X' rfl (Fr.app N hQ.1.2)
  exact ⟨s₂, o, st.trans h1, h2⟩
theorem Cx.callv (K : Cx l R Z n0 Q own nm bytes maxL ret m lv hE G) {y z : MethodName} {b' : ByteArray} {ml' : Nat} {rt' r : Option FieldType} {rm : Room} {Qc : Option Value → Heap → Prop} {index : Nat} {argsL rest : List Value} {W : Nat} {ps : List FieldType} {C : String} {a : Addr} (hd : decode bytes pc = .ok (.invokevirtual index, 3)) (hp : pc + 3 = w') (M : MeetsW l Z n0 z b' ml' rt' rm (Value.ref a :: argsL).toArray h Qc) (E : Exa Z h a C) (w1 : (Cond.methodLink own index y).before a0 Z = true) (w5 : (Cond.declares y).before a0 Z = true) (nf : ∀ s : State, Z.Warmed39 s.vm → NotFace s y) (w6 : (Cond.selects C y z).before a0 Z = true) (w2 : (Cond.instanceMethod z).before a0 Z = true) (w3 : (Cond.initialized z.cls).before a0 Z = true) (w4 : (Cond.code z b' ml' rt').before a0 Z = true) (hy : y.cls ≠ "java/lang/invoke/MethodHandle" ∧ y.cls ≠ "java/lang/invoke/VarHandle") (hpd : parseMethodDescriptor y.desc = some ⟨ps, r⟩) (hlen : argsL.length = ps.length) (hL : L.size = maxL) (hW : (rest.map fun v => v.category).sum ≤ W) (hf : rm.frames + 1 ≤ R.frames) (hl : W + (ml' + 11) + rm.locals ≤ R.locals) (hc : kc + rm.cells ≤ R.cells) (hsl : ks + rm.slots ≤ R.slots) (hr : ∀ v h', Qc v h' → G h' (kc + rm.cells) (ks + rm.slots) (mkF m w' L (v.toList ++ rest))) : G h kc ks (mkF m pc L (argsL.reverse ++ .ref a :: rest)) := by
  obtain ⟨p, e, s0, args, below, meth, c, rfl, hx, hby, hml, hown0, hZ0, hret, hlk, hnm, hE0⟩ := K
  subst hp
  intro vm0 n1 hS hn1 hV T locs X eT N
  have hZ : Z.Warmed39 (s0.setVm vm0).vm := State.Warmed39.trans (t := s0) hZ0 hS.1
  have hown : (s0.setVm vm0).vm.findClass own = some m.cls := by rw [show (s0.setVm vm0).vm = vm0 from rfl, hS.1.alike.findClass]; exact hown0
  obtain ⟨cq, kq, qa, qb, qc⟩ := isOf hZ eT E
  obtain ⟨v, _, ⟨T', Lo, ko, no⟩, -, X', ⟨Lc, hQ, l', y', z'⟩, st⟩ := X.virtualBack hx (y := y) (z := z) hown (mvT hZ w1) (mvT hZ w5) (nf (s0.setVm vm0) hZ) (mvT hZ w6) (mvT hZ w2) hy (backOf (Q := fun v h' L => (Qc v h' ∧ Fr n0 L) ∧ h.size ≤ h'.size) (W := W) (growM (M [])) hZ w4 w3 hf hl) qa qc (g := mkF m pc L (argsL.reverse ++ .ref a :: rest)) rfl (by rw [hml]; exact hL) (Steps.refl _) (argsL := argsL) (rest := rest) (lenOf hpd hlen) rfl (by show 2 * 0 + _ ≤ _; omega) (hb hby hd) (fun _ _ => ⟨rfl, eT, hc, hsl⟩)
  dsimp only [Pt.U, Pt.locs, Pt.cells, Pt.slots] at X' l' y' z' st hQ
  subst l' y' z'
  obtain ⟨s₂, o, h1, h2⟩ := hr v T'.heap hQ.1.1 vm0 n1 hS (Nat.le_trans hn1 hQ.2) hV T' _ X' rfl (Fr.app N hQ.1.2)
  exact ⟨s₂, o, st.trans h1, h2⟩
theorem Cx.lload (K : Cx l R Z n0 Q own nm bytes maxL ret m lv hE G) {k : Nat} {v : Int64} (hd : decode bytes pc = .ok (.lload k, 2)) (hp : pc + 2 = w') (hl : L[k]? = some (.val (.long v))) (hr : G h kc ks (mkF m w' L (.long v :: S))) : G h kc ks (mkF m pc L (S)) := by
  subst hp
  exact K.step (fun p e below T c h hx hb0 t hr => XS.lload h hx rfl (hb hb0 hd) hl hr) hr
theorem Cx.lstore (K : Cx l R Z n0 Q own nm bytes maxL ret m lv hE G) {k : Nat} {x : Int64} (hd : decode bytes pc = .ok (.lstore k, 2)) (hp : pc + 2 = w') (hl : storeLocals L k (.long x) = some L') (hr : G h kc ks (mkF m w' L' (S))) : G h kc ks (mkF m pc L (.long x :: S)) := by
  subst hp
  exact K.step (fun p e below T c h hx hb0 t hr => XS.lstore h hx rfl (hb hb0 hd) rfl hl hr) hr
theorem Cx.lconst (K : Cx l R Z n0 Q own nm bytes maxL ret m lv hE G) {k : Fin 2} {z : Int64} (hd : decode bytes pc = .ok (.lconst k, 1)) (hp : pc + 1 = w') (hz : Int64.ofNat k = z) (hr : G h kc ks (mkF m w' L (.long z :: S))) : G h kc ks (mkF m pc L (S)) := by
  subst hp hz
  exact K.step (fun p e below T c h hx hb0 t hr => XS.lconst h hx rfl (hb hb0 hd) hr) hr
theorem Cx.i2l (K : Cx l R Z n0 Q own nm bytes maxL ret m lv hE G) {x : Int32} {z : Int64} (hd : decode bytes pc = .ok (.i2l, 1)) (hp : pc + 1 = w') (hz : x.toInt64 = z) (hr : G h kc ks (mkF m w' L (.long z :: S))) : G h kc ks (mkF m pc L (.int x :: S)) := by
  subst hp hz
  exact K.step (fun p e below T c h hx hb0 t hr => XS.i2l h hx rfl (hb hb0 hd) rfl hr) hr
theorem Cx.ldc2J (K : Cx l R Z n0 Q own nm bytes maxL ret m lv hE G) {index : Nat} {v : Int64} (hd : decode bytes pc = .ok (.ldc2_w index, 3)) (hp : pc + 3 = w') (w : (Cond.constantLong own index v).before a0 Z = true) (hr : G h kc ks (mkF m w' L (.long v :: S))) : G h kc ks (mkF m pc L S) := by
  subst hp
  exact K.stepX (h' := h) (fun p e s args below meth c T locs X eT hx hb0 hown hZ => ⟨T, X, eT, X.ldc2Long hx hown (mvT hZ w) (g := mkF m pc L S) rfl (hb hb0 hd)⟩) hr
theorem Cx.lald (K : Cx l R Z n0 Q own nm bytes maxL ret m lv hE G) {a : Addr} {vs : List Value} {j : Int32} {i : Nat} {v : Value} (hd : decode bytes pc = .ok (.laload, 1)) (hp : pc + 1 = w') (A : Ary Z h a .long vs) (hj : j.toInt = (i : Nat)) (hv : vs[i]? = some v) (hr : G h kc ks (mkF m w' L (v :: S))) : G h kc ks (mkF m pc L (.int j :: .ref a :: S)) := by
  subst hp
  obtain ⟨cl, Ar, rfl, hlt⟩ := A
  have hi : i < cl.slots.toList.length := (List.getElem?_eq_some_iff.mp hv).1
  exact K.stepX (h' := h) (fun p e s args below meth c T locs X eT hx hb0 hown hZ => ⟨T, X, eT, fun t hr => X.laload hx (j := j) (v := v) (by rw [eT]; exact Ar.1) (State.isArrayOf_alike hZ.alike Ar.2.1) Ar.2.2 (in_of hj hi) (at_of hj hv) (g := mkF m pc L (.int j :: .ref a :: S)) rfl rfl (hb hb0 hd) _ hr⟩) hr
theorem Cx.ccast (K : Cx l R Z n0 Q own nm bytes maxL ret m lv hE G) {index : Nat} {Kc : String} {a : Addr} (hd : decode bytes pc = .ok (.checkcast index, 3)) (hp : pc + 3 = w') (w : (Cond.classLink own index Kc).before a0 Z = true) (F : Ins Z h a Kc true) (hr : G h kc ks (mkF m w' L (.ref a :: S))) : G h kc ks (mkF m pc L (.ref a :: S)) := by
  subst hp
  exact K.stepX (h' := h) (fun p e s args below meth c T locs X eT hx hb0 hown hZ => RoadKit.castY X hx hZ hown w eT F (g := mkF m pc L (.ref a :: S)) rfl rfl (hb hb0 hd)) hr
theorem Cx.ifnull0 (K : Cx l R Z n0 Q own nm bytes maxL ret m lv hE G) {o : Int} (hd : decode bytes pc = .ok (.ifnull o, 3)) (ho : 0 ≤ (pc : Int) + o) (hq : ((pc : Int) + o).toNat = pc2) (hr : G h kc ks (mkF m pc2 L S)) : G h kc ks (mkF m pc L (.null :: S)) :=
  K.step (fun p e below T c h hx hb0 t hr => XS.ifnullYes h hx rfl (pc0 := pc) (pc' := pc2) rfl (hb hb0 hd) rfl ho hq hr) hr
theorem Cx.ifnull1 (K : Cx l R Z n0 Q own nm bytes maxL ret m lv hE G) {o : Int} {b : Addr} (hd : decode bytes pc = .ok (.ifnull o, 3)) (hp : pc + 3 = w') (hr : G h kc ks (mkF m w' L S)) : G h kc ks (mkF m pc L (.ref b :: S)) := by
  subst hp
  exact K.step (fun p e below T c h hx hb0 t hr => XS.ifnullNo h hx rfl (hb hb0 hd) rfl hr) hr
theorem Cx.ifnonnull0 (K : Cx l R Z n0 Q own nm bytes maxL ret m lv hE G) {o : Int} (hd : decode bytes pc = .ok (.ifnonnull o, 3)) (hp : pc + 3 = w') (hr : G h kc ks (mkF m w' L S)) : G h kc ks (mkF m pc L (.null :: S)) := by
  subst hp
  exact K.step (fun p e below T c h hx hb0 t hr => XS.ifnonnullNo h hx rfl (hb hb0 hd) rfl hr) hr
theorem Cx.ifnonnull1 (K : Cx l R Z n0 Q own nm bytes maxL ret m lv hE G) {o : Int} {b : Addr} (hd : decode bytes pc = .ok (.ifnonnull o, 3)) (ho : 0 ≤ (pc : Int) + o) (hq : ((pc : Int) + o).toNat = pc2) (hr : G h kc ks (mkF m pc2 L S)) : G h kc ks (mkF m pc L (.ref b :: S)) :=
  K.step (fun p e below T c h hx hb0 t hr => XS.ifnonnullYes h hx rfl (pc0 := pc) (pc' := pc2) rfl (hb hb0 hd) rfl ho hq hr) hr
theorem Cx.lcmp_gt (K : Cx l R Z n0 Q own nm bytes maxL ret m lv hE G) {o : Int} {x y : Int64} {a b : Int} (hd0 : decode bytes pc = .ok (.lcmp, 1)) (hd : decode bytes (pc + 1) = .ok (.ifCond .gt o, 3)) (hp : pc + 4 = pc1) (ho : 0 ≤ ((pc + 1 : Nat) : Int) + o) (hq : (((pc + 1 : Nat) : Int) + o).toNat = pc2) (ha : x.toInt = a) (hb' : y.toInt = b) (ht : b < a → G h kc ks (mkF m pc2 L S)) (hf : a ≤ b → G h kc ks (mkF m pc1 L S)) : G h kc ks (mkF m pc L (.long y :: .long x :: S)) := by
  subst hp
  have q := lcmpW0 .gt ha hb'
  refine K.step (f' := mkF m (pc + 1) L (.int (if x > y then 1 else if x = y then 0 else -1) :: S)) (fun p e below T c h hx hb0 t hr => XS.lcmp h hx rfl (hb hb0 hd0) rfl hr) ?_
  by_cases hc : b < a
  · exact K.step (fun p e below T c h hx hb0 t hr => XS.ifYes h hx rfl (pc0 := pc + 1) (pc' := pc2) rfl (hb hb0 hd) rfl (q.trans (decide_eq_true hc)) ho hq hr) (ht hc)
  · exact K.step (fun p e below T c h hx hb0 t hr => XS.ifNo h hx rfl (hb hb0 hd) rfl (q.trans (decide_eq_false hc)) hr) (hf (by omega))
theorem Cx.iast (K : Cx l R Z n0 Q own nm bytes maxL ret m lv hE G) {a : Addr} {vs : List Value} {j : Int32} {x : Int32} {i : Nat} (hd : decode bytes pc = .ok (.iastore, 1)) (hp : pc + 1 = w') (A : Ary Z h a .int vs) (hj : j.toInt = (i : Nat)) (hi : i < vs.length) (ga : n0 ≤ a) (hr : ∀ h', Wr h h' a i (.int x) → Ary Z h' a .int (vs.set i (.int x)) → G h' kc ks (mkF m w' L S)) : G h kc ks (mkF m pc L (.int x :: .int j :: .ref a :: S)) := by
  obtain ⟨p, e, s0, args, below, meth, c, rfl, hx, hby, hml, hown0, hZ0, hret, hlk, hnm, hE0⟩ := K
  subst hp
  intro vm0 n1 hS hn1 hV T locs X eT N
  have hZ : Z.Warmed39 (s0.setVm vm0).vm := State.Warmed39.trans (t := s0) hZ0 hS.1
  have hown : (s0.setVm vm0).vm.findClass own = some m.cls := by rw [show (s0.setVm vm0).vm = vm0 from rfl, hS.1.alike.findClass]; exact hown0
  have A0 := A
  obtain ⟨cl, Ar, rfl, hlt⟩ := A
  obtain ⟨T', h', X', e', W, st⟩ := RoadKit.stI X hx hZ eT Ar (j := j) (in_of hj hi) (g := mkF m pc L (.int x :: .int j :: .ref a :: S)) rfl rfl (hb hby hd)
  have W' := W
  rw [clamp_of hj] at W'
  obtain ⟨s₂, o, h1, h2⟩ := hr h' W' (A0.same W') vm0 n1 hS (Nat.le_trans hn1 (Keep.of_wr W').1) hV T' _ X' e' (Fr.snoc X' N ga)
  exact ⟨s₂, o, st _ h1, h2⟩
theorem Cx.last (K : Cx l R Z n0 Q own nm bytes maxL ret m lv hE G) {a : Addr} {vs : List Value} {j : Int32} {x : Int64} {i : Nat} (hd : decode bytes pc = .ok (.lastore, 1)) (hp : pc + 1 = w') (A : Ary Z h a .long vs) (hj : j.toInt = (i : Nat)) (hi : i < vs.length) (ga : n0 ≤ a) (hr : ∀ h', Wr h h' a i (.long x) → Ary Z h' a .long (vs.set i (.long x)) → G h' kc ks (mkF m w' L S)) : G h kc ks (mkF m pc L (.long x :: .int j :: .ref a :: S)) := by
  obtain ⟨p, e, s0, args, below, meth, c, rfl, hx, hby, hml, hown0, hZ0, hret, hlk, hnm, hE0⟩ := K
  subst hp
  intro vm0 n1 hS hn1 hV T locs X eT N
  have hZ : Z.Warmed39 (s0.setVm vm0).vm := State.Warmed39.trans (t := s0) hZ0 hS.1
  have hown : (s0.setVm vm0).vm.findClass own = some m.cls := by rw [show (s0.setVm vm0).vm = vm0 from rfl, hS.1.alike.findClass]; exact hown0
  have A0 := A
  obtain ⟨cl, Ar, rfl, hlt⟩ := A
  obtain ⟨T', h', X', e', W, st⟩ := RoadKit.stJ X hx hZ eT Ar (j := j) (in_of hj hi) (g := mkF m pc L (.long x :: .int j :: .ref a :: S)) rfl rfl (hb hby hd)
  have W' := W
  rw [clamp_of hj] at W'
  obtain ⟨s₂, o, h1, h2⟩ := hr h' W' (A0.same W') vm0 n1 hS (Nat.le_trans hn1 (Keep.of_wr W').1) hV T' _ X' e' (Fr.snoc X' N ga)
  exact ⟨s₂, o, st _ h1, h2⟩
theorem Cx.clone (K : Cx l R Z n0 Q own nm bytes maxL ret m lv hE G) {index W cap : Nat} {a : Addr} {ad : String} {ty : FieldType} {vs : List Value} (dv : Value) (hd : decode bytes pc = .ok (.invokevirtual index, 3)) (hp : pc + 3 = w')
    (w1 : (Cond.methodLink own index ⟨ad, "clone", "()Ljava/lang/Object;"⟩).before a0 Z = true) (w2 : (Cond.sameMethod ad "java/lang/Object" "clone" "()Ljava/lang/Object;").before a0 Z = true) (w3 : (Cond.native ⟨"java/lang/Object", "clone", "()Ljava/lang/Object;"⟩).before a0 Z = true)
    (w4 : (Cond.instanceMethod ⟨"java/lang/Object", "clone", "()Ljava/lang/Object;"⟩).before a0 Z = true) (w5 : (Cond.selects ad ⟨ad, "clone", "()Ljava/lang/Object;"⟩ ⟨"java/lang/Object", "clone", "()Ljava/lang/Object;"⟩).before a0 Z = true) (w6 : (Cond.castable ad "java/lang/Cloneable").before a0 Z = true)
    (A : Ary Z h a ty vs) (E : Exa Z h a ad) (hfv : ∀ v ∈ vs, fits ty v = true) (hdv : fits ty dv = true) (hL : L.size = maxL) (hf : 1 ≤ R.frames) (hW : (S.map fun v => v.category).sum ≤ W) (hl : W + 14 ≤ R.locals) (hcap : vs.length ≤ cap) (hc : kc + 1 ≤ R.cells) (hsl : ks + cap ≤ R.slots)
    (hr : ∀ h' b, b = h.size → Ext h h' → Ary Z h' b ty vs → Exa Z h' b ad → G h' (kc + 1) (ks + cap) (mkF m w' L (.ref b :: S))) : G h kc ks (mkF m pc L (.ref a :: S)) := by
  obtain ⟨p, e, s0, args, below, meth, c, rfl, hx, hby, hml, hown0, hZ0, hret, hlk, hnm, hE0⟩ := K
  subst hp
  intro vm0 n1 hS hn1 hV T locs X eT N
  have hZ : Z.Warmed39 (s0.setVm vm0).vm := State.Warmed39.trans (t := s0) hZ0 hS.1
  have hown : (s0.setVm vm0).vm.findClass own = some m.cls := by rw [show (s0.setVm vm0).vm = vm0 from rfl, hS.1.alike.findClass]; exact hown0
  obtain ⟨ka, za, ea, VA⟩ := A.toArv hfv hdv
  obtain ⟨T', h', X', e', Ex', V, EX, st⟩ := RoadKit.cloneH X hx hZ hown w1 w2 w3 w4 w5 w6 eT VA.arh E (g := mkF m pc L (.ref a :: S)) rfl (by rw [hml]; exact hL) rfl (hb hby hd) hf (W := W) (cap := cap) (by show 2 * 0 + _ ≤ _; omega) hl (by rw [clamp_of ea]; exact hcap) hc hsl
  obtain ⟨s₂, o, h1, h2⟩ := hr h' _ rfl Ex' (Arv.toAry (show Arv Z h' h.size ka ty za vs dv from V) ea) EX vm0 n1 hS (Nat.le_trans hn1 Ex'.1) hV T' _ X' e' N
  exact ⟨s₂, o, st _ h1, h2⟩
theorem Cx.callsV (K : Cx l R Z n0 Q own nm bytes maxL ret m lv hE G) {y : MethodName} {b' : ByteArray} {ml' : Nat} {rt' r : Option FieldType} {rm : Room} {Qc : Option Value → Heap → Option Addr → Prop} {index : Nat} {argsL rest : List Value} {W : Nat} {ps : List FieldType} (hd : decode bytes pc = .ok (.invokestatic index, 3)) (hp : pc + 3 = w') (M : MeetsV l Z n0 y b' ml' rt' rm argsL.toArray h lv Qc) (w1 : (Cond.methodLink own index y).before a0 Z = true) (w2 : (Cond.static y).before a0 Z = true) (w3 : (Cond.initialized y.cls).before a0 Z = true) (w4 : (Cond.code y b' ml' rt').before a0 Z = true) (hy : y.cls ≠ "java/lang/invoke/MethodHandle" ∧ y.cls ≠ "java/lang/invoke/VarHandle") (hpd : parseMethodDescriptor y.desc = some ⟨ps, r⟩) (hlen : argsL.length = ps.length) (hL : L.size = maxL) (hW : (rest.map fun v => v.category).sum ≤ W) (hf : rm.frames + 1 ≤ R.frames) (hl : W + (ml' + 11) + rm.locals ≤ R.locals) (hc : kc + rm.cells ≤ R.cells) (hsl : ks + rm.slots ≤ R.slots) (hr : ∀ (lv' : Option Addr) (G' : Heap → Nat → Nat → JFrame → Prop), Cx l R Z n0 Q own nm bytes maxL ret m lv' hE G' → ∀ v h', Qc v h' lv' → G' h' (kc + rm.cells) (ks + rm.slots) (mkF m w' L (v.toList ++ rest))) : G h kc ks (mkF m pc L (argsL.reverse ++ rest)) := by
  obtain ⟨p, e, s0, args, below, meth, c, rfl, hx, hby, hml, hown0, hZ0, hret, hlk, hnm, hE0⟩ := K
  subst hp
  intro vm0 n1 hS hn1 hV T locs X eT N
  have hZ : Z.Warmed39 (s0.setVm vm0).vm := State.Warmed39.trans (t := s0) hZ0 hS.1
  have hown : (s0.setVm vm0).vm.findClass own = some m.cls := by rw [show (s0.setVm vm0).vm = vm0 from rfl, hS.1.alike.findClass]; exact hown0
  obtain ⟨v, _, ⟨T', Lo, ko, no⟩, -, X', hS', hg, ⟨Lc, ⟨⟨lv', hV', hQ⟩, hF⟩, l', y', z'⟩, st⟩ := callSS X hx (y := y) hown (mvT hZ w1) (mvT hZ w2) (mvT hZ w3) (mvT hZ w4) hy (backOfV (Q := fun v h' vm L => (∃ lv', LV Z vm lv' ∧ Qc v h' lv') ∧ Fr n0 L) (W := W) (M []) hZ hV w4 w3 hf hl) (g := mkF m pc L (argsL.reverse ++ rest)) rfl (by rw [hml]; exact hL) (argsL := argsL) (rest := rest) (lenOf hpd hlen) rfl (by show 2 * 0 + _ ≤ _; omega) (hb hby hd) (fun _ _ => ⟨rfl, eT, hc, hsl⟩)
  dsimp only [Pt.U, Pt.locs, Pt.cells, Pt.slots] at X' hS' hg l' y' z' st hQ hV'
  subst l' y' z'
  obtain ⟨s₂, o, h1, h2⟩ := hr lv' _ ⟨p, e, s0, args, below, meth, c, rfl, hx, hby, hml, hown0, hZ0, hret, hlk, hnm, hE0⟩ v T'.heap hQ T'.vm T'.heap.size (hS.trans hS' (Nat.le_trans (by rw [← eT] at hn1; exact hn1) hg)) (Nat.le_refl _) hV' T' _ X' rfl (Fr.app N hF)
  exact ⟨s₂, o, st.trans h1, h2⟩
theorem Cx.callcV (K : Cx l R Z n0 Q own nm bytes maxL ret m lv hE G) {y : MethodName} {b' : ByteArray} {ml' : Nat} {r : Option FieldType} {rm : Room} {Qc : Option Value → Heap → Option Addr → Prop} {index : Nat} {argsL rest : List Value} {W : Nat} {ps : List FieldType} {a : Addr} (hd : decode bytes pc = .ok (.invokespecial index, 3)) (hp : pc + 3 = w') (hi : y.name = "<init>") (M : MeetsV l Z n0 y b' ml' none rm (Value.ref a :: argsL).toArray h lv Qc) (w1 : (Cond.methodLink own index y).before a0 Z = true) (w2 : (Cond.instanceMethod y).before a0 Z = true) (w3 : (Cond.initialized y.cls).before a0 Z = true) (w4 : (Cond.code y b' ml' none).before a0 Z = true) (hy : y.cls ≠ "java/lang/invoke/MethodHandle" ∧ y.cls ≠ "java/lang/invoke/VarHandle") (hpd : parseMethodDescriptor y.desc = some ⟨ps, r⟩) (hlen : argsL.length = ps.length) (hL : L.size = maxL) (hW : (rest.map fun v => v.category).sum ≤ W) (hf : rm.frames + 1 ≤ R.frames) (hl : W + (ml' + 11) + rm.locals ≤ R.locals) (hc : kc + rm.cells ≤ R.cells) (hsl : ks + rm.slots ≤ R.slots) (hr : ∀ (lv' : Option Addr) (G' : Heap → Nat → Nat → JFrame → Prop), Cx l R Z n0 Q own nm bytes maxL ret m lv' hE G' → ∀ v h', Qc v h' lv' → G' h' (kc + rm.cells) (ks + rm.slots) (mkF m w' L (v.toList ++ rest))) : G h kc ks (mkF m pc L (argsL.reverse ++ .ref a :: rest)) := by
  obtain ⟨p, e, s0, args, below, meth, c, rfl, hx, hby, hml, hown0, hZ0, hret, hlk, hnm, hE0⟩ := K
  subst hp
  intro vm0 n1 hS hn1 hV T locs X eT N
  have hZ : Z.Warmed39 (s0.setVm vm0).vm := State.Warmed39.trans (t := s0) hZ0 hS.1
  have hown : (s0.setVm vm0).vm.findClass own = some m.cls := by rw [show (s0.setVm vm0).vm = vm0 from rfl, hS.1.alike.findClass]; exact hown0
  obtain ⟨v, _, ⟨T', Lo, ko, no⟩, -, X', hS', hg, ⟨Lc, ⟨⟨lv', hV', hQ⟩, hF⟩, l', y', z'⟩, st⟩ := X.specialBackS hx (y := y) hi hown (mvT hZ w1) (mvT hZ w2) (mvT hZ w4) hy (backOfV (Q := fun v h' vm L => (∃ lv', LV Z vm lv' ∧ Qc v h' lv') ∧ Fr n0 L) (W := W) (M []) hZ hV w4 w3 hf hl) (g := mkF m pc L (argsL.reverse ++ .ref a :: rest)) rfl (by rw [hml]; exact hL) (Steps.refl _) (a := a) (argsL := argsL) (rest := rest) (lenOf hpd hlen) rfl (by show 2 * 0 + _ ≤ _; omega) (hb hby hd) (fun _ _ => ⟨rfl, eT, hc, hsl⟩)
  dsimp only [Pt.U, Pt.locs, Pt.cells, Pt.slots] at X' hS' hg l' y' z' st hQ hV'
  subst l' y' z'
  obtain ⟨s₂, o, h1, h2⟩ := hr lv' _ ⟨p, e, s0, args, below, meth, c, rfl, hx, hby, hml, hown0, hZ0, hret, hlk, hnm, hE0⟩ v T'.heap hQ T'.vm T'.heap.size (hS.trans hS' (Nat.le_trans (by rw [← eT] at hn1; exact hn1) hg)) (Nat.le_refl _) hV' T' _ X' rfl (Fr.app N hF)
  exact ⟨s₂, o, st.trans h1, h2⟩
theorem Cx.ldcSA (K : Cx l R Z n0 Q own nm bytes maxL ret m lv hE G) {text : String} {index n : Nat} (hd : decode bytes pc = .ok (.ldc index, 2)) (hp : pc + 2 = w') (w : (Cond.stringLink own index text).before a0 Z = true) (wS : ∀ a ∈ Bundle.stringAtoms, a.before a0 Z = true) (hn : 4 * text.toList.length ≤ n) (hbig : n ≤ 536870912) (hc : kc + 2 ≤ R.cells) (hl : ks + (n + 4) ≤ R.slots)
    (hr : ∀ (h' : Heap) (a : Addr), Ext h h' → G h' (kc + 2) (ks + (n + 4)) (mkF m w' L (.ref a :: S))) : G h kc ks (mkF m pc L S) := by
  obtain ⟨p, e, s0, args, below, meth, c, rfl, hx, hby, hml, hown0, hZ0, hret, hlk, hnm, hE0⟩ := K
  subst hp
  intro vm0 n1 hS hn1 hV T locs X eT N
  have hZ : Z.Warmed39 (s0.setVm vm0).vm := State.Warmed39.trans (t := s0) hZ0 hS.1
  have hown : (s0.setVm vm0).vm.findClass own = some m.cls := by rw [show (s0.setVm vm0).vm = vm0 from rfl, hS.1.alike.findClass]; exact hown0
  obtain ⟨a, T', h', k1, X', e', E, hS', hk', -, -, st⟩ := ldcS (s := s0) (vm0 := vm0) X hx hZ hown w wS eT hS hn1 (g := mkF m pc L S) rfl (hb hby hd) hn hbig hc hl
  obtain ⟨s₂, o, h1, h2⟩ := hr h' a E T'.vm k1 hS' hk' trivial T' _ X' e' N
  exact ⟨s₂, o, st _ h1, h2⟩
theorem Cx.retz (K : Cx l R Z n0 Q own nm bytes maxL (some .boolean) m lv hE G) {z : Int32} (hd : decode bytes pc = .ok (.ireturn, 1)) (hz : z = 0 ∨ z = 1) (hc : kc ≤ R.cells) (hs : ks ≤ R.slots) (hQ : Q (some (.int z)) h lv) : G h kc ks (mkF m pc L (.int z :: S)) := by
  obtain ⟨p, e, s0, args, below, meth, c, rfl, hx, hby, hml, hown0, hZ0, hret, hlk, hnm, hE0⟩ := K
  intro vm0 n1 hS hn1 hV T locs X eT N
  obtain ⟨fs, hr, hrun, hended, g1, g2, g3, g4⟩ := X.leaveW hS (by rw [eT]; exact hn1) (v := some (.int z)) (fun h => by rw [hret] at h; cases h) hlk
  refine ⟨_, _, ?_, hrun, hended, _, _, rfl, ⟨⟨lv, ?_, ?_⟩, N⟩, g1, g2, g3, g4.mono hc hs⟩
  · exact retOut X hx hret (by rcases hz with rfl | rfl <;> rfl) (Or.inl ⟨rfl, Or.inr (Or.inl rfl), _, rfl⟩) (hb hby hd) hr
  · exact LV.warm (s := s0.setVm vm0) hV X.warmed
  · show Q _ T.heap lv
    rw [eT]; exact hQ
theorem Cx.reta {t : FieldType} (K : Cx l R Z n0 Q own nm bytes maxL (some t) m lv hE G) {v : Value} (hd : decode bytes pc = .ok (.areturn, 1)) (ht : t.isReference = true) (hn : narrow t v = v) (hv : v.isRef = true) (hc : kc ≤ R.cells) (hs : ks ≤ R.slots) (hQ : Q (some v) h lv) : G h kc ks (mkF m pc L (v :: S)) := by
  obtain ⟨p, e, s0, args, below, meth, c, rfl, hx, hby, hml, hown0, hZ0, hret, hlk, hnm, hE0⟩ := K
  intro vm0 n1 hS hn1 hV T locs X eT N
  obtain ⟨fs, hr, hrun, hended, g1, g2, g3, g4⟩ := X.leaveW hS (by rw [eT]; exact hn1) (v := some v) (fun h => by rw [hret] at h; cases h) hlk
  refine ⟨_, _, ?_, hrun, hended, _, _, rfl, ⟨⟨lv, ?_, ?_⟩, N⟩, g1, g2, g3, g4.mono hc hs⟩
  · exact retOut X hx hret hn (Or.inr (Or.inr (Or.inr (Or.inr ⟨rfl, ht, hv⟩)))) (hb hby hd) hr
  · exact LV.warm (s := s0.setVm vm0) hV X.warmed
  · show Q _ T.heap lv
    rw [eT]; exact hQ
theorem Cx.ret0 (K : Cx l R Z n0 Q own nm bytes maxL none m lv hE G) (hd : decode bytes pc = .ok (.return_, 1)) (hc : kc ≤ R.cells) (hs : ks ≤ R.slots) (hQ : Q none h lv) : G h kc ks (mkF m pc L []) := by
  obtain ⟨p, e, s0, args, below, meth, c, rfl, hx, hby, hml, hown0, hZ0, hret, hlk, hnm, hE0⟩ := K
  intro vm0 n1 hS hn1 hV T locs X eT N
  obtain ⟨fs, hr, hrun, hended, g1, g2, g3, g4⟩ := X.leaveW hS (by rw [eT]; exact hn1) (v := none) (fun h => rfl) hlk
  refine ⟨_, _, ?_, hrun, hended, _, _, rfl, ⟨⟨lv, ?_, ?_⟩, N⟩, g1, g2, g3, g4.mono hc hs⟩
  · exact X.returnOut hx hret (hb hby hd) hr
  · exact LV.warm (s := s0.setVm vm0) hV X.warmed
  · show Q _ T.heap lv
    rw [eT]; exact hQ
end Steps
end Jvm.Wv
set_option maxRecDepth 65536
set_option maxHeartbeats 40000000
namespace Jvm.Pilot.@@N@@
open Jvm Jvm.ClassFile Sem Op Lib Jvm.Free Jvm.Stand Jvm.LawKit Jvm.RoadKit Jvm.Wk Bundle Jvm.Pilot.@@N@@.Jvm.D
abbrev HW (a0 : Array Value) (Z : State) : Prop := ∀ d ∈ tables_1, d.before a0 Z = true
abbrev vi (x : Int32) : Slot := .val (.int x)
abbrev vr (x : Addr) : Slot := .val (.ref x)
abbrev vj (x : Int64) : Slot := .val (.long x)
abbrev un : Slot := .unset
abbrev se : Slot := .second
abbrev vn : Slot := .val .null
abbrev B1 : ByteArray := method_5_code
abbrev B2 : ByteArray := prog_11_method_1_code
abbrev B3 : ByteArray := prog_13_method_3_code
abbrev B4 : ByteArray := prog_13_method_11_code
abbrev B5 : ByteArray := prog_13_method_1_code
abbrev B6 : ByteArray := object_method_1_code
abbrev B7 : ByteArray := prog_11_method_2_code
abbrev B8 : ByteArray := prog_11_method_14_code
abbrev B9 : ByteArray := prog_11_method_13_code
abbrev B10 : ByteArray := prog_13_method_8_code
abbrev B11 : ByteArray := prog_13_method_10_code
abbrev B12 : ByteArray := prog_13_method_12_code
abbrev B13 : ByteArray := jdk_65_method_5_code
abbrev B14 : ByteArray := jdk_65_method_30_code
abbrev B15 : ByteArray := jdk_2529_method_12_code
abbrev B16 : ByteArray := jdk_2529_method_13_code
abbrev B17 : ByteArray := jdk_2529_method_15_code
abbrev B18 : ByteArray := jdk_65_method_124_code
abbrev B19 : ByteArray := jdk_29_method_69_code
abbrev B20 : ByteArray := prog_22_method_1_code
abbrev B21 : ByteArray := prog_11_method_3_code
abbrev B22 : ByteArray := prog_11_method_15_code
abbrev B23 : ByteArray := jdk_65_method_54_code
abbrev B24 : ByteArray := jdk_65_method_56_code
abbrev B25 : ByteArray := jdk_92_method_5_code
abbrev B26 : ByteArray := jdk_92_method_6_code
abbrev B27 : ByteArray := jdk_92_method_1_code
abbrev B28 : ByteArray := jdk_65_method_103_code
abbrev B29 : ByteArray := prog_11_method_6_code
abbrev B30 : ByteArray := jdk_92_method_19_code
abbrev B31 : ByteArray := jdk_92_method_15_code
abbrev B32 : ByteArray := jdk_92_method_14_code
abbrev B33 : ByteArray := jdk_92_method_2_code
abbrev B34 : ByteArray := method_3_code
abbrev B35 : ByteArray := method_4_code
abbrev B36 : ByteArray := prog_22_method_2_code
abbrev B37 : ByteArray := prog_22_method_4_code
abbrev B38 : ByteArray := prog_22_method_8_code
abbrev B39 : ByteArray := jdk_92_method_23_code
abbrev B40 : ByteArray := jdk_92_method_3_code
theorem tb {a0 : Array Value} {Z : State} (hw : ∀ d ∈ tables_1, d.before a0 Z = true) {i : Nat} {d : Jvm.Cond} (h : tables_1[i]? = some d) : d.before a0 Z = true := hw _ (List.mem_of_getElem? h)
abbrev sI : String := "com/example/odograph/odograph/model/Instance"
abbrev sR : String := "com/example/odograph/odograph/model/Requests"
abbrev sP : String := "com/example/odograph/odograph/online/Placement"
abbrev sB : String := "java/util/BitSet"
abbrev sW : String := "com/example/odograph/odograph/online/PlacementCoveredPinLaw"
theorem wS_1 {a0 : Array Value} {Z : State} (hw : HW a0 Z) : ∀ a ∈ Bundle.stringAtoms, a.before a0 Z = true := by
 intro a ha
 simp only [Bundle.stringAtoms, List.mem_cons, List.not_mem_nil, or_false] at ha
 rcases ha with rfl | rfl | rfl | rfl | rfl | rfl | rfl
 ·exact tb hw (i:=20) rfl
 ·exact tb hw (i:=21) rfl
 ·exact tb hw (i:=22) rfl
 ·exact tb hw (i:=23) rfl
 ·exact tb hw (i:=24) rfl
 ·exact tb hw (i:=25) rfl
 ·exact tb hw (i:=26) rfl
/-- the three servers in some order -/
def pm (a b c : Int32) : Prop := (a = 0 ∧ b = 1 ∧ c = 2) ∨ (a = 0 ∧ b = 2 ∧ c = 1) ∨ (a = 1 ∧ b = 0 ∧ c = 2) ∨ (a = 1 ∧ b = 2 ∧ c = 0) ∨ (a = 2 ∧ b = 0 ∧ c = 1) ∨ (a = 2 ∧ b = 1 ∧ c = 0)
/-- ds: the values that P holds of, rising -/
def SD (ds : List Int64) (P : Int → Prop) : Prop := (ds.map Int64.toInt).Pairwise (· < ·) ∧ ∀ v, (∃ d ∈ ds, d.toInt = v) ↔ P v
def cpl (us : List Value) (m : Nat) : List Value := us.take m ++ List.replicate (m - us.length) (.long 0)
theorem cpl_eq {us : List Value} {m k : Nat} (hk : k = min us.length m) : (List.replicate m (Value.long 0)).take 0 ++ ((List.range k).map fun t => us.getD (0 + t) (.long 0)) ++ (List.replicate m (Value.long 0)).drop (0 + k) = cpl us m := by
 subst hk
 unfold cpl
 apply List.ext_getElem?
 intro i
 simp only [List.take_zero, List.nil_append, Nat.zero_add, List.drop_replicate]
 by_cases h1 : i < min us.length m
 ·rw [List.getElem?_append_left (by simp [-Int32.toNat_toInt]; omega), List.getElem?_append_left (by simp [-Int32.toNat_toInt]; omega), List.getElem?_map, List.getElem?_range h1, List.getElem?_take]
  have h2 : i < us.length := by omega
  have h3 : i < m := by omega
  simp [h2, h3]
 ·rw [List.getElem?_append_right (by simp [-Int32.toNat_toInt]; omega), List.getElem?_append_right (by simp [-Int32.toNat_toInt]; omega)]
  simp only [List.length_map, List.length_range, List.length_take, List.getElem?_replicate]
  by_cases h3 : i < m
  ·rw [if_pos (by omega), if_pos (by omega)]
  ·rw [if_neg (by omega), if_neg (by omega)]
theorem d1_0 : decode B1 0 = .ok (.iload_n 0, 1) := by decide +kernel
theorem d1_1 : decode B1 1 = .ok (.ifCond .ne 19, 3) := by decide +kernel
theorem d1_20 : decode B1 20 = .ok (.iload_n 0, 1) := by decide +kernel
theorem d1_21 : decode B1 21 = .ok (.iconst 1, 1) := by decide +kernel
theorem d1_22 : decode B1 22 = .ok (.if_icmp .ne 19, 3) := by decide +kernel
theorem d1_41 : decode B1 41 = .ok (.iload_n 0, 1) := by decide +kernel
theorem d1_42 : decode B1 42 = .ok (.iconst 2, 1) := by decide +kernel
theorem d1_43 : decode B1 43 = .ok (.if_icmp .ne 19, 3) := by decide +kernel
theorem d1_62 : decode B1 62 = .ok (.iload_n 0, 1) := by decide +kernel
theorem d1_63 : decode B1 63 = .ok (.iconst 3, 1) := by decide +kernel
theorem d1_64 : decode B1 64 = .ok (.if_icmp .ne 19, 3) := by decide +kernel
theorem d1_83 : decode B1 83 = .ok (.iload_n 0, 1) := by decide +kernel
theorem d1_84 : decode B1 84 = .ok (.iconst 4, 1) := by decide +kernel
theorem d1_85 : decode B1 85 = .ok (.if_icmp .ne 19, 3) := by decide +kernel
theorem d1_104 : decode B1 104 = .ok (.iconst 3, 1) := by decide +kernel
theorem d1_105 : decode B1 105 = .ok (.newarray .int, 2) := by decide +kernel
theorem d1_107 : decode B1 107 = .ok (.dup, 1) := by decide +kernel
theorem d1_108 : decode B1 108 = .ok (.iconst 0, 1) := by decide +kernel
theorem d1_109 : decode B1 109 = .ok (.iconst 2, 1) := by decide +kernel
theorem d1_110 : decode B1 110 = .ok (.iastore, 1) := by decide +kernel
theorem d1_111 : decode B1 111 = .ok (.dup, 1) := by decide +kernel
theorem d1_112 : decode B1 112 = .ok (.iconst 1, 1) := by decide +kernel
theorem d1_113 : decode B1 113 = .ok (.iconst 1, 1) := by decide +kernel
theorem d1_114 : decode B1 114 = .ok (.iastore, 1) := by decide +kernel
theorem d1_115 : decode B1 115 = .ok (.dup, 1) := by decide +kernel
theorem d1_116 : decode B1 116 = .ok (.iconst 2, 1) := by decide +kernel
theorem d1_117 : decode B1 117 = .ok (.iconst 0, 1) := by decide +kernel
theorem d1_118 : decode B1 118 = .ok (.iastore, 1) := by decide +kernel
theorem d1_119 : decode B1 119 = .ok (.areturn, 1) := by decide +kernel
theorem d1_88 : decode B1 88 = .ok (.iconst 3, 1) := by decide +kernel
theorem d1_89 : decode B1 89 = .ok (.newarray .int, 2) := by decide +kernel
theorem d1_91 : decode B1 91 = .ok (.dup, 1) := by decide +kernel
theorem d1_92 : decode B1 92 = .ok (.iconst 0, 1) := by decide +kernel
theorem d1_93 : decode B1 93 = .ok (.iconst 2, 1) := by decide +kernel
theorem d1_94 : decode B1 94 = .ok (.iastore, 1) := by decide +kernel
theorem d1_95 : decode B1 95 = .ok (.dup, 1) := by decide +kernel
theorem d1_96 : decode B1 96 = .ok (.iconst 1, 1) := by decide +kernel
theorem d1_97 : decode B1 97 = .ok (.iconst 0, 1) := by decide +kernel
theorem d1_98 : decode B1 98 = .ok (.iastore, 1) := by decide +kernel
theorem d1_99 : decode B1 99 = .ok (.dup, 1) := by decide +kernel
theorem d1_100 : decode B1 100 = .ok (.iconst 2, 1) := by decide +kernel
theorem d1_101 : decode B1 101 = .ok (.iconst 1, 1) := by decide +kernel
theorem d1_102 : decode B1 102 = .ok (.iastore, 1) := by decide +kernel
theorem d1_103 : decode B1 103 = .ok (.areturn, 1) := by decide +kernel
theorem d1_67 : decode B1 67 = .ok (.iconst 3, 1) := by decide +kernel
theorem d1_68 : decode B1 68 = .ok (.newarray .int, 2) := by decide +kernel
theorem d1_70 : decode B1 70 = .ok (.dup, 1) := by decide +kernel
theorem d1_71 : decode B1 71 = .ok (.iconst 0, 1) := by decide +kernel
theorem d1_72 : decode B1 72 = .ok (.iconst 1, 1) := by decide +kernel
theorem d1_73 : decode B1 73 = .ok (.iastore, 1) := by decide +kernel
theorem d1_74 : decode B1 74 = .ok (.dup, 1) := by decide +kernel
theorem d1_75 : decode B1 75 = .ok (.iconst 1, 1) := by decide +kernel
theorem d1_76 : decode B1 76 = .ok (.iconst 2, 1) := by decide +kernel
theorem d1_77 : decode B1 77 = .ok (.iastore, 1) := by decide +kernel
theorem d1_78 : decode B1 78 = .ok (.dup, 1) := by decide +kernel
theorem d1_79 : decode B1 79 = .ok (.iconst 2, 1) := by decide +kernel
theorem d1_80 : decode B1 80 = .ok (.iconst 0, 1) := by decide +kernel
theorem d1_81 : decode B1 81 = .ok (.iastore, 1) := by decide +kernel
theorem d1_82 : decode B1 82 = .ok (.areturn, 1) := by decide +kernel
theorem d1_46 : decode B1 46 = .ok (.iconst 3, 1) := by decide +kernel
theorem d1_47 : decode B1 47 = .ok (.newarray .int, 2) := by decide +kernel
theorem d1_49 : decode B1 49 = .ok (.dup, 1) := by decide +kernel
theorem d1_50 : decode B1 50 = .ok (.iconst 0, 1) := by decide +kernel
theorem d1_51 : decode B1 51 = .ok (.iconst 1, 1) := by decide +kernel
theorem d1_52 : decode B1 52 = .ok (.iastore, 1) := by decide +kernel
theorem d1_53 : decode B1 53 = .ok (.dup, 1) := by decide +kernel
theorem d1_54 : decode B1 54 = .ok (.iconst 1, 1) := by decide +kernel
theorem d1_55 : decode B1 55 = .ok (.iconst 0, 1) := by decide +kernel
theorem d1_56 : decode B1 56 = .ok (.iastore, 1) := by decide +kernel
theorem d1_57 : decode B1 57 = .ok (.dup, 1) := by decide +kernel
theorem d1_58 : decode B1 58 = .ok (.iconst 2, 1) := by decide +kernel
theorem d1_59 : decode B1 59 = .ok (.iconst 2, 1) := by decide +kernel
theorem d1_60 : decode B1 60 = .ok (.iastore, 1) := by decide +kernel
theorem d1_61 : decode B1 61 = .ok (.areturn, 1) := by decide +kernel
theorem d1_25 : decode B1 25 = .ok (.iconst 3, 1) := by decide +kernel
theorem d1_26 : decode B1 26 = .ok (.newarray .int, 2) := by decide +kernel
theorem d1_28 : decode B1 28 = .ok (.dup, 1) := by decide +kernel
theorem d1_29 : decode B1 29 = .ok (.iconst 0, 1) := by decide +kernel
theorem d1_30 : decode B1 30 = .ok (.iconst 0, 1) := by decide +kernel
theorem d1_31 : decode B1 31 = .ok (.iastore, 1) := by decide +kernel
theorem d1_32 : decode B1 32 = .ok (.dup, 1) := by decide +kernel
theorem d1_33 : decode B1 33 = .ok (.iconst 1, 1) := by decide +kernel
theorem d1_34 : decode B1 34 = .ok (.iconst 2, 1) := by decide +kernel
theorem d1_35 : decode B1 35 = .ok (.iastore, 1) := by decide +kernel
theorem d1_36 : decode B1 36 = .ok (.dup, 1) := by decide +kernel
theorem d1_37 : decode B1 37 = .ok (.iconst 2, 1) := by decide +kernel
theorem d1_38 : decode B1 38 = .ok (.iconst 1, 1) := by decide +kernel
theorem d1_39 : decode B1 39 = .ok (.iastore, 1) := by decide +kernel
theorem d1_40 : decode B1 40 = .ok (.areturn, 1) := by decide +kernel
theorem d1_4 : decode B1 4 = .ok (.iconst 3, 1) := by decide +kernel
theorem d1_5 : decode B1 5 = .ok (.newarray .int, 2) := by decide +kernel
theorem d1_7 : decode B1 7 = .ok (.dup, 1) := by decide +kernel
theorem d1_8 : decode B1 8 = .ok (.iconst 0, 1) := by decide +kernel
theorem d1_9 : decode B1 9 = .ok (.iconst 0, 1) := by decide +kernel
theorem d1_10 : decode B1 10 = .ok (.iastore, 1) := by decide +kernel
theorem d1_11 : decode B1 11 = .ok (.dup, 1) := by decide +kernel
theorem d1_12 : decode B1 12 = .ok (.iconst 1, 1) := by decide +kernel
theorem d1_13 : decode B1 13 = .ok (.iconst 1, 1) := by decide +kernel
theorem d1_14 : decode B1 14 = .ok (.iastore, 1) := by decide +kernel
theorem d1_15 : decode B1 15 = .ok (.dup, 1) := by decide +kernel
theorem d1_16 : decode B1 16 = .ok (.iconst 2, 1) := by decide +kernel
theorem d1_17 : decode B1 17 = .ok (.iconst 2, 1) := by decide +kernel
theorem d1_18 : decode B1 18 = .ok (.iastore, 1) := by decide +kernel
theorem d1_19 : decode B1 19 = .ok (.areturn, 1) := by decide +kernel
theorem pn_com_example_odograph_odograph_online_PlacementCoveredPinLaw : plainName sW = true := by first | (simp [plainName, overriddenIn]; done) | decide +kernel
theorem c_perm (l : Launch) (Z : State) (a0 : Array Value) (hw : HW a0 Z) (n0 : Nat) (h : Heap) (k : Int32) (Z0 : n0 ≤ h.size) (hk : 0 ≤ k.toInt ∧ k.toInt ≤ 5) : MeetsW l Z n0 (⟨sW, "perm", "(I)[I"⟩ : MethodName) B1 1 (some (.array .int)) ({ frames := 0, cells := 1, slots := 3, locals := 0 } : Room) #[(.int k)] h (fun v h' => ∃ (o : Addr) (o0 : Int32) (o1 : Int32) (o2 : Int32), v = some (.ref o) ∧ Keep h h' [] ∧ h.size ≤ o ∧ Ary Z h' o .int [(.int o0), (.int o1), (.int o2)] ∧ (pm o0 o1 o2)) := by
 refine MeetsW.intro (plainFor_of_name pn_com_example_odograph_odograph_online_PlacementCoveredPinLaw) (L0 := #[vi k]) (fun m => rfl) ?_
 intro m G K0
 have K : Cx l ({ frames := 0, cells := 1, slots := 3, locals := 0 } : Room) Z n0 _ sW "perm" B1 1 (some (.array .int)) m G := K0
 have hw5 := tb hw (i:=5) rfl
 refine K.iloadN d1_0 (w':=1) rfl rfl ?_
 refine K.if_ne d1_1 (pc1 := 4) rfl (by decide) (pc2 := 20) (by decide) (a := k.toInt) rfl (fun c1 => ?_) (fun c1 => ?_)
 ·refine K.iloadN d1_20 (w':=21) rfl rfl ?_
  refine K.iconst d1_21 (w':=22) rfl (z := 1) rfl ?_
  refine K.icmp_ne d1_22 (pc1 := 25) rfl (by decide) (pc2 := 41) (by decide) (a := k.toInt) (b := 1) rfl rfl (fun c22 => ?_) (fun c22 => ?_)
  ·refine K.iloadN d1_41 (w':=42) rfl rfl ?_
   refine K.iconst d1_42 (w':=43) rfl (z := 2) rfl ?_
   refine K.icmp_ne d1_43 (pc1 := 46) rfl (by decide) (pc2 := 62) (by decide) (a := k.toInt) (b := 2) rfl rfl (fun c43 => ?_) (fun c43 => ?_)
   ·refine K.iloadN d1_62 (w':=63) rfl rfl ?_
    refine K.iconst d1_63 (w':=64) rfl (z := 3) rfl ?_
    refine K.icmp_ne d1_64 (pc1 := 67) rfl (by decide) (pc2 := 83) (by decide) (a := k.toInt) (b := 3) rfl rfl (fun c64 => ?_) (fun c64 => ?_)
    ·refine K.iloadN d1_83 (w':=84) rfl rfl ?_
     refine K.iconst d1_84 (w':=85) rfl (z := 4) rfl ?_
     refine K.icmp_ne d1_85 (pc1 := 88) rfl (by decide) (pc2 := 104) (by decide) (a := k.toInt) (b := 4) rfl rfl (fun c85 => ?_) (fun c85 => ?_)
     ·refine K.iconst d1_104 (w':=105) rfl (z := 3) rfl ?_
      refine K.newa d1_105 (w':=107) rfl hw5 (k := 3) (cap := 3) rfl (by decide) (by decide) (by decide) (by decide) (ad := "[I") (by decide) (fun h_2 a_1 g_a_1 E_3 A_4 x_a_1 => ?_)
      have ge_a_1 : n0 ≤ a_1 := g_a_1 ▸ Z0
      have sb_a_1 : h.size ≤ a_1 := g_a_1 ▸ (Nat.le_refl _)
      have A_5 : Ary Z h_2 a_1 .int [(.int 0), (.int 0), (.int 0)] := A_4
      refine K.dup d1_107 (w':=108) rfl rfl ?_
      refine K.iconst d1_108 (w':=109) rfl (z := 0) rfl ?_
      refine K.iconst d1_109 (w':=110) rfl (z := 2) rfl ?_
      refine K.iast d1_110 (w':=111) rfl A_5 (i := 0) rfl (show 0 < 3 by decide) ge_a_1 (fun h_6 W_7 A_8 => ?_)
      have A_9 : Ary Z h_6 a_1 .int [(.int 2), (.int 0), (.int 0)] := A_8
      refine K.dup d1_111 (w':=112) rfl rfl ?_
      refine K.iconst d1_112 (w':=113) rfl (z := 1) rfl ?_
      refine K.iconst d1_113 (w':=114) rfl (z := 1) rfl ?_
      refine K.iast d1_114 (w':=115) rfl A_9 (i := 1) rfl (show 1 < 3 by decide) ge_a_1 (fun h_10 W_11 A_12 => ?_)
      have A_13 : Ary Z h_10 a_1 .int [(.int 2), (.int 1), (.int 0)] := A_12
      refine K.dup d1_115 (w':=116) rfl rfl ?_
      refine K.iconst d1_116 (w':=117) rfl (z := 2) rfl ?_
      refine K.iconst d1_117 (w':=118) rfl (z := 0) rfl ?_
      refine K.iast d1_118 (w':=119) rfl A_13 (i := 2) rfl (show 2 < 3 by decide) ge_a_1 (fun h_14 W_15 A_16 => ?_)
      have A_17 : Ary Z h_14 a_1 .int [(.int 2), (.int 1), (.int 0)] := A_16
      exact K.reta d1_119 rfl rfl rfl (by decide) (by decide) ⟨a_1, (2 : Int32), (1 : Int32), (0 : Int32), rfl, (((((Keep.refl h []).ext E_3).wr W_7 (Or.inr sb_a_1)).wr W_11 (Or.inr sb_a_1)).wr W_15 (Or.inr sb_a_1)), sb_a_1, A_17, by unfold pm; decide⟩
     ·refine K.iconst d1_88 (w':=89) rfl (z := 3) rfl ?_
      refine K.newa d1_89 (w':=91) rfl hw5 (k := 3) (cap := 3) rfl (by decide) (by decide) (by decide) (by decide) (ad := "[I") (by decide) (fun h_19 a_18 g_a_18 E_20 A_21 x_a_18 => ?_)
      have ge_a_18 : n0 ≤ a_18 := g_a_18 ▸ Z0
      have sb_a_18 : h.size ≤ a_18 := g_a_18 ▸ (Nat.le_refl _)
      have A_22 : Ary Z h_19 a_18 .int [(.int 0), (.int 0), (.int 0)] := A_21
      refine K.dup d1_91 (w':=92) rfl rfl ?_
      refine K.iconst d1_92 (w':=93) rfl (z := 0) rfl ?_
      refine K.iconst d1_93 (w':=94) rfl (z := 2) rfl ?_
      refine K.iast d1_94 (w':=95) rfl A_22 (i := 0) rfl (show 0 < 3 by decide) ge_a_18 (fun h_23 W_24 A_25 => ?_)
      have A_26 : Ary Z h_23 a_18 .int [(.int 2), (.int 0), (.int 0)] := A_25
      refine K.dup d1_95 (w':=96) rfl rfl ?_
      refine K.iconst d1_96 (w':=97) rfl (z := 1) rfl ?_
      refine K.iconst d1_97 (w':=98) rfl (z := 0) rfl ?_
      refine K.iast d1_98 (w':=99) rfl A_26 (i := 1) rfl (show 1 < 3 by decide) ge_a_18 (fun h_27 W_28 A_29 => ?_)
      have A_30 : Ary Z h_27 a_18 .int [(.int 2), (.int 0), (.int 0)] := A_29
      refine K.dup d1_99 (w':=100) rfl rfl ?_
      refine K.iconst d1_100 (w':=101) rfl (z := 2) rfl ?_
      refine K.iconst d1_101 (w':=102) rfl (z := 1) rfl ?_
      refine K.iast d1_102 (w':=103) rfl A_30 (i := 2) rfl (show 2 < 3 by decide) ge_a_18 (fun h_31 W_32 A_33 => ?_)
      have A_34 : Ary Z h_31 a_18 .int [(.int 2), (.int 0), (.int 1)] := A_33
      exact K.reta d1_103 rfl rfl rfl (by decide) (by decide) ⟨a_18, (2 : Int32), (0 : Int32), (1 : Int32), rfl, (((((Keep.refl h []).ext E_20).wr W_24 (Or.inr sb_a_18)).wr W_28 (Or.inr sb_a_18)).wr W_32 (Or.inr sb_a_18)), sb_a_18, A_34, by unfold pm; decide⟩
    ·refine K.iconst d1_67 (w':=68) rfl (z := 3) rfl ?_
     refine K.newa d1_68 (w':=70) rfl hw5 (k := 3) (cap := 3) rfl (by decide) (by decide) (by decide) (by decide) (ad := "[I") (by decide) (fun h_36 a_35 g_a_35 E_37 A_38 x_a_35 => ?_)
     have ge_a_35 : n0 ≤ a_35 := g_a_35 ▸ Z0
     have sb_a_35 : h.size ≤ a_35 := g_a_35 ▸ (Nat.le_refl _)
     have A_39 : Ary Z h_36 a_35 .int [(.int 0), (.int 0), (.int 0)] := A_38
     refine K.dup d1_70 (w':=71) rfl rfl ?_
     refine K.iconst d1_71 (w':=72) rfl (z := 0) rfl ?_
     refine K.iconst d1_72 (w':=73) rfl (z := 1) rfl ?_
     refine K.iast d1_73 (w':=74) rfl A_39 (i := 0) rfl (show 0 < 3 by decide) ge_a_35 (fun h_40 W_41 A_42 => ?_)
     have A_43 : Ary Z h_40 a_35 .int [(.int 1), (.int 0), (.int 0)] := A_42
     refine K.dup d1_74 (w':=75) rfl rfl ?_
     refine K.iconst d1_75 (w':=76) rfl (z := 1) rfl ?_
     refine K.iconst d1_76 (w':=77) rfl (z := 2) rfl ?_
     refine K.iast d1_77 (w':=78) rfl A_43 (i := 1) rfl (show 1 < 3 by decide) ge_a_35 (fun h_44 W_45 A_46 => ?_)
     have A_47 : Ary Z h_44 a_35 .int [(.int 1), (.int 2), (.int 0)] := A_46
     refine K.dup d1_78 (w':=79) rfl rfl ?_
     refine K.iconst d1_79 (w':=80) rfl (z := 2) rfl ?_
     refine K.iconst d1_80 (w':=81) rfl (z := 0) rfl ?_
     refine K.iast d1_81 (w':=82) rfl A_47 (i := 2) rfl (show 2 < 3 by decide) ge_a_35 (fun h_48 W_49 A_50 => ?_)
     have A_51 : Ary Z h_48 a_35 .int [(.int 1), (.int 2), (.int 0)] := A_50
     exact K.reta d1_82 rfl rfl rfl (by decide) (by decide) ⟨a_35, (1 : Int32), (2 : Int32), (0 : Int32), rfl, (((((Keep.refl h []).ext E_37).wr W_41 (Or.inr sb_a_35)).wr W_45 (Or.inr sb_a_35)).wr W_49 (Or.inr sb_a_35)), sb_a_35, A_51, by unfold pm; decide⟩
   ·refine K.iconst d1_46 (w':=47) rfl (z := 3) rfl ?_
    refine K.newa d1_47 (w':=49) rfl hw5 (k := 3) (cap := 3) rfl (by decide) (by decide) (by decide) (by decide) (ad := "[I") (by decide) (fun h_53 a_52 g_a_52 E_54 A_55 x_a_52 => ?_)
    have ge_a_52 : n0 ≤ a_52 := g_a_52 ▸ Z0
    have sb_a_52 : h.size ≤ a_52 := g_a_52 ▸ (Nat.le_refl _)
    have A_56 : Ary Z h_53 a_52 .int [(.int 0), (.int 0), (.int 0)] := A_55
    refine K.dup d1_49 (w':=50) rfl rfl ?_
    refine K.iconst d1_50 (w':=51) rfl (z := 0) rfl ?_
    refine K.iconst d1_51 (w':=52) rfl (z := 1) rfl ?_
    refine K.iast d1_52 (w':=53) rfl A_56 (i := 0) rfl (show 0 < 3 by decide) ge_a_52 (fun h_57 W_58 A_59 => ?_)
    have A_60 : Ary Z h_57 a_52 .int [(.int 1), (.int 0), (.int 0)] := A_59
    refine K.dup d1_53 (w':=54) rfl rfl ?_
    refine K.iconst d1_54 (w':=55) rfl (z := 1) rfl ?_
    refine K.iconst d1_55 (w':=56) rfl (z := 0) rfl ?_
    refine K.iast d1_56 (w':=57) rfl A_60 (i := 1) rfl (show 1 < 3 by decide) ge_a_52 (fun h_61 W_62 A_63 => ?_)
    have A_64 : Ary Z h_61 a_52 .int [(.int 1), (.int 0), (.int 0)] := A_63
    refine K.dup d1_57 (w':=58) rfl rfl ?_
    refine K.iconst d1_58 (w':=59) rfl (z := 2) rfl ?_
    refine K.iconst d1_59 (w':=60) rfl (z := 2) rfl ?_
    refine K.iast d1_60 (w':=61) rfl A_64 (i := 2) rfl (show 2 < 3 by decide) ge_a_52 (fun h_65 W_66 A_67 => ?_)
    have A_68 : Ary Z h_65 a_52 .int [(.int 1), (.int 0), (.int 2)] := A_67
    exact K.reta d1_61 rfl rfl rfl (by decide) (by decide) ⟨a_52, (1 : Int32), (0 : Int32), (2 : Int32), rfl, (((((Keep.refl h []).ext E_54).wr W_58 (Or.inr sb_a_52)).wr W_62 (Or.inr sb_a_52)).wr W_66 (Or.inr sb_a_52)), sb_a_52, A_68, by unfold pm; decide⟩
  ·refine K.iconst d1_25 (w':=26) rfl (z := 3) rfl ?_
   refine K.newa d1_26 (w':=28) rfl hw5 (k := 3) (cap := 3) rfl (by decide) (by decide) (by decide) (by decide) (ad := "[I") (by decide) (fun h_70 a_69 g_a_69 E_71 A_72 x_a_69 => ?_)
   have ge_a_69 : n0 ≤ a_69 := g_a_69 ▸ Z0
   have sb_a_69 : h.size ≤ a_69 := g_a_69 ▸ (Nat.le_refl _)
   have A_73 : Ary Z h_70 a_69 .int [(.int 0), (.int 0), (.int 0)] := A_72
   refine K.dup d1_28 (w':=29) rfl rfl ?_
   refine K.iconst d1_29 (w':=30) rfl (z := 0) rfl ?_
   refine K.iconst d1_30 (w':=31) rfl (z := 0) rfl ?_
   refine K.iast d1_31 (w':=32) rfl A_73 (i := 0) rfl (show 0 < 3 by decide) ge_a_69 (fun h_74 W_75 A_76 => ?_)
   have A_77 : Ary Z h_74 a_69 .int [(.int 0), (.int 0), (.int 0)] := A_76
   refine K.dup d1_32 (w':=33) rfl rfl ?_
   refine K.iconst d1_33 (w':=34) rfl (z := 1) rfl ?_
   refine K.iconst d1_34 (w':=35) rfl (z := 2) rfl ?_
   refine K.iast d1_35 (w':=36) rfl A_77 (i := 1) rfl (show 1 < 3 by decide) ge_a_69 (fun h_78 W_79 A_80 => ?_)
   have A_81 : Ary Z h_78 a_69 .int [(.int 0), (.int 2), (.int 0)] := A_80
   refine K.dup d1_36 (w':=37) rfl rfl ?_
   refine K.iconst d1_37 (w':=38) rfl (z := 2) rfl ?_
   refine K.iconst d1_38 (w':=39) rfl (z := 1) rfl ?_
   refine K.iast d1_39 (w':=40) rfl A_81 (i := 2) rfl (show 2 < 3 by decide) ge_a_69 (fun h_82 W_83 A_84 => ?_)
   have A_85 : Ary Z h_82 a_69 .int [(.int 0), (.int 2), (.int 1)] := A_84
   exact K.reta d1_40 rfl rfl rfl (by decide) (by decide) ⟨a_69, (0 : Int32), (2 : Int32), (1 : Int32), rfl, (((((Keep.refl h []).ext E_71).wr W_75 (Or.inr sb_a_69)).wr W_79 (Or.inr sb_a_69)).wr W_83 (Or.inr sb_a_69)), sb_a_69, A_85, by unfold pm; decide⟩
 ·refine K.iconst d1_4 (w':=5) rfl (z := 3) rfl ?_
  refine K.newa d1_5 (w':=7) rfl hw5 (k := 3) (cap := 3) rfl (by decide) (by decide) (by decide) (by decide) (ad := "[I") (by decide) (fun h_87 a_86 g_a_86 E_88 A_89 x_a_86 => ?_)
  have ge_a_86 : n0 ≤ a_86 := g_a_86 ▸ Z0
  have sb_a_86 : h.size ≤ a_86 := g_a_86 ▸ (Nat.le_refl _)
  have A_90 : Ary Z h_87 a_86 .int [(.int 0), (.int 0), (.int 0)] := A_89
  refine K.dup d1_7 (w':=8) rfl rfl ?_
  refine K.iconst d1_8 (w':=9) rfl (z := 0) rfl ?_
  refine K.iconst d1_9 (w':=10) rfl (z := 0) rfl ?_
  refine K.iast d1_10 (w':=11) rfl A_90 (i := 0) rfl (show 0 < 3 by decide) ge_a_86 (fun h_91 W_92 A_93 => ?_)
  have A_94 : Ary Z h_91 a_86 .int [(.int 0), (.int 0), (.int 0)] := A_93
  refine K.dup d1_11 (w':=12) rfl rfl ?_
  refine K.iconst d1_12 (w':=13) rfl (z := 1) rfl ?_
  refine K.iconst d1_13 (w':=14) rfl (z := 1) rfl ?_
  refine K.iast d1_14 (w':=15) rfl A_94 (i := 1) rfl (show 1 < 3 by decide) ge_a_86 (fun h_95 W_96 A_97 => ?_)
  have A_98 : Ary Z h_95 a_86 .int [(.int 0), (.int 1), (.int 0)] := A_97
  refine K.dup d1_15 (w':=16) rfl rfl ?_
  refine K.iconst d1_16 (w':=17) rfl (z := 2) rfl ?_
  refine K.iconst d1_17 (w':=18) rfl (z := 2) rfl ?_
  refine K.iast d1_18 (w':=19) rfl A_98 (i := 2) rfl (show 2 < 3 by decide) ge_a_86 (fun h_99 W_100 A_101 => ?_)
  have A_102 : Ary Z h_99 a_86 .int [(.int 0), (.int 1), (.int 2)] := A_101
  exact K.reta d1_19 rfl rfl rfl (by decide) (by decide) ⟨a_86, (0 : Int32), (1 : Int32), (2 : Int32), rfl, (((((Keep.refl h []).ext E_88).wr W_92 (Or.inr sb_a_86)).wr W_96 (Or.inr sb_a_86)).wr W_100 (Or.inr sb_a_86)), sb_a_86, A_102, by unfold pm; decide⟩
theorem d4_0 : decode B4 0 = .ok (.lload_n 0, 1) := by decide +kernel
theorem d4_1 : decode B4 1 = .ok (.lconst 0, 1) := by decide +kernel
theorem d4_2 : decode B4 2 = .ok (.lcmp, 1) := by decide +kernel
theorem d4_3 : decode B4 3 = .ok (.ifCond .ge 40, 3) := by decide +kernel
theorem d4_43 : decode B4 43 = .ok (.return_, 1) := by decide +kernel
theorem pn_com_example_odograph_odograph_model_Requests : plainName sR = true := by first | (simp [plainName, overriddenIn]; done) | decide +kernel
theorem c_req (l : Launch) (Z : State) (a0 : Array Value) (hw : HW a0 Z) (n0 : Nat) (h : Heap) (p : Int64) (s : Addr) (hp : 0 ≤ p.toInt) : MeetsW l Z n0 (⟨sR, "requirePoint", "(JLjava/lang/String;)V"⟩ : MethodName) B4 3 none ({ frames := 0, cells := 0, slots := 0, locals := 0 } : Room) #[(.long p), (.ref s)] h (fun v h' => v = none ∧ h = h') := by
 refine MeetsW.intro (plainFor_of_name pn_com_example_odograph_odograph_model_Requests) (L0 := #[vj p, se, vr s]) (fun m => rfl) ?_
 intro m G K0
 have K : Cx l ({ frames := 0, cells := 0, slots := 0, locals := 0 } : Room) Z n0 _ sR "requirePoint" B4 3 none m G := K0
 refine K.lloadN d4_0 (w':=1) rfl rfl ?_
 refine K.lconst d4_1 (w':=2) rfl (z := 0) rfl ?_
 refine K.lcmp_ge d4_2 d4_3 (pc1 := 6) rfl (by decide) (pc2 := 43) (by decide) (a := p.toInt) (b := 0) rfl rfl (fun c2 => ?_) (fun c2 => ?_)
 ·exact K.ret0 d4_43 (by decide) (by decide) ⟨rfl, rfl⟩
 ·exfalso; omega
theorem d5_0 : decode B5 0 = .ok (.aload_n 0, 1) := by decide +kernel
theorem d5_1 : decode B5 1 = .ok (.invokespecial 3, 3) := by decide +kernel
theorem d5_4 : decode B5 4 = .ok (.aload_n 0, 1) := by decide +kernel
theorem d5_5 : decode B5 5 = .ok (.aload_n 1, 1) := by decide +kernel
theorem d5_6 : decode B5 6 = .ok (.putfield 9, 3) := by decide +kernel
theorem d5_9 : decode B5 9 = .ok (.aload_n 0, 1) := by decide +kernel
theorem d5_10 : decode B5 10 = .ok (.aload_n 2, 1) := by decide +kernel
theorem d5_11 : decode B5 11 = .ok (.putfield 15, 3) := by decide +kernel
theorem d5_14 : decode B5 14 = .ok (.return_, 1) := by decide +kernel
theorem c_rqi (l : Launch) (Z : State) (a0 : Array Value) (hw : HW a0 Z) (n0 : Nat) (h : Heap) (a : Addr) (b : Addr) (c : Addr) (P1 : Exa Z h a sR) (P2 : n0 ≤ a) (P3 : Fld Z h a sR "points" "[J" .null) (P4 : Fld Z h a sR "bounds" "[I" .null) : MeetsW l Z n0 (⟨sR, "<init>", "([J[I)V"⟩ : MethodName) B5 3 none ({ frames := 1, cells := 0, slots := 0, locals := 12 } : Room) #[(.ref a), (.ref b), (.ref c)] h (fun v h' => v = none ∧ Keep h h' [a] ∧ Fld Z h' a sR "points" "[J" (.ref b)) := by
 refine MeetsW.intro (plainFor_of_name pn_com_example_odograph_odograph_model_Requests) (L0 := #[vr a, vr b, vr c]) (fun m => rfl) ?_
 intro m G K0
 have K : Cx l ({ frames := 1, cells := 0, slots := 0, locals := 12 } : Room) Z n0 _ sR "<init>" B5 3 none m G := K0
 have hw31 := tb hw (i:=31) rfl
 have hw44 := tb hw (i:=44) rfl
 have hw45 := tb hw (i:=45) rfl
 have hw46 := tb hw (i:=46) rfl
 have hw47 := tb hw (i:=47) rfl
 have hw48 := tb hw (i:=48) rfl
 have hw49 := tb hw (i:=49) rfl
 have hw50 := tb hw (i:=50) rfl
 refine K.aloadN d5_0 (w':=1) rfl rfl rfl ?_
 refine K.init0 d5_1 (w':=4) rfl hw44 hw45 hw46 rfl (by decide) (W := 0) (Nat.le_refl _) (by decide) ?_
 refine K.aloadN d5_4 (w':=5) rfl rfl rfl ?_
 refine K.aloadN d5_5 (w':=6) rfl rfl rfl ?_
 refine K.putf d5_6 (w':=9) rfl (host := "") (Or.inl hw47) Via.refl P3 P1 (Or.inr ⟨hw48, rfl, rfl⟩) hw31 (ty := (.array .long)) (by decide) rfl rfl P2 (fun h_1 W_2 => ?_)
 have f_3 := P3.same W_2
 have f_4 := P4.other W_2 (Or.inr (slot_ne (Or.inr hw50) (Or.inr hw48) (by decide) (t := (.array .int)) (t' := (.array .long)) (by decide) (by decide)))
 refine K.aloadN d5_9 (w':=10) rfl rfl rfl ?_
 refine K.aloadN d5_10 (w':=11) rfl rfl rfl ?_
 have f_5 := (P1.wr W_2)
 refine K.putf d5_11 (w':=14) rfl (host := "") (Or.inl hw49) Via.refl f_4 f_5 (Or.inr ⟨hw50, rfl, rfl⟩) hw31 (ty := (.array .int)) (by decide) rfl rfl P2 (fun h_6 W_7 => ?_)
 have f_8 := f_3.other W_7 (Or.inr (slot_ne (Or.inr hw48) (Or.inr hw50) (by decide) (t := (.array .long)) (t' := (.array .int)) (by decide) (by decide)))
 have f_9 := f_4.same W_7
 exact K.ret0 d5_14 (by decide) (by decide) ⟨rfl, (((Keep.refl h [a]).wr W_2 (Or.inl (by simp))).wr W_7 (Or.inl (by simp))), f_8⟩
theorem d3_0 : decode B3 0 = .ok (.aload_n 0, 1) := by decide +kernel
theorem d3_1 : decode B3 1 = .ok (.arraylength, 1) := by decide +kernel
theorem d3_2 : decode B3 2 = .ok (.iconst 1, 1) := by decide +kernel
theorem d3_3 : decode B3 3 = .ok (.iadd, 1) := by decide +kernel
theorem d3_4 : decode B3 4 = .ok (.newarray .int, 2) := by decide +kernel
theorem d3_6 : decode B3 6 = .ok (.astore_n 1, 1) := by decide +kernel
theorem d3_7 : decode B3 7 = .ok (.iconst 0, 1) := by decide +kernel
theorem d3_8 : decode B3 8 = .ok (.istore_n 2, 1) := by decide +kernel
theorem d3_9 : decode B3 9 = .ok (.iload_n 2, 1) := by decide +kernel
theorem d3_10 : decode B3 10 = .ok (.aload_n 0, 1) := by decide +kernel
theorem d3_11 : decode B3 11 = .ok (.arraylength, 1) := by decide +kernel
theorem d3_12 : decode B3 12 = .ok (.if_icmp .ge 25, 3) := by decide +kernel
theorem d3_15 : decode B3 15 = .ok (.aload_n 0, 1) := by decide +kernel
theorem d3_16 : decode B3 16 = .ok (.iload_n 2, 1) := by decide +kernel
theorem d3_17 : decode B3 17 = .ok (.laload, 1) := by decide +kernel
theorem d3_18 : decode B3 18 = .ok (.ldc 34, 2) := by decide +kernel
theorem d3_20 : decode B3 20 = .ok (.invokestatic 36, 3) := by decide +kernel
theorem pd_0 : parseMethodDescriptor "(JLjava/lang/String;)V" = some ⟨[.long, (.object "java/lang/String")], none⟩ := by decide +kernel
theorem d3_23 : decode B3 23 = .ok (.aload_n 1, 1) := by decide +kernel
theorem d3_24 : decode B3 24 = .ok (.iload_n 2, 1) := by decide +kernel
theorem d3_25 : decode B3 25 = .ok (.iconst 1, 1) := by decide +kernel
theorem d3_26 : decode B3 26 = .ok (.iadd, 1) := by decide +kernel
theorem d3_27 : decode B3 27 = .ok (.iload_n 2, 1) := by decide +kernel
theorem d3_28 : decode B3 28 = .ok (.iconst 1, 1) := by decide +kernel
theorem d3_29 : decode B3 29 = .ok (.iadd, 1) := by decide +kernel
theorem d3_30 : decode B3 30 = .ok (.iastore, 1) := by decide +kernel
theorem d3_31 : decode B3 31 = .ok (.iinc 2 1, 3) := by decide +kernel
theorem d3_34 : decode B3 34 = .ok (.goto (-25), 3) := by decide +kernel
theorem d3_37 : decode B3 37 = .ok (.new 10, 3) := by decide +kernel
theorem d3_40 : decode B3 40 = .ok (.dup, 1) := by decide +kernel
theorem d3_41 : decode B3 41 = .ok (.aload_n 0, 1) := by decide +kernel
theorem d3_42 : decode B3 42 = .ok (.invokevirtual 40, 3) := by decide +kernel
theorem d3_45 : decode B3 45 = .ok (.checkcast 41, 3) := by decide +kernel
theorem d3_48 : decode B3 48 = .ok (.aload_n 1, 1) := by decide +kernel
theorem d3_49 : decode B3 49 = .ok (.invokespecial 45, 3) := by decide +kernel
theorem pd_1 : parseMethodDescriptor "([J[I)V" = some ⟨[(.array .long), (.array .int)], none⟩ := by decide +kernel
theorem d3_52 : decode B3 52 = .ok (.areturn, 1) := by decide +kernel
theorem c_ofp (l : Launch) (Z : State) (a0 : Array Value) (hw : HW a0 Z) (n0 : Nat) (h : Heap) (a : Addr) (r0 : Int64) (r1 : Int64) (lv0 : Option Addr) (Z0 : n0 ≤ h.size) (P2 : Ary Z h a .long [(.long r0), (.long r1)]) (P3 : Exa Z h a "[J") (hr0 : 0 ≤ r0.toInt) (hr1 : 0 ≤ r1.toInt) : Jvm.Wv.MeetsV l Z n0 (⟨sR, "ofPoints", "([J)Lcom/example/odograph/odograph/model/Requests;"⟩ : MethodName) B3 3 (some (.object sR)) ({ frames := 2, cells := 7, slots := 71, locals := 27 } : Room) #[(.ref a)] h lv0 (fun v h' lv' => ∃ (o : Addr) (d : Addr), v = some (.ref o) ∧ Keep h h' [] ∧ h.size ≤ o ∧ h.size ≤ d ∧ Exa Z h' o sR ∧ Fld Z h' o sR "points" "[J" (.ref d) ∧ Ary Z h' d .long [(.long r0), (.long r1)] ∧ Exa Z h' d "[J") := by
 refine Jvm.Wv.MeetsV.intro (plainFor_of_name pn_com_example_odograph_odograph_model_Requests) (L0 := #[vr a, un, un]) (fun m => rfl) ?_
 intro m G K0
 have K : Jvm.Wv.Cx l ({ frames := 2, cells := 7, slots := 71, locals := 27 } : Room) Z n0 _ sR "ofPoints" B3 3 (some (.object sR)) m lv0 h G := K0
 have hw5 := tb hw (i:=5) rfl
 have hw17 := tb hw (i:=17) rfl
 have hw19 := tb hw (i:=19) rfl
 have hw27 := tb hw (i:=27) rfl
 have hw28 := tb hw (i:=28) rfl
 have hw29 := tb hw (i:=29) rfl
 have hw30 := tb hw (i:=30) rfl
 have hw31 := tb hw (i:=31) rfl
 have hw32 := tb hw (i:=32) rfl
 have hw33 := tb hw (i:=33) rfl
 have hw35 := tb hw (i:=35) rfl
 have hw36 := tb hw (i:=36) rfl
 have hw37 := tb hw (i:=37) rfl
 have hw38 := tb hw (i:=38) rfl
 have hw39 := tb hw (i:=39) rfl
 have hw41 := tb hw (i:=41) rfl
 have hw42 := tb hw (i:=42) rfl
 have hw43 := tb hw (i:=43) rfl
 have hw48 := tb hw (i:=48) rfl
 have hw50 := tb hw (i:=50) rfl
 refine K.aloadN d3_0 (w':=1) rfl rfl rfl ?_
 refine K.alen d3_1 (w':=2) rfl P2 (fun z1 e_z1 => ?_)
 have t_z1 : z1.toInt = 2 := e_z1
 refine K.iconst d3_2 (w':=3) rfl (z := 1) rfl ?_
 obtain ⟨n, e_n⟩ : ∃ z, z1 + (1 : Int32) = z := ⟨_, rfl⟩
 have r_n : (n.toInt - (z1.toInt + 1)) % 4294967296 = 0 := by have q := c_iadd z1 (1 : Int32); rw [e_n] at q; exact q
 have g_n := rng32 n
 have t_n : n.toInt = 3 := by omega
 clear r_n
 clear g_n
 refine K.iadd d3_3 (w':=4) rfl e_n ?_
 have cs_n : n = 3 := by
  have q : n.toInt = 3 := by omega
  rcases q with q
  ·exact eqI q
 rcases cs_n with rfl
 ·refine K.newa d3_4 (w':=6) rfl hw5 (k := 3) (cap := 3) rfl (by decide) (by decide) (by decide) (by decide) (ad := "[I") (by decide) (fun h_2 a_1 g_a_1 E_3 A_4 x_a_1 => ?_)
  have ge_a_1 : n0 ≤ a_1 := g_a_1 ▸ Z0
  have sb_a_1 : h.size ≤ a_1 := g_a_1 ▸ (Nat.le_refl _)
  have A_5 : Ary Z h_2 a_1 .int [(.int 0), (.int 0), (.int 0)] := A_4
  refine K.astoreN d3_6 (w':=7) rfl rfl (L' := #[vr a, vr a_1, un]) rfl ?_
  refine K.iconst d3_7 (w':=8) rfl (z := 0) rfl ?_
  refine K.istoreN d3_8 (w':=9) rfl (L' := #[vr a, vr a_1, vi 0]) rfl ?_
  refine K.iloadN d3_9 (w':=10) rfl rfl ?_
  refine K.aloadN d3_10 (w':=11) rfl rfl rfl ?_
  have f_6 := (P2.ext E_3)
  refine K.alen d3_11 (w':=12) rfl f_6 (fun z11 e_z11 => ?_)
  have t_z11 : z11.toInt = 2 := e_z11
  refine K.icmp_ge d3_12 (pc1 := 15) rfl (by decide) (pc2 := 37) (by decide) (a := 0) (b := z11.toInt) rfl rfl (fun c12 => ?_) (fun c12 => ?_)
  ·exfalso; (have o0 : (0 : Int32).toInt = 0 := rfl; have o1 : (1 : Int32).toInt = 1 := rfl; have o2 : (2 : Int32).toInt = 2 := rfl; have o3 : (3 : Int32).toInt = 3 := rfl; omega)
  ·refine K.aloadN d3_15 (w':=16) rfl rfl rfl ?_
   refine K.iloadN d3_16 (w':=17) rfl rfl ?_
   refine K.lald d3_17 (w':=18) rfl f_6 (i := 0) rfl rfl ?_
   refine K.ldcSA (n := 28) d3_18 (w':=20) rfl hw19 (wS_1 hw) (by decide) (by decide) (by decide) (by decide) (fun h_7 la_9 E_8 => ?_)
   show G h_7 3 35 (mkF m 20 #[vr a, vr a_1, vi 0] [(.ref la_9), (.long r0)])
   refine K.calls (argsL := [(.long r0), (.ref la_9)]) (rest := []) d3_20 (w':=23) rfl (c_req l Z a0 hw n0 h_7 (p := r0) (s := la_9) (by omega)) hw27 hw28 hw17 hw29 (by decide) pd_0 rfl rfl (W := 0) (Nat.le_refl _) (by decide) (by decide) (by decide) (by decide) (fun v_12 h_10 q_11 => ?_)
   obtain ⟨rfl, rfl⟩ := q_11
   show G h_7 3 35 (mkF m 23 #[vr a, vr a_1, vi 0] [])
   refine K.aloadN d3_23 (w':=24) rfl rfl rfl ?_
   refine K.iloadN d3_24 (w':=25) rfl rfl ?_
   refine K.iconst d3_25 (w':=26) rfl (z := 1) rfl ?_
   refine K.iadd d3_26 (w':=27) rfl (z := (1 : Int32)) (by decide) ?_
   refine K.iloadN d3_27 (w':=28) rfl rfl ?_
   refine K.iconst d3_28 (w':=29) rfl (z := 1) rfl ?_
   refine K.iadd d3_29 (w':=30) rfl (z := (1 : Int32)) (by decide) ?_
   have f_14 := (A_5.ext E_8)
   refine K.iast d3_30 (w':=31) rfl f_14 (i := 1) rfl (show 1 < 3 by decide) ge_a_1 (fun h_15 W_16 A_17 => ?_)
   have A_18 : Ary Z h_15 a_1 .int [(.int 0), (.int 1), (.int 0)] := A_17
   refine K.iinc d3_31 (w':=34) rfl rfl (z := (1 : Int32)) rfl (L' := #[vr a, vr a_1, vi 1]) rfl ?_
   refine K.goto d3_34 (by decide) (w':=9) (by decide) ?_
   refine K.iloadN d3_9 (w':=10) rfl rfl ?_
   refine K.aloadN d3_10 (w':=11) rfl rfl rfl ?_
   have ne_19 := (Nat.ne_of_lt (Nat.lt_of_lt_of_le P2.lt (Nat.le_trans (Nat.le_refl _) (Nat.le_of_eq g_a_1.symm))))
   have f_20 := ((f_6.ext E_8).other W_16 ne_19)
   refine K.alen d3_11 (w':=12) rfl f_20 (fun z11_1 e_z11_1 => ?_)
   have t_z11_1 : z11_1.toInt = 2 := e_z11_1
   refine K.icmp_ge d3_12 (pc1 := 15) rfl (by decide) (pc2 := 37) (by decide) (a := 1) (b := z11_1.toInt) rfl rfl (fun c12_1 => ?_) (fun c12_1 => ?_)
   ·exfalso; (have o0 : (0 : Int32).toInt = 0 := rfl; have o1 : (1 : Int32).toInt = 1 := rfl; have o2 : (2 : Int32).toInt = 2 := rfl; have o3 : (3 : Int32).toInt = 3 := rfl; omega)
   ·refine K.aloadN d3_15 (w':=16) rfl rfl rfl ?_
    refine K.iloadN d3_16 (w':=17) rfl rfl ?_
    refine K.lald d3_17 (w':=18) rfl f_20 (i := 1) rfl rfl ?_
    refine K.ldcSA (n := 28) d3_18 (w':=20) rfl hw19 (wS_1 hw) (by decide) (by decide) (by decide) (by decide) (fun h_21 la_23 E_22 => ?_)
    show G h_21 5 67 (mkF m 20 #[vr a, vr a_1, vi 1] [(.ref la_23), (.long r1)])
    refine K.calls (argsL := [(.long r1), (.ref la_23)]) (rest := []) d3_20 (w':=23) rfl (c_req l Z a0 hw n0 h_21 (p := r1) (s := la_23) (by omega)) hw27 hw28 hw17 hw29 (by decide) pd_0 rfl rfl (W := 0) (Nat.le_refl _) (by decide) (by decide) (by decide) (by decide) (fun v_26 h_24 q_25 => ?_)
    obtain ⟨rfl, rfl⟩ := q_25
    show G h_21 5 67 (mkF m 23 #[vr a, vr a_1, vi 1] [])
    refine K.aloadN d3_23 (w':=24) rfl rfl rfl ?_
    refine K.iloadN d3_24 (w':=25) rfl rfl ?_
    refine K.iconst d3_25 (w':=26) rfl (z := 1) rfl ?_
    refine K.iadd d3_26 (w':=27) rfl (z := (2 : Int32)) (by decide) ?_
    refine K.iloadN d3_27 (w':=28) rfl rfl ?_
    refine K.iconst d3_28 (w':=29) rfl (z := 1) rfl ?_
    refine K.iadd d3_29 (w':=30) rfl (z := (2 : Int32)) (by decide) ?_
    have f_28 := (A_18.ext E_22)
    refine K.iast d3_30 (w':=31) rfl f_28 (i := 2) rfl (show 2 < 3 by decide) ge_a_1 (fun h_29 W_30 A_31 => ?_)
    have A_32 : Ary Z h_29 a_1 .int [(.int 0), (.int 1), (.int 2)] := A_31
    refine K.iinc d3_31 (w':=34) rfl rfl (z := (2 : Int32)) rfl (L' := #[vr a, vr a_1, vi 2]) rfl ?_
    refine K.goto d3_34 (by decide) (w':=9) (by decide) ?_
    refine K.iloadN d3_9 (w':=10) rfl rfl ?_
    refine K.aloadN d3_10 (w':=11) rfl rfl rfl ?_
    have f_33 := ((f_20.ext E_22).other W_30 ne_19)
    refine K.alen d3_11 (w':=12) rfl f_33 (fun z11_2 e_z11_2 => ?_)
    have t_z11_2 : z11_2.toInt = 2 := e_z11_2
    refine K.icmp_ge d3_12 (pc1 := 15) rfl (by decide) (pc2 := 37) (by decide) (a := 2) (b := z11_2.toInt) rfl rfl (fun c12_2 => ?_) (fun c12_2 => ?_)
    ·refine K.newo d3_37 (w':=40) rfl hw30 hw31 hw17 (by decide) (by decide) (fun h_35 o_34 g_o_34 E_36 x_o_34 D_o_34 => ?_)
     have sz_37 := Nat.le_trans Z0 (Nat.le_trans E_3.1 (Nat.le_trans E_8.1 (Nat.le_trans (Keep.of_wr W_16).1 (Nat.le_trans E_22.1 (Keep.of_wr W_30).1))))
     have ge_o_34 : n0 ≤ o_34 := g_o_34 ▸ sz_37
     have hz_38 : h.size ≤ h_29.size := (Nat.le_trans E_3.1 (Nat.le_trans E_8.1 (Nat.le_trans (Keep.of_wr W_16).1 (Nat.le_trans E_22.1 (Keep.of_wr W_30).1))))
     have sb_o_34 : h.size ≤ o_34 := g_o_34 ▸ hz_38
     have f_39 : Fld Z h_35 o_34 sR "points" "[J" .null := D_o_34 (Or.inr hw48) (ty := (.array .long)) (by decide)
     have f_40 : Fld Z h_35 o_34 sR "bounds" "[I" .null := D_o_34 (Or.inr hw50) (ty := (.array .int)) (by decide)
     refine K.dup d3_40 (w':=41) rfl rfl ?_
     refine K.aloadN d3_41 (w':=42) rfl rfl rfl ?_
     have f_41 := (f_33.ext E_36)
     have f_42 := ((((((P3.ext E_3).ext E_8).wr W_16).ext E_22).wr W_30).ext E_36)
     refine K.clone (.long 0) d3_42 (w':=45) rfl hw32 hw33 hw37 hw35 hw36 hw38 f_41 f_42 (by simp [fits]) rfl rfl (by decide) (W := 2) (Nat.le_refl _) (by decide) (cap := 2) (by simp) (by decide) (by decide) (fun h_43 o_46 g_o_46 E_44 A_45 x_o_46 => ?_)
     have sz_47 := Nat.le_trans sz_37 E_36.1
     have ge_o_46 : n0 ≤ o_46 := g_o_46 ▸ sz_47
     have hz_48 : h.size ≤ h_35.size := Nat.le_trans hz_38 E_36.1
     have sb_o_46 : h.size ≤ o_46 := g_o_46 ▸ hz_48
     refine K.ccast d3_45 (w':=48) rfl hw39 (Ins.self x_o_46) ?_
     refine K.aloadN d3_48 (w':=49) rfl rfl rfl ?_
     have f_49 := (x_o_34.ext E_44)
     have f_50 := (f_39.ext E_44)
     have f_51 := (f_40.ext E_44)
     refine K.callc (argsL := [(.ref o_46), (.ref a_1)]) (rest := [(.ref o_34)]) d3_49 (w':=52) rfl rfl (c_rqi l Z a0 hw n0 h_43 (a := o_34) (b := o_46) (c := a_1) f_49 ge_o_34 f_50 f_51) hw41 hw42 hw17 hw43 (by decide) pd_1 rfl rfl (W := 1) (Nat.le_refl _) (by decide) (by decide) (by decide) (by decide) (fun v_54 h_52 q_53 => ?_)
     obtain ⟨rfl, K_56, f_57⟩ := q_53
     show G h_52 7 71 (mkF m 52 #[vr a, vr a_1, vi 2] [(.ref o_34)])
     have f_58 := (f_49.keep K_56)
     have ne_59 := (Ne.symm (Nat.ne_of_lt (Nat.lt_of_lt_of_le x_o_34.lt (Nat.le_trans (Nat.le_refl _) (Nat.le_of_eq g_o_46.symm)))))
     have f_60 := (A_45.keep K_56 (ninS ne_59 nin0))
     have f_61 := (x_o_46.keep K_56)
     exact K.reta d3_52 rfl rfl rfl (by decide) (by decide) ⟨o_34, o_46, rfl, (((((((((Keep.refl h []).ext E_3).ext E_8).wr W_16 (Or.inr sb_a_1)).ext E_22).wr W_30 (Or.inr sb_a_1)).ext E_36).ext E_44).trans K_56 (allS (Or.inr sb_o_34) all0)), sb_o_34, sb_o_46, f_58, f_57, f_60, f_61⟩
    ·exfalso; (have o0 : (0 : Int32).toInt = 0 := rfl; have o1 : (1 : Int32).toInt = 1 := rfl; have o2 : (2 : Int32).toInt = 2 := rfl; have o3 : (3 : Int32).toInt = 3 := rfl; omega)
theorem d7_0 : decode B7 0 = .ok (.aload_n 0, 1) := by decide +kernel
theorem d7_1 : decode B7 1 = .ok (.invokespecial 13, 3) := by decide +kernel
theorem d7_4 : decode B7 4 = .ok (.aload_n 1, 1) := by decide +kernel
theorem d7_5 : decode B7 5 = .ok (.arraylength, 1) := by decide +kernel
theorem d7_6 : decode B7 6 = .ok (.ifCond .ne 13, 3) := by decide +kernel
theorem d7_19 : decode B7 19 = .ok (.iconst 0, 1) := by decide +kernel
theorem d7_20 : decode B7 20 = .ok (.istore 4, 2) := by decide +kernel
theorem d7_22 : decode B7 22 = .ok (.iload 4, 2) := by decide +kernel
theorem d7_24 : decode B7 24 = .ok (.aload_n 1, 1) := by decide +kernel
theorem d7_25 : decode B7 25 = .ok (.arraylength, 1) := by decide +kernel
theorem d7_26 : decode B7 26 = .ok (.if_icmp .ge 55, 3) := by decide +kernel
theorem d7_29 : decode B7 29 = .ok (.aload_n 1, 1) := by decide +kernel
theorem d7_30 : decode B7 30 = .ok (.iload 4, 2) := by decide +kernel
theorem d7_32 : decode B7 32 = .ok (.laload, 1) := by decide +kernel
theorem d7_33 : decode B7 33 = .ok (.lconst 0, 1) := by decide +kernel
theorem d7_34 : decode B7 34 = .ok (.lcmp, 1) := by decide +kernel
theorem d7_35 : decode B7 35 = .ok (.ifCond .gt 40, 3) := by decide +kernel
theorem d7_75 : decode B7 75 = .ok (.iinc 4 1, 3) := by decide +kernel
theorem d7_78 : decode B7 78 = .ok (.goto (-56), 3) := by decide +kernel
theorem d7_81 : decode B7 81 = .ok (.aload_n 2, 1) := by decide +kernel
theorem d7_82 : decode B7 82 = .ok (.ifnull 43, 3) := by decide +kernel
theorem d7_125 : decode B7 125 = .ok (.iconst 0, 1) := by decide +kernel
theorem d7_126 : decode B7 126 = .ok (.istore 4, 2) := by decide +kernel
theorem d7_128 : decode B7 128 = .ok (.iload 4, 2) := by decide +kernel
theorem d7_130 : decode B7 130 = .ok (.aload_n 1, 1) := by decide +kernel
theorem d7_131 : decode B7 131 = .ok (.arraylength, 1) := by decide +kernel
theorem d7_132 : decode B7 132 = .ok (.if_icmp .ge 22, 3) := by decide +kernel
theorem d7_135 : decode B7 135 = .ok (.aload_n 2, 1) := by decide +kernel
theorem d7_136 : decode B7 136 = .ok (.ifnull 18, 3) := by decide +kernel
theorem d7_154 : decode B7 154 = .ok (.aload_n 0, 1) := by decide +kernel
theorem d7_155 : decode B7 155 = .ok (.aload_n 1, 1) := by decide +kernel
theorem d7_156 : decode B7 156 = .ok (.invokevirtual 52, 3) := by decide +kernel
theorem d7_159 : decode B7 159 = .ok (.checkcast 53, 3) := by decide +kernel
theorem d7_162 : decode B7 162 = .ok (.putfield 58, 3) := by decide +kernel
theorem d7_165 : decode B7 165 = .ok (.aload_n 0, 1) := by decide +kernel
theorem d7_166 : decode B7 166 = .ok (.aload_n 2, 1) := by decide +kernel
theorem d7_167 : decode B7 167 = .ok (.ifnonnull 7, 3) := by decide +kernel
theorem d7_170 : decode B7 170 = .ok (.aconst_null, 1) := by decide +kernel
theorem d7_171 : decode B7 171 = .ok (.goto 10, 3) := by decide +kernel
theorem d7_181 : decode B7 181 = .ok (.putfield 61, 3) := by decide +kernel
theorem d7_184 : decode B7 184 = .ok (.aload_n 0, 1) := by decide +kernel
theorem d7_185 : decode B7 185 = .ok (.aload_n 3, 1) := by decide +kernel
theorem d7_186 : decode B7 186 = .ok (.putfield 64, 3) := by decide +kernel
theorem d7_189 : decode B7 189 = .ok (.return_, 1) := by decide +kernel
theorem pn_com_example_odograph_odograph_model_Instance : plainName sI = true := by first | (simp [plainName, overriddenIn]; done) | decide +kernel
theorem c_in2c (l : Launch) (Z : State) (a0 : Array Value) (hw : HW a0 Z) (n0 : Nat) (h : Heap) (a : Addr) (w : Addr) (q : Addr) (lv0 : Option Addr) (Z0 : n0 ≤ h.size) (P2 : Exa Z h a sI) (P3 : n0 ≤ a) (P4 : Fld Z h a sI "weights" "[J" .null) (P5 : Fld Z h a sI "start" "[J" .null) (P6 : Fld Z h a sI "requests" "Lcom/example/odograph/odograph/model/Requests;" .null) (P7 : Ary Z h w .long [(.long 1), (.long 2), (.long 3)]) (P8 : Exa Z h w "[J") (P9 : w ≠ a) : Jvm.Wv.MeetsV l Z n0 (⟨sI, "<init>", "([J[JLcom/example/odograph/odograph/model/Requests;)V"⟩ : MethodName) B7 5 none ({ frames := 1, cells := 1, slots := 3, locals := 15 } : Room) #[(.ref a), (.ref w), .null, (.ref q)] h lv0 (fun v h' lv' => ∃ (d1 : Addr), v = none ∧ Keep h h' [a] ∧ h.size ≤ d1 ∧ Ary Z h' d1 .long [(.long 1), (.long 2), (.long 3)] ∧ Fld Z h' a sI "weights" "[J" (.ref d1) ∧ Fld Z h' a sI "start" "[J" .null ∧ Fld Z h' a sI "requests" "Lcom/example/odograph/odograph/model/Requests;" (.ref q)) := by
 refine Jvm.Wv.MeetsV.intro (plainFor_of_name pn_com_example_odograph_odograph_model_Instance) (L0 := #[vr a, vr w, vn, vr q, un]) (fun m => rfl) ?_
 intro m G K0
 have K : Jvm.Wv.Cx l ({ frames := 1, cells := 1, slots := 3, locals := 15 } : Room) Z n0 _ sI "<init>" B7 5 none m lv0 h G := K0
 have hw10 := tb hw (i:=10) rfl
 have hw33 := tb hw (i:=33) rfl
 have hw35 := tb hw (i:=35) rfl
 have hw36 := tb hw (i:=36) rfl
 have hw37 := tb hw (i:=37) rfl
 have hw38 := tb hw (i:=38) rfl
 have hw45 := tb hw (i:=45) rfl
 have hw46 := tb hw (i:=46) rfl
 have hw54 := tb hw (i:=54) rfl
 have hw57 := tb hw (i:=57) rfl
 have hw58 := tb hw (i:=58) rfl
 have hw59 := tb hw (i:=59) rfl
 have hw60 := tb hw (i:=60) rfl
 have hw61 := tb hw (i:=61) rfl
 have hw62 := tb hw (i:=62) rfl
 have hw63 := tb hw (i:=63) rfl
 have hw64 := tb hw (i:=64) rfl
 refine K.aloadN d7_0 (w':=1) rfl rfl rfl ?_
 refine K.init0 d7_1 (w':=4) rfl hw54 hw45 hw46 rfl (by decide) (W := 0) (Nat.le_refl _) (by decide) ?_
 refine K.aloadN d7_4 (w':=5) rfl rfl rfl ?_
 refine K.alen d7_5 (w':=6) rfl P7 (fun z5 e_z5 => ?_)
 have t_z5 : z5.toInt = 3 := e_z5
 refine K.if_ne d7_6 (pc1 := 9) rfl (by decide) (pc2 := 19) (by decide) (a := z5.toInt) rfl (fun c6 => ?_) (fun c6 => ?_)
 ·refine K.iconst d7_19 (w':=20) rfl (z := 0) rfl ?_
  refine K.istore d7_20 (w':=22) rfl (L' := #[vr a, vr w, vn, vr q, vi 0]) rfl ?_
  refine K.iload d7_22 (w':=24) rfl rfl ?_
  refine K.aloadN d7_24 (w':=25) rfl rfl rfl ?_
  refine K.alen d7_25 (w':=26) rfl P7 (fun z25 e_z25 => ?_)
  have t_z25 : z25.toInt = 3 := e_z25
  refine K.icmp_ge d7_26 (pc1 := 29) rfl (by decide) (pc2 := 81) (by decide) (a := 0) (b := z25.toInt) rfl rfl (fun c26 => ?_) (fun c26 => ?_)
  ·exfalso; (have o0 : (0 : Int32).toInt = 0 := rfl; have o1 : (1 : Int32).toInt = 1 := rfl; have o2 : (2 : Int32).toInt = 2 := rfl; have o3 : (3 : Int32).toInt = 3 := rfl; omega)
  ·refine K.aloadN d7_29 (w':=30) rfl rfl rfl ?_
   refine K.iload d7_30 (w':=32) rfl rfl ?_
   refine K.lald d7_32 (w':=33) rfl P7 (i := 0) rfl rfl ?_
   refine K.lconst d7_33 (w':=34) rfl (z := 0) rfl ?_
   refine K.lcmp_gt d7_34 d7_35 (pc1 := 38) rfl (by decide) (pc2 := 75) (by decide) (a := 1) (b := 0) rfl rfl (fun c34 => ?_) (fun c34 => ?_)
   ·refine K.iinc d7_75 (w':=78) rfl rfl (z := (1 : Int32)) rfl (L' := #[vr a, vr w, vn, vr q, vi 1]) rfl ?_
    refine K.goto d7_78 (by decide) (w':=22) (by decide) ?_
    refine K.iload d7_22 (w':=24) rfl rfl ?_
    refine K.aloadN d7_24 (w':=25) rfl rfl rfl ?_
    refine K.alen d7_25 (w':=26) rfl P7 (fun z25_1 e_z25_1 => ?_)
    have t_z25_1 : z25_1.toInt = 3 := e_z25_1
    refine K.icmp_ge d7_26 (pc1 := 29) rfl (by decide) (pc2 := 81) (by decide) (a := 1) (b := z25_1.toInt) rfl rfl (fun c26_1 => ?_) (fun c26_1 => ?_)
    ·exfalso; (have o0 : (0 : Int32).toInt = 0 := rfl; have o1 : (1 : Int32).toInt = 1 := rfl; have o2 : (2 : Int32).toInt = 2 := rfl; have o3 : (3 : Int32).toInt = 3 := rfl; omega)
    ·refine K.aloadN d7_29 (w':=30) rfl rfl rfl ?_
     refine K.iload d7_30 (w':=32) rfl rfl ?_
     refine K.lald d7_32 (w':=33) rfl P7 (i := 1) rfl rfl ?_
     refine K.lconst d7_33 (w':=34) rfl (z := 0) rfl ?_
     refine K.lcmp_gt d7_34 d7_35 (pc1 := 38) rfl (by decide) (pc2 := 75) (by decide) (a := 2) (b := 0) rfl rfl (fun c34_1 => ?_) (fun c34_1 => ?_)
     ·refine K.iinc d7_75 (w':=78) rfl rfl (z := (2 : Int32)) rfl (L' := #[vr a, vr w, vn, vr q, vi 2]) rfl ?_
      refine K.goto d7_78 (by decide) (w':=22) (by decide) ?_
      refine K.iload d7_22 (w':=24) rfl rfl ?_
      refine K.aloadN d7_24 (w':=25) rfl rfl rfl ?_
      refine K.alen d7_25 (w':=26) rfl P7 (fun z25_2 e_z25_2 => ?_)
      have t_z25_2 : z25_2.toInt = 3 := e_z25_2
      refine K.icmp_ge d7_26 (pc1 := 29) rfl (by decide) (pc2 := 81) (by decide) (a := 2) (b := z25_2.toInt) rfl rfl (fun c26_2 => ?_) (fun c26_2 => ?_)
      ·exfalso; (have o0 : (0 : Int32).toInt = 0 := rfl; have o1 : (1 : Int32).toInt = 1 := rfl; have o2 : (2 : Int32).toInt = 2 := rfl; have o3 : (3 : Int32).toInt = 3 := rfl; omega)
      ·refine K.aloadN d7_29 (w':=30) rfl rfl rfl ?_
       refine K.iload d7_30 (w':=32) rfl rfl ?_
       refine K.lald d7_32 (w':=33) rfl P7 (i := 2) rfl rfl ?_
       refine K.lconst d7_33 (w':=34) rfl (z := 0) rfl ?_
       refine K.lcmp_gt d7_34 d7_35 (pc1 := 38) rfl (by decide) (pc2 := 75) (by decide) (a := 3) (b := 0) rfl rfl (fun c34_2 => ?_) (fun c34_2 => ?_)
       ·refine K.iinc d7_75 (w':=78) rfl rfl (z := (3 : Int32)) rfl (L' := #[vr a, vr w, vn, vr q, vi 3]) rfl ?_
        refine K.goto d7_78 (by decide) (w':=22) (by decide) ?_
        refine K.iload d7_22 (w':=24) rfl rfl ?_
        refine K.aloadN d7_24 (w':=25) rfl rfl rfl ?_
        refine K.alen d7_25 (w':=26) rfl P7 (fun z25_3 e_z25_3 => ?_)
        have t_z25_3 : z25_3.toInt = 3 := e_z25_3
        refine K.icmp_ge d7_26 (pc1 := 29) rfl (by decide) (pc2 := 81) (by decide) (a := 3) (b := z25_3.toInt) rfl rfl (fun c26_3 => ?_) (fun c26_3 => ?_)
        ·refine K.aloadN d7_81 (w':=82) rfl rfl rfl ?_
         refine K.ifnull0 d7_82 (by decide) (pc2 := 125) (by decide) ?_
         refine K.iconst d7_125 (w':=126) rfl (z := 0) rfl ?_
         refine K.istore d7_126 (w':=128) rfl (L' := #[vr a, vr w, vn, vr q, vi 0]) rfl ?_
         refine K.iload d7_128 (w':=130) rfl rfl ?_
         refine K.aloadN d7_130 (w':=131) rfl rfl rfl ?_
         refine K.alen d7_131 (w':=132) rfl P7 (fun z131 e_z131 => ?_)
         have t_z131 : z131.toInt = 3 := e_z131
         refine K.icmp_ge d7_132 (pc1 := 135) rfl (by decide) (pc2 := 154) (by decide) (a := 0) (b := z131.toInt) rfl rfl (fun c132 => ?_) (fun c132 => ?_)
         ·exfalso; (have o0 : (0 : Int32).toInt = 0 := rfl; have o1 : (1 : Int32).toInt = 1 := rfl; have o2 : (2 : Int32).toInt = 2 := rfl; have o3 : (3 : Int32).toInt = 3 := rfl; omega)
         ·refine K.aloadN d7_135 (w':=136) rfl rfl rfl ?_
          refine K.ifnull0 d7_136 (by decide) (pc2 := 154) (by decide) ?_
          refine K.aloadN d7_154 (w':=155) rfl rfl rfl ?_
          refine K.aloadN d7_155 (w':=156) rfl rfl rfl ?_
          refine K.clone (.long 0) d7_156 (w':=159) rfl hw57 hw33 hw37 hw35 hw36 hw38 P7 P8 (by simp [fits]) rfl rfl (by decide) (W := 1) (Nat.le_refl _) (by decide) (cap := 3) (by simp) (by decide) (by decide) (fun h_1 o_4 g_o_4 E_2 A_3 x_o_4 => ?_)
          have ge_o_4 : n0 ≤ o_4 := g_o_4 ▸ Z0
          have sb_o_4 : h.size ≤ o_4 := g_o_4 ▸ (Nat.le_refl _)
          refine K.ccast d7_159 (w':=162) rfl hw58 (Ins.self x_o_4) ?_
          have f_5 := (P4.ext E_2)
          have f_6 := (P2.ext E_2)
          refine K.putf d7_162 (w':=165) rfl (host := "") (Or.inl hw59) Via.refl f_5 f_6 (Or.inr ⟨hw60, rfl, rfl⟩) hw10 (ty := (.array .long)) (by decide) rfl rfl P3 (fun h_7 W_8 => ?_)
          have f_9 := (P5.ext E_2)
          have f_10 := (P6.ext E_2)
          have f_11 := f_5.same W_8
          have f_12 := f_9.other W_8 (Or.inr (slot_ne (Or.inr hw62) (Or.inr hw60) (by decide) (t := (.array .long)) (t' := (.array .long)) (by decide) (by decide)))
          have f_13 := f_10.other W_8 (Or.inr (slot_ne (Or.inr hw64) (Or.inr hw60) (by decide) (t := (.object sR)) (t' := (.array .long)) (by decide) (by decide)))
          refine K.aloadN d7_165 (w':=166) rfl rfl rfl ?_
          refine K.aloadN d7_166 (w':=167) rfl rfl rfl ?_
          refine K.ifnonnull0 d7_167 (w':=170) rfl ?_
          refine K.anull d7_170 (w':=171) rfl ?_
          refine K.goto d7_171 (by decide) (w':=181) (by decide) ?_
          have f_14 := (f_6.wr W_8)
          refine K.putf d7_181 (w':=184) rfl (host := "") (Or.inl hw61) Via.refl f_12 f_14 (Or.inr ⟨hw62, rfl, rfl⟩) hw10 (ty := (.array .long)) (by decide) rfl rfl P3 (fun h_15 W_16 => ?_)
          have f_17 := f_11.other W_16 (Or.inr (slot_ne (Or.inr hw60) (Or.inr hw62) (by decide) (t := (.array .long)) (t' := (.array .long)) (by decide) (by decide)))
          have f_18 := f_12.same W_16
          have f_19 := f_13.other W_16 (Or.inr (slot_ne (Or.inr hw64) (Or.inr hw62) (by decide) (t := (.object sR)) (t' := (.array .long)) (by decide) (by decide)))
          refine K.aloadN d7_184 (w':=185) rfl rfl rfl ?_
          refine K.aloadN d7_185 (w':=186) rfl rfl rfl ?_
          have f_20 := (f_14.wr W_16)
          refine K.putf d7_186 (w':=189) rfl (host := "") (Or.inl hw63) Via.refl f_19 f_20 (Or.inr ⟨hw64, rfl, rfl⟩) hw10 (ty := (.object sR)) (by decide) rfl rfl P3 (fun h_21 W_22 => ?_)
          have f_23 := f_17.other W_22 (Or.inr (slot_ne (Or.inr hw60) (Or.inr hw64) (by decide) (t := (.array .long)) (t' := (.object sR)) (by decide) (by decide)))
          have f_24 := f_18.other W_22 (Or.inr (slot_ne (Or.inr hw62) (Or.inr hw64) (by decide) (t := (.array .long)) (t' := (.object sR)) (by decide) (by decide)))
          have f_25 := f_19.same W_22
          have ne_26 := (Ne.symm (Nat.ne_of_lt (Nat.lt_of_lt_of_le P2.lt (Nat.le_trans (Nat.le_refl _) (Nat.le_of_eq g_o_4.symm)))))
          have f_27 := (((A_3.other W_8 ne_26).other W_16 ne_26).other W_22 ne_26)
          exact K.ret0 d7_189 (by decide) (by decide) ⟨o_4, rfl, (((((Keep.refl h [a]).ext E_2).wr W_8 (Or.inl (by simp))).wr W_16 (Or.inl (by simp))).wr W_22 (Or.inl (by simp))), sb_o_4, f_27, f_23, f_24, f_25⟩
        ·exfalso; (have o0 : (0 : Int32).toInt = 0 := rfl; have o1 : (1 : Int32).toInt = 1 := rfl; have o2 : (2 : Int32).toInt = 2 := rfl; have o3 : (3 : Int32).toInt = 3 := rfl; omega)
       ·exfalso; omega
     ·exfalso; omega
   ·exfalso; omega
 ·exfalso; omega
theorem d2_0 : decode B2 0 = .ok (.aload_n 0, 1) := by decide +kernel
theorem d2_1 : decode B2 1 = .ok (.aload_n 1, 1) := by decide +kernel
theorem d2_2 : decode B2 2 = .ok (.aload_n 2, 1) := by decide +kernel
theorem d2_3 : decode B2 3 = .ok (.aload_n 3, 1) := by decide +kernel
theorem d2_4 : decode B2 4 = .ok (.invokestatic 1, 3) := by decide +kernel
theorem pd_2 : parseMethodDescriptor "([J)Lcom/example/odograph/odograph/model/Requests;" = some ⟨[(.array .long)], some (.object sR)⟩ := by decide +kernel
theorem d2_7 : decode B2 7 = .ok (.invokespecial 7, 3) := by decide +kernel
theorem pd_3 : parseMethodDescriptor "([J[JLcom/example/odograph/odograph/model/Requests;)V" = some ⟨[(.array .long), (.array .long), (.object sR)], none⟩ := by decide +kernel
theorem d2_10 : decode B2 10 = .ok (.return_, 1) := by decide +kernel
theorem c_in1c (l : Launch) (Z : State) (a0 : Array Value) (hw : HW a0 Z) (n0 : Nat) (h : Heap) (a : Addr) (w : Addr) (r : Addr) (r0 : Int64) (r1 : Int64) (lv0 : Option Addr) (Z0 : n0 ≤ h.size) (P2 : Exa Z h a sI) (P3 : n0 ≤ a) (P4 : Fld Z h a sI "weights" "[J" .null) (P5 : Fld Z h a sI "start" "[J" .null) (P6 : Fld Z h a sI "requests" "Lcom/example/odograph/odograph/model/Requests;" .null) (P7 : Ary Z h w .long [(.long 1), (.long 2), (.long 3)]) (P8 : Exa Z h w "[J") (P9 : w ≠ a) (P10 : Ary Z h r .long [(.long r0), (.long r1)]) (P11 : Exa Z h r "[J") (P12 : r ≠ a) (hr0 : 0 ≤ r0.toInt) (hr1 : 0 ≤ r1.toInt) : Jvm.Wv.MeetsV l Z n0 (⟨sI, "<init>", "([J[J[J)V"⟩ : MethodName) B2 4 none ({ frames := 3, cells := 8, slots := 74, locals := 44 } : Room) #[(.ref a), (.ref w), .null, (.ref r)] h lv0 (fun v h' lv' => ∃ (d1 : Addr) (q : Addr) (d3 : Addr), v = none ∧ Keep h h' [a] ∧ h.size ≤ d1 ∧ Ary Z h' d1 .long [(.long 1), (.long 2), (.long 3)] ∧ Fld Z h' a sI "weights" "[J" (.ref d1) ∧ Fld Z h' a sI "start" "[J" .null ∧ Fld Z h' a sI "requests" "Lcom/example/odograph/odograph/model/Requests;" (.ref q) ∧ h.size ≤ q ∧ h.size ≤ d3 ∧ Exa Z h' q sR ∧ Fld Z h' q sR "points" "[J" (.ref d3) ∧ Ary Z h' d3 .long [(.long r0), (.long r1)] ∧ Exa Z h' d3 "[J") := by
 refine Jvm.Wv.MeetsV.intro (plainFor_of_name pn_com_example_odograph_odograph_model_Instance) (L0 := #[vr a, vr w, vn, vr r]) (fun m => rfl) ?_
 intro m G K0
 have K : Jvm.Wv.Cx l ({ frames := 3, cells := 8, slots := 74, locals := 44 } : Room) Z n0 _ sI "<init>" B2 4 none m lv0 h G := K0
 have hw11 := tb hw (i:=11) rfl
 have hw15 := tb hw (i:=15) rfl
 have hw16 := tb hw (i:=16) rfl
 have hw17 := tb hw (i:=17) rfl
 have hw18 := tb hw (i:=18) rfl
 have hw51 := tb hw (i:=51) rfl
 have hw52 := tb hw (i:=52) rfl
 have hw53 := tb hw (i:=53) rfl
 refine K.aloadN d2_0 (w':=1) rfl rfl rfl ?_
 refine K.aloadN d2_1 (w':=2) rfl rfl rfl ?_
 refine K.aloadN d2_2 (w':=3) rfl rfl rfl ?_
 refine K.aloadN d2_3 (w':=4) rfl rfl rfl ?_
 refine K.callsV (argsL := [(.ref r)]) (rest := [.null, (.ref w), (.ref a)]) d2_4 (w':=7) rfl (c_ofp l Z a0 hw n0 h (a := r) (r0 := r0) (r1 := r1) (lv0 := _) Z0 P10 P11 (by omega) (by omega)) hw15 hw16 hw17 hw18 (by decide) pd_2 rfl rfl (W := 3) (Nat.le_refl _) (by decide) (by decide) (by decide) (by decide) (fun lv_4 G K v_3 h_1 q_2 => ?_)
 obtain ⟨w_5, d_6, rfl, K_7, f_8, f_9, f_10, f_11, f_12, f_13⟩ := q_2
 have sb_w_5 : h.size ≤ w_5 := Nat.le_trans (Nat.le_refl _) f_8
 have sb_d_6 : h.size ≤ d_6 := Nat.le_trans (Nat.le_refl _) f_9
 show G h_1 7 71 (mkF m 7 #[vr a, vr w, vn, vr r] [(.ref w_5), .null, (.ref w), (.ref a)])
 have sz_14 := Nat.le_trans Z0 K_7.1
 have f_15 := (P2.keep K_7)
 have f_16 := (P4.keep K_7 nin0)
 have f_17 := (P5.keep K_7 nin0)
 have f_18 := (P6.keep K_7 nin0)
 have f_19 := (P7.keep K_7 nin0)
 have f_20 := (P8.keep K_7)
 refine K.callcV (argsL := [(.ref w), .null, (.ref w_5)]) (rest := []) d2_7 (w':=10) rfl rfl (c_in2c l Z a0 hw n0 h_1 (a := a) (w := w) (q := w_5) (lv0 := _) sz_14 f_15 P3 f_16 f_17 f_18 f_19 f_20 P9) hw51 hw52 hw11 hw53 (by decide) pd_3 rfl rfl (W := 0) (Nat.le_refl _) (by decide) (by decide) (by decide) (by decide) (fun lv_24 G K v_23 h_21 q_22 => ?_)
 obtain ⟨d1_26, rfl, K_27, f_28, f_29, f_30, f_31, f_32⟩ := q_22
 have hz_33 : h.size ≤ h_1.size := K_7.1
 have sb_d1_26 : h.size ≤ d1_26 := Nat.le_trans hz_33 f_28
 show G h_21 8 74 (mkF m 10 #[vr a, vr w, vn, vr r] [])
 have ne_34 := (Ne.symm (Nat.ne_of_lt (Nat.lt_of_lt_of_le P2.lt (Nat.le_trans (Nat.le_refl _) f_8))))
 have f_35 := (f_11.keep K_27 (ninS ne_34 nin0))
 have f_36 := (f_10.keep K_27)
 have ne_37 := (Ne.symm (Nat.ne_of_lt (Nat.lt_of_lt_of_le P2.lt (Nat.le_trans (Nat.le_refl _) f_9))))
 have f_38 := (f_12.keep K_27 (ninS ne_37 nin0))
 have f_39 := (f_13.keep K_27)
 exact K.ret0 d2_10 (by decide) (by decide) ⟨d1_26, w_5, d_6, rfl, (((Keep.refl h [a]).trans K_7 all0).trans K_27 (allS (Or.inl (by simp)) all0)), sb_d1_26, f_29, f_30, f_31, f_32, sb_w_5, sb_d_6, f_36, f_35, f_38, f_39⟩
theorem d7_85 : decode B7 85 = .ok (.aload_n 2, 1) := by decide +kernel
theorem d7_86 : decode B7 86 = .ok (.arraylength, 1) := by decide +kernel
theorem d7_87 : decode B7 87 = .ok (.aload_n 1, 1) := by decide +kernel
theorem d7_88 : decode B7 88 = .ok (.arraylength, 1) := by decide +kernel
theorem d7_89 : decode B7 89 = .ok (.if_icmp .eq 36, 3) := by decide +kernel
theorem d7_139 : decode B7 139 = .ok (.aload_n 2, 1) := by decide +kernel
theorem d7_140 : decode B7 140 = .ok (.iload 4, 2) := by decide +kernel
theorem d7_142 : decode B7 142 = .ok (.laload, 1) := by decide +kernel
theorem d7_143 : decode B7 143 = .ok (.ldc 46, 2) := by decide +kernel
theorem d7_145 : decode B7 145 = .ok (.invokestatic 48, 3) := by decide +kernel
theorem d7_148 : decode B7 148 = .ok (.iinc 4 1, 3) := by decide +kernel
theorem d7_151 : decode B7 151 = .ok (.goto (-23), 3) := by decide +kernel
theorem d7_174 : decode B7 174 = .ok (.aload_n 2, 1) := by decide +kernel
theorem d7_175 : decode B7 175 = .ok (.invokevirtual 52, 3) := by decide +kernel
theorem d7_178 : decode B7 178 = .ok (.checkcast 53, 3) := by decide +kernel
theorem c_in2w (l : Launch) (Z : State) (a0 : Array Value) (hw : HW a0 Z) (n0 : Nat) (h : Heap) (a : Addr) (w : Addr) (q : Addr) (s : Addr) (s0 : Int64) (s1 : Int64) (s2 : Int64) (lv0 : Option Addr) (Z0 : n0 ≤ h.size) (P2 : Exa Z h a sI) (P3 : n0 ≤ a) (P4 : Fld Z h a sI "weights" "[J" .null) (P5 : Fld Z h a sI "start" "[J" .null) (P6 : Fld Z h a sI "requests" "Lcom/example/odograph/odograph/model/Requests;" .null) (P7 : Ary Z h w .long [(.long 1), (.long 2), (.long 3)]) (P8 : Exa Z h w "[J") (P9 : w ≠ a) (P10 : Ary Z h s .long [(.long s0), (.long s1), (.long s2)]) (P11 : Exa Z h s "[J") (P12 : s ≠ a) (hs0 : 0 ≤ s0.toInt) (hs1 : 0 ≤ s1.toInt) (hs2 : 0 ≤ s2.toInt) : Jvm.Wv.MeetsV l Z n0 (⟨sI, "<init>", "([J[JLcom/example/odograph/odograph/model/Requests;)V"⟩ : MethodName) B7 5 none ({ frames := 1, cells := 8, slots := 150, locals := 15 } : Room) #[(.ref a), (.ref w), (.ref s), (.ref q)] h lv0 (fun v h' lv' => ∃ (d1 : Addr) (d2 : Addr), v = none ∧ Keep h h' [a] ∧ h.size ≤ d1 ∧ Ary Z h' d1 .long [(.long 1), (.long 2), (.long 3)] ∧ Fld Z h' a sI "weights" "[J" (.ref d1) ∧ Fld Z h' a sI "start" "[J" (.ref d2) ∧ h.size ≤ d2 ∧ Ary Z h' d2 .long [(.long s0), (.long s1), (.long s2)] ∧ Fld Z h' a sI "requests" "Lcom/example/odograph/odograph/model/Requests;" (.ref q)) := by
 refine Jvm.Wv.MeetsV.intro (plainFor_of_name pn_com_example_odograph_odograph_model_Instance) (L0 := #[vr a, vr w, vr s, vr q, un]) (fun m => rfl) ?_
 intro m G K0
 have K : Jvm.Wv.Cx l ({ frames := 1, cells := 8, slots := 150, locals := 15 } : Room) Z n0 _ sI "<init>" B7 5 none m lv0 h G := K0
 have hw10 := tb hw (i:=10) rfl
 have hw17 := tb hw (i:=17) rfl
 have hw28 := tb hw (i:=28) rfl
 have hw29 := tb hw (i:=29) rfl
 have hw33 := tb hw (i:=33) rfl
 have hw35 := tb hw (i:=35) rfl
 have hw36 := tb hw (i:=36) rfl
 have hw37 := tb hw (i:=37) rfl
 have hw38 := tb hw (i:=38) rfl
 have hw45 := tb hw (i:=45) rfl
 have hw46 := tb hw (i:=46) rfl
 have hw54 := tb hw (i:=54) rfl
 have hw55 := tb hw (i:=55) rfl
 have hw56 := tb hw (i:=56) rfl
 have hw57 := tb hw (i:=57) rfl
 have hw58 := tb hw (i:=58) rfl
 have hw59 := tb hw (i:=59) rfl
 have hw60 := tb hw (i:=60) rfl
 have hw61 := tb hw (i:=61) rfl
 have hw62 := tb hw (i:=62) rfl
 have hw63 := tb hw (i:=63) rfl
 have hw64 := tb hw (i:=64) rfl
 refine K.aloadN d7_0 (w':=1) rfl rfl rfl ?_
 refine K.init0 d7_1 (w':=4) rfl hw54 hw45 hw46 rfl (by decide) (W := 0) (Nat.le_refl _) (by decide) ?_
 refine K.aloadN d7_4 (w':=5) rfl rfl rfl ?_
 refine K.alen d7_5 (w':=6) rfl P7 (fun z5 e_z5 => ?_)
 have t_z5 : z5.toInt = 3 := e_z5
 refine K.if_ne d7_6 (pc1 := 9) rfl (by decide) (pc2 := 19) (by decide) (a := z5.toInt) rfl (fun c6 => ?_) (fun c6 => ?_)
 ·refine K.iconst d7_19 (w':=20) rfl (z := 0) rfl ?_
  refine K.istore d7_20 (w':=22) rfl (L' := #[vr a, vr w, vr s, vr q, vi 0]) rfl ?_
  refine K.iload d7_22 (w':=24) rfl rfl ?_
  refine K.aloadN d7_24 (w':=25) rfl rfl rfl ?_
  refine K.alen d7_25 (w':=26) rfl P7 (fun z25 e_z25 => ?_)
  have t_z25 : z25.toInt = 3 := e_z25
  refine K.icmp_ge d7_26 (pc1 := 29) rfl (by decide) (pc2 := 81) (by decide) (a := 0) (b := z25.toInt) rfl rfl (fun c26 => ?_) (fun c26 => ?_)
  ·exfalso; (have o0 : (0 : Int32).toInt = 0 := rfl; have o1 : (1 : Int32).toInt = 1 := rfl; have o2 : (2 : Int32).toInt = 2 := rfl; have o3 : (3 : Int32).toInt = 3 := rfl; omega)
  ·refine K.aloadN d7_29 (w':=30) rfl rfl rfl ?_
   refine K.iload d7_30 (w':=32) rfl rfl ?_
   refine K.lald d7_32 (w':=33) rfl P7 (i := 0) rfl rfl ?_
   refine K.lconst d7_33 (w':=34) rfl (z := 0) rfl ?_
   refine K.lcmp_gt d7_34 d7_35 (pc1 := 38) rfl (by decide) (pc2 := 75) (by decide) (a := 1) (b := 0) rfl rfl (fun c34 => ?_) (fun c34 => ?_)
   ·refine K.iinc d7_75 (w':=78) rfl rfl (z := (1 : Int32)) rfl (L' := #[vr a, vr w, vr s, vr q, vi 1]) rfl ?_
    refine K.goto d7_78 (by decide) (w':=22) (by decide) ?_
    refine K.iload d7_22 (w':=24) rfl rfl ?_
    refine K.aloadN d7_24 (w':=25) rfl rfl rfl ?_
    refine K.alen d7_25 (w':=26) rfl P7 (fun z25_1 e_z25_1 => ?_)
    have t_z25_1 : z25_1.toInt = 3 := e_z25_1
    refine K.icmp_ge d7_26 (pc1 := 29) rfl (by decide) (pc2 := 81) (by decide) (a := 1) (b := z25_1.toInt) rfl rfl (fun c26_1 => ?_) (fun c26_1 => ?_)
    ·exfalso; (have o0 : (0 : Int32).toInt = 0 := rfl; have o1 : (1 : Int32).toInt = 1 := rfl; have o2 : (2 : Int32).toInt = 2 := rfl; have o3 : (3 : Int32).toInt = 3 := rfl; omega)
    ·refine K.aloadN d7_29 (w':=30) rfl rfl rfl ?_
     refine K.iload d7_30 (w':=32) rfl rfl ?_
     refine K.lald d7_32 (w':=33) rfl P7 (i := 1) rfl rfl ?_
     refine K.lconst d7_33 (w':=34) rfl (z := 0) rfl ?_
     refine K.lcmp_gt d7_34 d7_35 (pc1 := 38) rfl (by decide) (pc2 := 75) (by decide) (a := 2) (b := 0) rfl rfl (fun c34_1 => ?_) (fun c34_1 => ?_)
     ·refine K.iinc d7_75 (w':=78) rfl rfl (z := (2 : Int32)) rfl (L' := #[vr a, vr w, vr s, vr q, vi 2]) rfl ?_
      refine K.goto d7_78 (by decide) (w':=22) (by decide) ?_
      refine K.iload d7_22 (w':=24) rfl rfl ?_
      refine K.aloadN d7_24 (w':=25) rfl rfl rfl ?_
      refine K.alen d7_25 (w':=26) rfl P7 (fun z25_2 e_z25_2 => ?_)
      have t_z25_2 : z25_2.toInt = 3 := e_z25_2
      refine K.icmp_ge d7_26 (pc1 := 29) rfl (by decide) (pc2 := 81) (by decide) (a := 2) (b := z25_2.toInt) rfl rfl (fun c26_2 => ?_) (fun c26_2 => ?_)
      ·exfalso; (have o0 : (0 : Int32).toInt = 0 := rfl; have o1 : (1 : Int32).toInt = 1 := rfl; have o2 : (2 : Int32).toInt = 2 := rfl; have o3 : (3 : Int32).toInt = 3 := rfl; omega)
      ·refine K.aloadN d7_29 (w':=30) rfl rfl rfl ?_
       refine K.iload d7_30 (w':=32) rfl rfl ?_
       refine K.lald d7_32 (w':=33) rfl P7 (i := 2) rfl rfl ?_
       refine K.lconst d7_33 (w':=34) rfl (z := 0) rfl ?_
       refine K.lcmp_gt d7_34 d7_35 (pc1 := 38) rfl (by decide) (pc2 := 75) (by decide) (a := 3) (b := 0) rfl rfl (fun c34_2 => ?_) (fun c34_2 => ?_)
       ·refine K.iinc d7_75 (w':=78) rfl rfl (z := (3 : Int32)) rfl (L' := #[vr a, vr w, vr s, vr q, vi 3]) rfl ?_
        refine K.goto d7_78 (by decide) (w':=22) (by decide) ?_
        refine K.iload d7_22 (w':=24) rfl rfl ?_
        refine K.aloadN d7_24 (w':=25) rfl rfl rfl ?_
        refine K.alen d7_25 (w':=26) rfl P7 (fun z25_3 e_z25_3 => ?_)
        have t_z25_3 : z25_3.toInt = 3 := e_z25_3
        refine K.icmp_ge d7_26 (pc1 := 29) rfl (by decide) (pc2 := 81) (by decide) (a := 3) (b := z25_3.toInt) rfl rfl (fun c26_3 => ?_) (fun c26_3 => ?_)
        ·refine K.aloadN d7_81 (w':=82) rfl rfl rfl ?_
         refine K.ifnull1 d7_82 (w':=85) rfl ?_
         refine K.aloadN d7_85 (w':=86) rfl rfl rfl ?_
         refine K.alen d7_86 (w':=87) rfl P10 (fun z86 e_z86 => ?_)
         have t_z86 : z86.toInt = 3 := e_z86
         refine K.aloadN d7_87 (w':=88) rfl rfl rfl ?_
         refine K.alen d7_88 (w':=89) rfl P7 (fun z88 e_z88 => ?_)
         have t_z88 : z88.toInt = 3 := e_z88
         refine K.icmp_eq d7_89 (pc1 := 92) rfl (by decide) (pc2 := 125) (by decide) (a := z86.toInt) (b := z88.toInt) rfl rfl (fun c89 => ?_) (fun c89 => ?_)
         ·refine K.iconst d7_125 (w':=126) rfl (z := 0) rfl ?_
          refine K.istore d7_126 (w':=128) rfl (L' := #[vr a, vr w, vr s, vr q, vi 0]) rfl ?_
          refine K.iload d7_128 (w':=130) rfl rfl ?_
          refine K.aloadN d7_130 (w':=131) rfl rfl rfl ?_
          refine K.alen d7_131 (w':=132) rfl P7 (fun z131 e_z131 => ?_)
          have t_z131 : z131.toInt = 3 := e_z131
          refine K.icmp_ge d7_132 (pc1 := 135) rfl (by decide) (pc2 := 154) (by decide) (a := 0) (b := z131.toInt) rfl rfl (fun c132 => ?_) (fun c132 => ?_)
          ·exfalso; (have o0 : (0 : Int32).toInt = 0 := rfl; have o1 : (1 : Int32).toInt = 1 := rfl; have o2 : (2 : Int32).toInt = 2 := rfl; have o3 : (3 : Int32).toInt = 3 := rfl; omega)
          ·refine K.aloadN d7_135 (w':=136) rfl rfl rfl ?_
           refine K.ifnull1 d7_136 (w':=139) rfl ?_
           refine K.aloadN d7_139 (w':=140) rfl rfl rfl ?_
           refine K.iload d7_140 (w':=142) rfl rfl ?_
           refine K.lald d7_142 (w':=143) rfl P10 (i := 0) rfl rfl ?_
           refine K.ldcSA (n := 44) d7_143 (w':=145) rfl hw55 (wS_1 hw) (by decide) (by decide) (by decide) (by decide) (fun h_1 la_3 E_2 => ?_)
           show G h_1 2 48 (mkF m 145 #[vr a, vr w, vr s, vr q, vi 0] [(.ref la_3), (.long s0)])
           refine K.calls (argsL := [(.long s0), (.ref la_3)]) (rest := []) d7_145 (w':=148) rfl (c_req l Z a0 hw n0 h_1 (p := s0) (s := la_3) (by omega)) hw56 hw28 hw17 hw29 (by decide) pd_0 rfl rfl (W := 0) (Nat.le_refl _) (by decide) (by decide) (by decide) (by decide) (fun v_6 h_4 q_5 => ?_)
           obtain ⟨rfl, rfl⟩ := q_5
           show G h_1 2 48 (mkF m 148 #[vr a, vr w, vr s, vr q, vi 0] [])
           refine K.iinc d7_148 (w':=151) rfl rfl (z := (1 : Int32)) rfl (L' := #[vr a, vr w, vr s, vr q, vi 1]) rfl ?_
           refine K.goto d7_151 (by decide) (w':=128) (by decide) ?_
           refine K.iload d7_128 (w':=130) rfl rfl ?_
           refine K.aloadN d7_130 (w':=131) rfl rfl rfl ?_
           have f_8 := (P7.ext E_2)
           refine K.alen d7_131 (w':=132) rfl f_8 (fun z131_1 e_z131_1 => ?_)
           have t_z131_1 : z131_1.toInt = 3 := e_z131_1
           refine K.icmp_ge d7_132 (pc1 := 135) rfl (by decide) (pc2 := 154) (by decide) (a := 1) (b := z131_1.toInt) rfl rfl (fun c132_1 => ?_) (fun c132_1 => ?_)
           ·exfalso; (have o0 : (0 : Int32).toInt = 0 := rfl; have o1 : (1 : Int32).toInt = 1 := rfl; have o2 : (2 : Int32).toInt = 2 := rfl; have o3 : (3 : Int32).toInt = 3 := rfl; omega)
           ·refine K.aloadN d7_135 (w':=136) rfl rfl rfl ?_
            refine K.ifnull1 d7_136 (w':=139) rfl ?_
            refine K.aloadN d7_139 (w':=140) rfl rfl rfl ?_
            refine K.iload d7_140 (w':=142) rfl rfl ?_
            have f_9 := (P10.ext E_2)
            refine K.lald d7_142 (w':=143) rfl f_9 (i := 1) rfl rfl ?_
            refine K.ldcSA (n := 44) d7_143 (w':=145) rfl hw55 (wS_1 hw) (by decide) (by decide) (by decide) (by decide) (fun h_10 la_12 E_11 => ?_)
            show G h_10 4 96 (mkF m 145 #[vr a, vr w, vr s, vr q, vi 1] [(.ref la_12), (.long s1)])
            refine K.calls (argsL := [(.long s1), (.ref la_12)]) (rest := []) d7_145 (w':=148) rfl (c_req l Z a0 hw n0 h_10 (p := s1) (s := la_12) (by omega)) hw56 hw28 hw17 hw29 (by decide) pd_0 rfl rfl (W := 0) (Nat.le_refl _) (by decide) (by decide) (by decide) (by decide) (fun v_15 h_13 q_14 => ?_)
            obtain ⟨rfl, rfl⟩ := q_14
            show G h_10 4 96 (mkF m 148 #[vr a, vr w, vr s, vr q, vi 1] [])
            refine K.iinc d7_148 (w':=151) rfl rfl (z := (2 : Int32)) rfl (L' := #[vr a, vr w, vr s, vr q, vi 2]) rfl ?_
            refine K.goto d7_151 (by decide) (w':=128) (by decide) ?_
            refine K.iload d7_128 (w':=130) rfl rfl ?_
            refine K.aloadN d7_130 (w':=131) rfl rfl rfl ?_
            have f_17 := (f_8.ext E_11)
            refine K.alen d7_131 (w':=132) rfl f_17 (fun z131_2 e_z131_2 => ?_)
            have t_z131_2 : z131_2.toInt = 3 := e_z131_2
            refine K.icmp_ge d7_132 (pc1 := 135) rfl (by decide) (pc2 := 154) (by decide) (a := 2) (b := z131_2.toInt) rfl rfl (fun c132_2 => ?_) (fun c132_2 => ?_)
            ·exfalso; (have o0 : (0 : Int32).toInt = 0 := rfl; have o1 : (1 : Int32).toInt = 1 := rfl; have o2 : (2 : Int32).toInt = 2 := rfl; have o3 : (3 : Int32).toInt = 3 := rfl; omega)
            ·refine K.aloadN d7_135 (w':=136) rfl rfl rfl ?_
             refine K.ifnull1 d7_136 (w':=139) rfl ?_
             refine K.aloadN d7_139 (w':=140) rfl rfl rfl ?_
             refine K.iload d7_140 (w':=142) rfl rfl ?_
             have f_18 := (f_9.ext E_11)
             refine K.lald d7_142 (w':=143) rfl f_18 (i := 2) rfl rfl ?_
             refine K.ldcSA (n := 44) d7_143 (w':=145) rfl hw55 (wS_1 hw) (by decide) (by decide) (by decide) (by decide) (fun h_19 la_21 E_20 => ?_)
             show G h_19 6 144 (mkF m 145 #[vr a, vr w, vr s, vr q, vi 2] [(.ref la_21), (.long s2)])
             refine K.calls (argsL := [(.long s2), (.ref la_21)]) (rest := []) d7_145 (w':=148) rfl (c_req l Z a0 hw n0 h_19 (p := s2) (s := la_21) (by omega)) hw56 hw28 hw17 hw29 (by decide) pd_0 rfl rfl (W := 0) (Nat.le_refl _) (by decide) (by decide) (by decide) (by decide) (fun v_24 h_22 q_23 => ?_)
             obtain ⟨rfl, rfl⟩ := q_23
             show G h_19 6 144 (mkF m 148 #[vr a, vr w, vr s, vr q, vi 2] [])
             refine K.iinc d7_148 (w':=151) rfl rfl (z := (3 : Int32)) rfl (L' := #[vr a, vr w, vr s, vr q, vi 3]) rfl ?_
             refine K.goto d7_151 (by decide) (w':=128) (by decide) ?_
             refine K.iload d7_128 (w':=130) rfl rfl ?_
             refine K.aloadN d7_130 (w':=131) rfl rfl rfl ?_
             have f_26 := (f_17.ext E_20)
             refine K.alen d7_131 (w':=132) rfl f_26 (fun z131_3 e_z131_3 => ?_)
             have t_z131_3 : z131_3.toInt = 3 := e_z131_3
             refine K.icmp_ge d7_132 (pc1 := 135) rfl (by decide) (pc2 := 154) (by decide) (a := 3) (b := z131_3.toInt) rfl rfl (fun c132_3 => ?_) (fun c132_3 => ?_)
             ·refine K.aloadN d7_154 (w':=155) rfl rfl rfl ?_
              refine K.aloadN d7_155 (w':=156) rfl rfl rfl ?_
              have f_27 := (((P8.ext E_2).ext E_11).ext E_20)
              refine K.clone (.long 0) d7_156 (w':=159) rfl hw57 hw33 hw37 hw35 hw36 hw38 f_26 f_27 (by simp [fits]) rfl rfl (by decide) (W := 1) (Nat.le_refl _) (by decide) (cap := 3) (by simp) (by decide) (by decide) (fun h_28 o_31 g_o_31 E_29 A_30 x_o_31 => ?_)
              have sz_32 := Nat.le_trans Z0 (Nat.le_trans E_2.1 (Nat.le_trans E_11.1 E_20.1))
              have ge_o_31 : n0 ≤ o_31 := g_o_31 ▸ sz_32
              have hz_33 : h.size ≤ h_19.size := (Nat.le_trans E_2.1 (Nat.le_trans E_11.1 E_20.1))
              have sb_o_31 : h.size ≤ o_31 := g_o_31 ▸ hz_33
              refine K.ccast d7_159 (w':=162) rfl hw58 (Ins.self x_o_31) ?_
              have f_34 := ((((P4.ext E_2).ext E_11).ext E_20).ext E_29)
              have f_35 := ((((P2.ext E_2).ext E_11).ext E_20).ext E_29)
              refine K.putf d7_162 (w':=165) rfl (host := "") (Or.inl hw59) Via.refl f_34 f_35 (Or.inr ⟨hw60, rfl, rfl⟩) hw10 (ty := (.array .long)) (by decide) rfl rfl P3 (fun h_36 W_37 => ?_)
              have f_38 := ((((P5.ext E_2).ext E_11).ext E_20).ext E_29)
              have f_39 := ((((P6.ext E_2).ext E_11).ext E_20).ext E_29)
              have f_40 := f_34.same W_37
              have f_41 := f_38.other W_37 (Or.inr (slot_ne (Or.inr hw62) (Or.inr hw60) (by decide) (t := (.array .long)) (t' := (.array .long)) (by decide) (by decide)))
              have f_42 := f_39.other W_37 (Or.inr (slot_ne (Or.inr hw64) (Or.inr hw60) (by decide) (t := (.object sR)) (t' := (.array .long)) (by decide) (by decide)))
              refine K.aloadN d7_165 (w':=166) rfl rfl rfl ?_
              refine K.aloadN d7_166 (w':=167) rfl rfl rfl ?_
              refine K.ifnonnull1 d7_167 (by decide) (pc2 := 174) (by decide) ?_
              refine K.aloadN d7_174 (w':=175) rfl rfl rfl ?_
              have f_43 := (((f_18.ext E_20).ext E_29).other W_37 P12)
              have f_44 := (((((P11.ext E_2).ext E_11).ext E_20).ext E_29).wr W_37)
              refine K.clone (.long 0) d7_175 (w':=178) rfl hw57 hw33 hw37 hw35 hw36 hw38 f_43 f_44 (by simp [fits]) rfl rfl (by decide) (W := 1) (Nat.le_refl _) (by decide) (cap := 3) (by simp) (by decide) (by decide) (fun h_45 o_48 g_o_48 E_46 A_47 x_o_48 => ?_)
              have sz_49 := Nat.le_trans sz_32 (Nat.le_trans E_29.1 (Keep.of_wr W_37).1)
              have ge_o_48 : n0 ≤ o_48 := g_o_48 ▸ sz_49
              have hz_50 : h.size ≤ h_36.size := Nat.le_trans hz_33 (Nat.le_trans E_29.1 (Keep.of_wr W_37).1)
              have sb_o_48 : h.size ≤ o_48 := g_o_48 ▸ hz_50
              refine K.ccast d7_178 (w':=181) rfl hw58 (Ins.self x_o_48) ?_
              have f_51 := (f_41.ext E_46)
              have f_52 := ((f_35.wr W_37).ext E_46)
              refine K.putf d7_181 (w':=184) rfl (host := "") (Or.inl hw61) Via.refl f_51 f_52 (Or.inr ⟨hw62, rfl, rfl⟩) hw10 (ty := (.array .long)) (by decide) rfl rfl P3 (fun h_53 W_54 => ?_)
              have f_55 := (f_40.ext E_46)
              have f_56 := (f_42.ext E_46)
              have f_57 := f_55.other W_54 (Or.inr (slot_ne (Or.inr hw60) (Or.inr hw62) (by decide) (t := (.array .long)) (t' := (.array .long)) (by decide) (by decide)))
              have f_58 := f_51.same W_54
              have f_59 := f_56.other W_54 (Or.inr (slot_ne (Or.inr hw64) (Or.inr hw62) (by decide) (t := (.object sR)) (t' := (.array .long)) (by decide) (by decide)))
              refine K.aloadN d7_184 (w':=185) rfl rfl rfl ?_
              refine K.aloadN d7_185 (w':=186) rfl rfl rfl ?_
              have f_60 := (f_52.wr W_54)
              refine K.putf d7_186 (w':=189) rfl (host := "") (Or.inl hw63) Via.refl f_59 f_60 (Or.inr ⟨hw64, rfl, rfl⟩) hw10 (ty := (.object sR)) (by decide) rfl rfl P3 (fun h_61 W_62 => ?_)
              have f_63 := f_57.other W_62 (Or.inr (slot_ne (Or.inr hw60) (Or.inr hw64) (by decide) (t := (.array .long)) (t' := (.object sR)) (by decide) (by decide)))
              have f_64 := f_58.other W_62 (Or.inr (slot_ne (Or.inr hw62) (Or.inr hw64) (by decide) (t := (.array .long)) (t' := (.object sR)) (by decide) (by decide)))
              have f_65 := f_59.same W_62
              have ne_66 := (Ne.symm (Nat.ne_of_lt (Nat.lt_of_lt_of_le P2.lt (Nat.le_trans (Nat.le_trans E_2.1 (Nat.le_trans E_11.1 E_20.1)) (Nat.le_of_eq g_o_31.symm)))))
              have f_67 := ((((A_30.other W_37 ne_66).ext E_46).other W_54 ne_66).other W_62 ne_66)
              have ne_68 := (Ne.symm (Nat.ne_of_lt (Nat.lt_of_lt_of_le P2.lt (Nat.le_trans (Nat.le_trans E_2.1 (Nat.le_trans E_11.1 (Nat.le_trans E_20.1 (Nat.le_trans E_29.1 (Keep.of_wr W_37).1)))) (Nat.le_of_eq g_o_48.symm)))))
              have f_69 := ((A_47.other W_54 ne_68).other W_62 ne_68)
              exact K.ret0 d7_189 (by decide) (by decide) ⟨o_31, o_48, rfl, (((((((((Keep.refl h [a]).ext E_2).ext E_11).ext E_20).ext E_29).wr W_37 (Or.inl (by simp))).ext E_46).wr W_54 (Or.inl (by simp))).wr W_62 (Or.inl (by simp))), sb_o_31, f_67, f_63, f_64, sb_o_48, f_69, f_65⟩
             ·exfalso; (have o0 : (0 : Int32).toInt = 0 := rfl; have o1 : (1 : Int32).toInt = 1 := rfl; have o2 : (2 : Int32).toInt = 2 := rfl; have o3 : (3 : Int32).toInt = 3 := rfl; omega)
         ·exfalso; omega
        ·exfalso; (have o0 : (0 : Int32).toInt = 0 := rfl; have o1 : (1 : Int32).toInt = 1 := rfl; have o2 : (2 : Int32).toInt = 2 := rfl; have o3 : (3 : Int32).toInt = 3 := rfl; omega)
       ·exfalso; omega
     ·exfalso; omega
   ·exfalso; omega
 ·exfalso; omega
theorem c_in1w (l : Launch) (Z : State) (a0 : Array Value) (hw : HW a0 Z) (n0 : Nat) (h : Heap) (a : Addr) (w : Addr) (r : Addr) (r0 : Int64) (r1 : Int64) (s : Addr) (s0 : Int64) (s1 : Int64) (s2 : Int64) (lv0 : Option Addr) (Z0 : n0 ≤ h.size) (P2 : Exa Z h a sI) (P3 : n0 ≤ a) (P4 : Fld Z h a sI "weights" "[J" .null) (P5 : Fld Z h a sI "start" "[J" .null) (P6 : Fld Z h a sI "requests" "Lcom/example/odograph/odograph/model/Requests;" .null) (P7 : Ary Z h w .long [(.long 1), (.long 2), (.long 3)]) (P8 : Exa Z h w "[J") (P9 : w ≠ a) (P10 : Ary Z h s .long [(.long s0), (.long s1), (.long s2)]) (P11 : Exa Z h s "[J") (P12 : s ≠ a) (hs0 : 0 ≤ s0.toInt) (hs1 : 0 ≤ s1.toInt) (hs2 : 0 ≤ s2.toInt) (P16 : Ary Z h r .long [(.long r0), (.long r1)]) (P17 : Exa Z h r "[J") (P18 : r ≠ a) (hr0 : 0 ≤ r0.toInt) (hr1 : 0 ≤ r1.toInt) : Jvm.Wv.MeetsV l Z n0 (⟨sI, "<init>", "([J[J[J)V"⟩ : MethodName) B2 4 none ({ frames := 3, cells := 15, slots := 221, locals := 44 } : Room) #[(.ref a), (.ref w), (.ref s), (.ref r)] h lv0 (fun v h' lv' => ∃ (d1 : Addr) (d2 : Addr) (q : Addr) (d3 : Addr), v = none ∧ Keep h h' [a] ∧ h.size ≤ d1 ∧ Ary Z h' d1 .long [(.long 1), (.long 2), (.long 3)] ∧ Fld Z h' a sI "weights" "[J" (.ref d1) ∧ Fld Z h' a sI "start" "[J" (.ref d2) ∧ h.size ≤ d2 ∧ Ary Z h' d2 .long [(.long s0), (.long s1), (.long s2)] ∧ Fld Z h' a sI "requests" "Lcom/example/odograph/odograph/model/Requests;" (.ref q) ∧ h.size ≤ q ∧ h.size ≤ d3 ∧ Exa Z h' q sR ∧ Fld Z h' q sR "points" "[J" (.ref d3) ∧ Ary Z h' d3 .long [(.long r0), (.long r1)] ∧ Exa Z h' d3 "[J") := by
 refine Jvm.Wv.MeetsV.intro (plainFor_of_name pn_com_example_odograph_odograph_model_Instance) (L0 := #[vr a, vr w, vr s, vr r]) (fun m => rfl) ?_
 intro m G K0
 have K : Jvm.Wv.Cx l ({ frames := 3, cells := 15, slots := 221, locals := 44 } : Room) Z n0 _ sI "<init>" B2 4 none m lv0 h G := K0
 have hw11 := tb hw (i:=11) rfl
 have hw15 := tb hw (i:=15) rfl
 have hw16 := tb hw (i:=16) rfl
 have hw17 := tb hw (i:=17) rfl
 have hw18 := tb hw (i:=18) rfl
 have hw51 := tb hw (i:=51) rfl
 have hw52 := tb hw (i:=52) rfl
 have hw53 := tb hw (i:=53) rfl
 refine K.aloadN d2_0 (w':=1) rfl rfl rfl ?_
 refine K.aloadN d2_1 (w':=2) rfl rfl rfl ?_
 refine K.aloadN d2_2 (w':=3) rfl rfl rfl ?_
 refine K.aloadN d2_3 (w':=4) rfl rfl rfl ?_
 refine K.callsV (argsL := [(.ref r)]) (rest := [(.ref s), (.ref w), (.ref a)]) d2_4 (w':=7) rfl (c_ofp l Z a0 hw n0 h (a := r) (r0 := r0) (r1 := r1) (lv0 := _) Z0 P16 P17 (by omega) (by omega)) hw15 hw16 hw17 hw18 (by decide) pd_2 rfl rfl (W := 3) (Nat.le_refl _) (by decide) (by decide) (by decide) (by decide) (fun lv_4 G K v_3 h_1 q_2 => ?_)
 obtain ⟨w_5, d_6, rfl, K_7, f_8, f_9, f_10, f_11, f_12, f_13⟩ := q_2
 have sb_w_5 : h.size ≤ w_5 := Nat.le_trans (Nat.le_refl _) f_8
 have sb_d_6 : h.size ≤ d_6 := Nat.le_trans (Nat.le_refl _) f_9
 show G h_1 7 71 (mkF m 7 #[vr a, vr w, vr s, vr r] [(.ref w_5), (.ref s), (.ref w), (.ref a)])
 have sz_14 := Nat.le_trans Z0 K_7.1
 have f_15 := (P2.keep K_7)
 have f_16 := (P4.keep K_7 nin0)
 have f_17 := (P5.keep K_7 nin0)
 have f_18 := (P6.keep K_7 nin0)
 have f_19 := (P7.keep K_7 nin0)
 have f_20 := (P8.keep K_7)
 have f_21 := (P10.keep K_7 nin0)
 have f_22 := (P11.keep K_7)
 refine K.callcV (argsL := [(.ref w), (.ref s), (.ref w_5)]) (rest := []) d2_7 (w':=10) rfl rfl (c_in2w l Z a0 hw n0 h_1 (a := a) (w := w) (q := w_5) (s := s) (s0 := s0) (s1 := s1) (s2 := s2) (lv0 := _) sz_14 f_15 P3 f_16 f_17 f_18 f_19 f_20 P9 f_21 f_22 P12 (by omega) (by omega) (by omega)) hw51 hw52 hw11 hw53 (by decide) pd_3 rfl rfl (W := 0) (Nat.le_refl _) (by decide) (by decide) (by decide) (by decide) (fun lv_26 G K v_25 h_23 q_24 => ?_)
 obtain ⟨d1_28, d2_29, rfl, K_30, f_31, f_32, f_33, f_34, f_35, f_36, f_37⟩ := q_24
 have hz_38 : h.size ≤ h_1.size := K_7.1
 have sb_d1_28 : h.size ≤ d1_28 := Nat.le_trans hz_38 f_31
 have sb_d2_29 : h.size ≤ d2_29 := Nat.le_trans hz_38 f_35
 show G h_23 15 221 (mkF m 10 #[vr a, vr w, vr s, vr r] [])
 have ne_39 := (Ne.symm (Nat.ne_of_lt (Nat.lt_of_lt_of_le P2.lt (Nat.le_trans (Nat.le_refl _) f_8))))
 have f_40 := (f_11.keep K_30 (ninS ne_39 nin0))
 have f_41 := (f_10.keep K_30)
 have ne_42 := (Ne.symm (Nat.ne_of_lt (Nat.lt_of_lt_of_le P2.lt (Nat.le_trans (Nat.le_refl _) f_9))))
 have f_43 := (f_12.keep K_30 (ninS ne_42 nin0))
 have f_44 := (f_13.keep K_30)
 exact K.ret0 d2_10 (by decide) (by decide) ⟨d1_28, d2_29, w_5, d_6, rfl, (((Keep.refl h [a]).trans K_7 all0).trans K_30 (allS (Or.inl (by simp)) all0)), sb_d1_28, f_32, f_33, f_34, sb_d2_29, f_36, f_37, sb_w_5, sb_d_6, f_41, f_40, f_43, f_44⟩
theorem d14_0 : decode B14 0 = .ok (.iload_n 1, 1) := by decide +kernel
theorem d14_1 : decode B14 1 = .ok (.iload_n 2, 1) := by decide +kernel
theorem d14_2 : decode B14 2 = .ok (.if_icmp .le 44, 3) := by decide +kernel
theorem d14_46 : decode B14 46 = .ok (.iload_n 1, 1) := by decide +kernel
theorem d14_47 : decode B14 47 = .ok (.ifCond .ge 12, 3) := by decide +kernel
theorem d14_59 : decode B14 59 = .ok (.iload_n 2, 1) := by decide +kernel
theorem d14_60 : decode B14 60 = .ok (.iload_n 0, 1) := by decide +kernel
theorem d14_61 : decode B14 61 = .ok (.if_icmp .le 12, 3) := by decide +kernel
theorem d14_73 : decode B14 73 = .ok (.return_, 1) := by decide +kernel
theorem pn_java_util_Arrays : plainName "java/util/Arrays" = true := by first | (simp [plainName, overriddenIn]; done) | decide +kernel
theorem c_rc (l : Launch) (Z : State) (a0 : Array Value) (hw : HW a0 Z) (n0 : Nat) (h : Heap) (n : Int32) (f : Int32) (t : Int32) (hf : 0 ≤ f.toInt ∧ f.toInt ≤ t.toInt ∧ t.toInt ≤ n.toInt) : MeetsW l Z n0 (⟨"java/util/Arrays", "rangeCheck", "(III)V"⟩ : MethodName) B14 3 none ({ frames := 0, cells := 0, slots := 0, locals := 0 } : Room) #[(.int n), (.int f), (.int t)] h (fun v h' => v = none ∧ h = h') := by
 refine MeetsW.intro (plainFor_of_name pn_java_util_Arrays) (L0 := #[vi n, vi f, vi t]) (fun m => rfl) ?_
 intro m G K0
 have K : Cx l ({ frames := 0, cells := 0, slots := 0, locals := 0 } : Room) Z n0 _ "java/util/Arrays" "rangeCheck" B14 3 none m G := K0
 refine K.iloadN d14_0 (w':=1) rfl rfl ?_
 refine K.iloadN d14_1 (w':=2) rfl rfl ?_
 refine K.icmp_le d14_2 (pc1 := 5) rfl (by decide) (pc2 := 46) (by decide) (a := f.toInt) (b := t.toInt) rfl rfl (fun c2 => ?_) (fun c2 => ?_)
 ·refine K.iloadN d14_46 (w':=47) rfl rfl ?_
  refine K.if_ge d14_47 (pc1 := 50) rfl (by decide) (pc2 := 59) (by decide) (a := f.toInt) rfl (fun c47 => ?_) (fun c47 => ?_)
  ·refine K.iloadN d14_59 (w':=60) rfl rfl ?_
   refine K.iloadN d14_60 (w':=61) rfl rfl ?_
   refine K.icmp_le d14_61 (pc1 := 64) rfl (by decide) (pc2 := 73) (by decide) (a := t.toInt) (b := n.toInt) rfl rfl (fun c61 => ?_) (fun c61 => ?_)
   ·exact K.ret0 d14_73 (by decide) (by decide) ⟨rfl, rfl⟩
   ·exfalso; omega
  ·exfalso; omega
 ·exfalso; omega
theorem d17_0 : decode B17 0 = .ok (.iload_n 1, 1) := by decide +kernel
theorem d17_1 : decode B17 1 = .ok (.istore 4, 2) := by decide +kernel
theorem d17_3 : decode B17 3 = .ok (.iinc 4 1, 3) := by decide +kernel
theorem d17_6 : decode B17 6 = .ok (.iload 4, 2) := by decide +kernel
theorem d17_8 : decode B17 8 = .ok (.iload_n 2, 1) := by decide +kernel
theorem d17_9 : decode B17 9 = .ok (.if_icmp .ge 60, 3) := by decide +kernel
theorem d17_69 : decode B17 69 = .ok (.return_, 1) := by decide +kernel
theorem d17_12 : decode B17 12 = .ok (.aload_n 0, 1) := by decide +kernel
theorem d17_13 : decode B17 13 = .ok (.iload 4, 2) := by decide +kernel
theorem d17_15 : decode B17 15 = .ok (.dup, 1) := by decide +kernel
theorem d17_16 : decode B17 16 = .ok (.istore_n 3, 1) := by decide +kernel
theorem d17_17 : decode B17 17 = .ok (.laload, 1) := by decide +kernel
theorem d17_18 : decode B17 18 = .ok (.lstore 5, 2) := by decide +kernel
theorem d17_20 : decode B17 20 = .ok (.lload 5, 2) := by decide +kernel
theorem d17_22 : decode B17 22 = .ok (.aload_n 0, 1) := by decide +kernel
theorem d17_23 : decode B17 23 = .ok (.iload_n 3, 1) := by decide +kernel
theorem d17_24 : decode B17 24 = .ok (.iconst 1, 1) := by decide +kernel
theorem d17_25 : decode B17 25 = .ok (.isub, 1) := by decide +kernel
theorem d17_26 : decode B17 26 = .ok (.laload, 1) := by decide +kernel
theorem d17_27 : decode B17 27 = .ok (.lcmp, 1) := by decide +kernel
theorem d17_28 : decode B17 28 = .ok (.ifCond .ge 38, 3) := by decide +kernel
theorem d17_66 : decode B17 66 = .ok (.goto (-63), 3) := by decide +kernel
theorem d17_31 : decode B17 31 = .ok (.iinc 3 (-1), 3) := by decide +kernel
theorem d17_34 : decode B17 34 = .ok (.iload_n 3, 1) := by decide +kernel
theorem d17_35 : decode B17 35 = .ok (.iload_n 1, 1) := by decide +kernel
theorem d17_36 : decode B17 36 = .ok (.if_icmp .lt 23, 3) := by decide +kernel
theorem d17_39 : decode B17 39 = .ok (.lload 5, 2) := by decide +kernel
theorem d17_41 : decode B17 41 = .ok (.aload_n 0, 1) := by decide +kernel
theorem d17_42 : decode B17 42 = .ok (.iload_n 3, 1) := by decide +kernel
theorem d17_43 : decode B17 43 = .ok (.laload, 1) := by decide +kernel
theorem d17_44 : decode B17 44 = .ok (.lcmp, 1) := by decide +kernel
theorem d17_45 : decode B17 45 = .ok (.ifCond .ge 14, 3) := by decide +kernel
theorem d17_48 : decode B17 48 = .ok (.aload_n 0, 1) := by decide +kernel
theorem d17_49 : decode B17 49 = .ok (.iload_n 3, 1) := by decide +kernel
theorem d17_50 : decode B17 50 = .ok (.iconst 1, 1) := by decide +kernel
theorem d17_51 : decode B17 51 = .ok (.iadd, 1) := by decide +kernel
theorem d17_52 : decode B17 52 = .ok (.aload_n 0, 1) := by decide +kernel
theorem d17_53 : decode B17 53 = .ok (.iload_n 3, 1) := by decide +kernel
theorem d17_54 : decode B17 54 = .ok (.laload, 1) := by decide +kernel
theorem d17_55 : decode B17 55 = .ok (.lastore, 1) := by decide +kernel
theorem d17_56 : decode B17 56 = .ok (.goto (-25), 3) := by decide +kernel
theorem d17_59 : decode B17 59 = .ok (.aload_n 0, 1) := by decide +kernel
theorem d17_60 : decode B17 60 = .ok (.iload_n 3, 1) := by decide +kernel
theorem d17_61 : decode B17 61 = .ok (.iconst 1, 1) := by decide +kernel
theorem d17_62 : decode B17 62 = .ok (.iadd, 1) := by decide +kernel
theorem d17_63 : decode B17 63 = .ok (.lload 5, 2) := by decide +kernel
theorem d17_65 : decode B17 65 = .ok (.lastore, 1) := by decide +kernel
theorem pn_java_util_DualPivotQuicksort : plainName "java/util/DualPivotQuicksort" = true := by first | (simp [plainName, overriddenIn]; done) | decide +kernel
theorem c_is2 (l : Launch) (Z : State) (a0 : Array Value) (hw : HW a0 Z) (n0 : Nat) (h : Heap) (a : Addr) (x0 : Int64) (x1 : Int64) (P1 : Ary Z h a .long [(.long x0), (.long x1)]) (P2 : n0 ≤ a) : MeetsW l Z n0 (⟨"java/util/DualPivotQuicksort", "insertionSort", "([JII)V"⟩ : MethodName) B17 7 none ({ frames := 0, cells := 0, slots := 0, locals := 0 } : Room) #[(.ref a), (.int 0), (.int 2)] h (fun v h' => ∃ (y0 : Int64) (y1 : Int64), v = none ∧ Keep h h' [a] ∧ Ary Z h' a .long [(.long y0), (.long y1)] ∧ ((y0.toInt ≤ y1.toInt) ∧ ∀ v : Int, (v = y0.toInt ∨ v = y1.toInt) ↔ (v = x0.toInt ∨ v = x1.toInt))) := by
 refine MeetsW.intro (plainFor_of_name pn_java_util_DualPivotQuicksort) (L0 := #[vr a, vi 0, vi 2, un, un, un, un]) (fun m => rfl) ?_
 intro m G K0
 have K : Cx l ({ frames := 0, cells := 0, slots := 0, locals := 0 } : Room) Z n0 _ "java/util/DualPivotQuicksort" "insertionSort" B17 7 none m G := K0
 have hm_0 : ∀ v : Int, (v = x0.toInt) ↔ (v = x0.toInt) := fun _ => Iff.rfl
 refine K.iloadN d17_0 (w':=1) rfl rfl ?_
 refine K.istore d17_1 (w':=3) rfl (L' := #[vr a, vi 0, vi 2, un, vi 0, un, un]) rfl ?_
 refine K.iinc d17_3 (w':=6) rfl rfl (z := (1 : Int32)) rfl (L' := #[vr a, vi 0, vi 2, un, vi 1, un, un]) rfl ?_
 refine K.iload d17_6 (w':=8) rfl rfl ?_
 refine K.iloadN d17_8 (w':=9) rfl rfl ?_
 refine K.icmp_ge d17_9 (pc1 := 12) rfl (by decide) (pc2 := 69) (by decide) (a := 1) (b := 2) rfl rfl (fun c9 => ?_) (fun c9 => ?_)
 ·exfalso; omega
 ·have H3_1 : ∀ (i1 : Int32) (q1 : Int64) (y1_0 : Int64) (y1_1 : Int64) (h_1 : Heap) (K_2 : Keep h h_1 [a]) (A_3 : Ary Z h_1 a .long [(.long y1_0), (.long y1_1)]), ((y1_0.toInt ≤ y1_1.toInt) ∧ ∀ v : Int, (v = y1_0.toInt ∨ v = y1_1.toInt) ↔ (v = x0.toInt ∨ v = x1.toInt)) → G h_1 0 0 (mkF m 3 #[vr a, vi 0, vi 2, vi i1, vi 1, vj q1, se] []) := by
   intro i1 q1 y1_0 y1_1 h_1 K_2 A_3 hj_1
   obtain ⟨hs_1, hm_1⟩ := hj_1
   refine K.iinc d17_3 (w':=6) rfl rfl (z := (2 : Int32)) rfl (L' := #[vr a, vi 0, vi 2, vi i1, vi 2, vj q1, se]) rfl ?_
   refine K.iload d17_6 (w':=8) rfl rfl ?_
   refine K.iloadN d17_8 (w':=9) rfl rfl ?_
   refine K.icmp_ge d17_9 (pc1 := 12) rfl (by decide) (pc2 := 69) (by decide) (a := 2) (b := 2) rfl rfl (fun c9_1 => ?_) (fun c9_1 => ?_)
   ·exact K.ret0 d17_69 (by decide) (by decide) ⟨y1_0, y1_1, rfl, ((Keep.refl h [a]).trans K_2 (allS (Or.inl (by simp)) all0)), A_3, by exact ⟨hs_1, hm_1⟩⟩
   ·exfalso; omega
  refine K.aloadN d17_12 (w':=13) rfl rfl rfl ?_
  refine K.iload d17_13 (w':=15) rfl rfl ?_
  refine K.dup d17_15 (w':=16) rfl rfl ?_
  refine K.istoreN d17_16 (w':=17) rfl (L' := #[vr a, vi 0, vi 2, vi 1, vi 1, un, un]) rfl ?_
  refine K.lald d17_17 (w':=18) rfl P1 (i := 1) rfl rfl ?_
  refine K.lstore d17_18 (w':=20) rfl (L' := #[vr a, vi 0, vi 2, vi 1, vi 1, vj x1, se]) rfl ?_
  refine K.lload d17_20 (w':=22) rfl rfl ?_
  refine K.aloadN d17_22 (w':=23) rfl rfl rfl ?_
  refine K.iloadN d17_23 (w':=24) rfl rfl ?_
  refine K.iconst d17_24 (w':=25) rfl (z := 1) rfl ?_
  refine K.isub d17_25 (w':=26) rfl (z := (0 : Int32)) (by decide) ?_
  refine K.lald d17_26 (w':=27) rfl P1 (i := 0) rfl rfl ?_
  refine K.lcmp_ge d17_27 d17_28 (pc1 := 31) rfl (by decide) (pc2 := 66) (by decide) (a := x1.toInt) (b := x0.toInt) rfl rfl (fun c27 => ?_) (fun c27 => ?_)
  ·refine K.goto d17_66 (by decide) (w':=3) (by decide) ?_
   exact H3_1 (1 : Int32) x1 (x0) (x1) h (Keep.refl h [a]) P1 (by exact ⟨by omega, fun v => (Iff.of_eq (show (v = x0.toInt ∨ v = x1.toInt) = ((v = x0.toInt) ∨ v = x1.toInt) from by ac_rfl)).trans ((or_congr_left (hm_0 v)).trans (Iff.of_eq (show ((v = x0.toInt) ∨ v = x1.toInt) = (v = x0.toInt ∨ v = x1.toInt) from by ac_rfl)))⟩)
  ·refine K.iinc d17_31 (w':=34) rfl rfl (z := (0 : Int32)) rfl (L' := #[vr a, vi 0, vi 2, vi 0, vi 1, vj x1, se]) rfl ?_
   refine K.iloadN d17_34 (w':=35) rfl rfl ?_
   refine K.iloadN d17_35 (w':=36) rfl rfl ?_
   refine K.icmp_lt d17_36 (pc1 := 39) rfl (by decide) (pc2 := 59) (by decide) (a := 0) (b := 0) rfl rfl (fun c36 => ?_) (fun c36 => ?_)
   ·exfalso; omega
   ·refine K.lload d17_39 (w':=41) rfl rfl ?_
    refine K.aloadN d17_41 (w':=42) rfl rfl rfl ?_
    refine K.iloadN d17_42 (w':=43) rfl rfl ?_
    refine K.lald d17_43 (w':=44) rfl P1 (i := 0) rfl rfl ?_
    refine K.lcmp_ge d17_44 d17_45 (pc1 := 48) rfl (by decide) (pc2 := 59) (by decide) (a := x1.toInt) (b := x0.toInt) rfl rfl (fun c44 => ?_) (fun c44 => ?_)
    ·exfalso; omega
    ·refine K.aloadN d17_48 (w':=49) rfl rfl rfl ?_
     refine K.iloadN d17_49 (w':=50) rfl rfl ?_
     refine K.iconst d17_50 (w':=51) rfl (z := 1) rfl ?_
     refine K.iadd d17_51 (w':=52) rfl (z := (1 : Int32)) (by decide) ?_
     refine K.aloadN d17_52 (w':=53) rfl rfl rfl ?_
     refine K.iloadN d17_53 (w':=54) rfl rfl ?_
     refine K.lald d17_54 (w':=55) rfl P1 (i := 0) rfl rfl ?_
     refine K.last d17_55 (w':=56) rfl P1 (i := 1) rfl (show 1 < 2 by decide) P2 (fun h_4 W_5 A_6 => ?_)
     have A_7 : Ary Z h_4 a .long [(.long x0), (.long x0)] := A_6
     refine K.goto d17_56 (by decide) (w':=31) (by decide) ?_
     refine K.iinc d17_31 (w':=34) rfl rfl (z := (-1 : Int32)) rfl (L' := #[vr a, vi 0, vi 2, vi (-1), vi 1, vj x1, se]) rfl ?_
     refine K.iloadN d17_34 (w':=35) rfl rfl ?_
     refine K.iloadN d17_35 (w':=36) rfl rfl ?_
     refine K.icmp_lt d17_36 (pc1 := 39) rfl (by decide) (pc2 := 59) (by decide) (a := (-1)) (b := 0) rfl rfl (fun c36_1 => ?_) (fun c36_1 => ?_)
     ·refine K.aloadN d17_59 (w':=60) rfl rfl rfl ?_
      refine K.iloadN d17_60 (w':=61) rfl rfl ?_
      refine K.iconst d17_61 (w':=62) rfl (z := 1) rfl ?_
      refine K.iadd d17_62 (w':=63) rfl (z := (0 : Int32)) (by decide) ?_
      refine K.lload d17_63 (w':=65) rfl rfl ?_
      refine K.last d17_65 (w':=66) rfl A_7 (i := 0) rfl (show 0 < 2 by decide) P2 (fun h_8 W_9 A_10 => ?_)
      have A_11 : Ary Z h_8 a .long [(.long x1), (.long x0)] := A_10
      refine K.goto d17_66 (by decide) (w':=3) (by decide) ?_
      exact H3_1 (-1 : Int32) x1 (x1) (x0) h_8 (((Keep.refl h [a]).wr W_5 (Or.inl (by simp))).wr W_9 (Or.inl (by simp))) A_11 (by exact ⟨by omega, fun v => (Iff.of_eq (show (v = x1.toInt ∨ v = x0.toInt) = ((v = x0.toInt) ∨ v = x1.toInt) from by ac_rfl)).trans ((or_congr_left (hm_0 v)).trans (Iff.of_eq (show ((v = x0.toInt) ∨ v = x1.toInt) = (v = x0.toInt ∨ v = x1.toInt) from by ac_rfl)))⟩)
     ·exfalso; omega
theorem d16_0 : decode B16 0 = .ok (.iload 4, 2) := by decide +kernel
theorem d16_2 : decode B16 2 = .ok (.iconst 1, 1) := by decide +kernel
theorem d16_3 : decode B16 3 = .ok (.isub, 1) := by decide +kernel
theorem d16_4 : decode B16 4 = .ok (.istore 5, 2) := by decide +kernel
theorem d16_6 : decode B16 6 = .ok (.iload 4, 2) := by decide +kernel
theorem d16_8 : decode B16 8 = .ok (.iload_n 3, 1) := by decide +kernel
theorem d16_9 : decode B16 9 = .ok (.isub, 1) := by decide +kernel
theorem d16_10 : decode B16 10 = .ok (.istore 6, 2) := by decide +kernel
theorem d16_12 : decode B16 12 = .ok (.iload 6, 2) := by decide +kernel
theorem d16_14 : decode B16 14 = .ok (.bipush 65, 2) := by decide +kernel
theorem d16_16 : decode B16 16 = .ok (.iload_n 2, 1) := by decide +kernel
theorem d16_17 : decode B16 17 = .ok (.iadd, 1) := by decide +kernel
theorem d16_18 : decode B16 18 = .ok (.if_icmp .ge 28, 3) := by decide +kernel
theorem d16_21 : decode B16 21 = .ok (.iload_n 2, 1) := by decide +kernel
theorem d16_22 : decode B16 22 = .ok (.iconst 1, 1) := by decide +kernel
theorem d16_23 : decode B16 23 = .ok (.iand, 1) := by decide +kernel
theorem d16_24 : decode B16 24 = .ok (.ifCond .le 22, 3) := by decide +kernel
theorem d16_46 : decode B16 46 = .ok (.iload 6, 2) := by decide +kernel
theorem d16_48 : decode B16 48 = .ok (.bipush 44, 2) := by decide +kernel
theorem d16_50 : decode B16 50 = .ok (.if_icmp .ge 11, 3) := by decide +kernel
theorem d16_53 : decode B16 53 = .ok (.aload_n 1, 1) := by decide +kernel
theorem d16_54 : decode B16 54 = .ok (.iload_n 3, 1) := by decide +kernel
theorem d16_55 : decode B16 55 = .ok (.iload 4, 2) := by decide +kernel
theorem d16_57 : decode B16 57 = .ok (.invokestatic 105, 3) := by decide +kernel
theorem pd_4 : parseMethodDescriptor "([JII)V" = some ⟨[(.array .long), .int, .int], none⟩ := by decide +kernel
theorem d16_60 : decode B16 60 = .ok (.return_, 1) := by decide +kernel
theorem c_ds2 (l : Launch) (Z : State) (a0 : Array Value) (hw : HW a0 Z) (n0 : Nat) (h : Heap) (a : Addr) (x0 : Int64) (x1 : Int64) (P1 : Ary Z h a .long [(.long x0), (.long x1)]) (P2 : n0 ≤ a) : MeetsW l Z n0 (⟨"java/util/DualPivotQuicksort", "sort", "(Ljava/util/DualPivotQuicksort$Sorter;[JIII)V"⟩ : MethodName) B16 25 none ({ frames := 1, cells := 0, slots := 0, locals := 18 } : Room) #[.null, (.ref a), (.int 0), (.int 0), (.int 2)] h (fun v h' => ∃ (y0 : Int64) (y1 : Int64), v = none ∧ Keep h h' [a] ∧ Ary Z h' a .long [(.long y0), (.long y1)] ∧ ((y0.toInt ≤ y1.toInt) ∧ ∀ v : Int, (v = y0.toInt ∨ v = y1.toInt) ↔ (v = x0.toInt ∨ v = x1.toInt))) := by
 refine MeetsW.intro (plainFor_of_name pn_java_util_DualPivotQuicksort) (L0 := #[vn, vr a, vi 0, vi 0, vi 2, un, un, un, un, un, un, un, un, un, un, un, un, un, un, un, un, un, un, un, un]) (fun m => by first | (simp [entryFrame, mkF, argsToLocals, Value.category]; done) | rfl) ?_
 intro m G K0
 have K : Cx l ({ frames := 1, cells := 0, slots := 0, locals := 18 } : Room) Z n0 _ "java/util/DualPivotQuicksort" "sort" B16 25 none m G := K0
 have hw95 := tb hw (i:=95) rfl
 have hw100 := tb hw (i:=100) rfl
 have hw101 := tb hw (i:=101) rfl
 have hw102 := tb hw (i:=102) rfl
 refine K.iload d16_0 (w':=2) rfl rfl ?_
 refine K.iconst d16_2 (w':=3) rfl (z := 1) rfl ?_
 refine K.isub d16_3 (w':=4) rfl (z := (1 : Int32)) (by decide) ?_
 refine K.istore d16_4 (w':=6) rfl (L' := #[vn, vr a, vi 0, vi 0, vi 2, vi 1, un, un, un, un, un, un, un, un, un, un, un, un, un, un, un, un, un, un, un]) rfl ?_
 refine K.iload d16_6 (w':=8) rfl rfl ?_
 refine K.iloadN d16_8 (w':=9) rfl rfl ?_
 refine K.isub d16_9 (w':=10) rfl (z := (2 : Int32)) (by decide) ?_
 refine K.istore d16_10 (w':=12) rfl (L' := #[vn, vr a, vi 0, vi 0, vi 2, vi 1, vi 2, un, un, un, un, un, un, un, un, un, un, un, un, un, un, un, un, un, un]) rfl ?_
 refine K.iload d16_12 (w':=14) rfl rfl ?_
 refine K.bipush d16_14 (w':=16) rfl (z := 65) rfl ?_
 refine K.iloadN d16_16 (w':=17) rfl rfl ?_
 refine K.iadd d16_17 (w':=18) rfl (z := (65 : Int32)) (by decide) ?_
 refine K.icmp_ge d16_18 (pc1 := 21) rfl (by decide) (pc2 := 46) (by decide) (a := 2) (b := 65) rfl rfl (fun c18 => ?_) (fun c18 => ?_)
 ·exfalso; omega
 ·refine K.iloadN d16_21 (w':=22) rfl rfl ?_
  refine K.iconst d16_22 (w':=23) rfl (z := 1) rfl ?_
  refine K.iand d16_23 (w':=24) rfl (z := (0 : Int32)) (by decide) ?_
  refine K.if_le d16_24 (pc1 := 27) rfl (by decide) (pc2 := 46) (by decide) (a := 0) rfl (fun c24 => ?_) (fun c24 => ?_)
  ·refine K.iload d16_46 (w':=48) rfl rfl ?_
   refine K.bipush d16_48 (w':=50) rfl (z := 44) rfl ?_
   refine K.icmp_ge d16_50 (pc1 := 53) rfl (by decide) (pc2 := 61) (by decide) (a := 2) (b := 44) rfl rfl (fun c50 => ?_) (fun c50 => ?_)
   ·exfalso; omega
   ·refine K.aloadN d16_53 (w':=54) rfl rfl rfl ?_
    refine K.iloadN d16_54 (w':=55) rfl rfl ?_
    refine K.iload d16_55 (w':=57) rfl rfl ?_
    refine K.calls (argsL := [(.ref a), (.int 0), (.int 2)]) (rest := []) d16_57 (w':=60) rfl (c_is2 l Z a0 hw n0 h (a := a) (x0 := x0) (x1 := x1) P1 P2) hw100 hw101 hw95 hw102 (by decide) pd_4 rfl rfl (W := 0) (Nat.le_refl _) (by decide) (by decide) (by decide) (by decide) (fun v_3 h_1 q_2 => ?_)
    obtain ⟨y0_5, y1_6, rfl, K_7, f_8, hst_w_4⟩ := q_2
    show G h_1 0 0 (mkF m 60 #[vn, vr a, vi 0, vi 0, vi 2, vi 1, vi 2, un, un, un, un, un, un, un, un, un, un, un, un, un, un, un, un, un, un] [])
    exact K.ret0 d16_60 (by decide) (by decide) ⟨y0_5, y1_6, rfl, ((Keep.refl h [a]).trans K_7 (allS (Or.inl (by simp)) all0)), f_8, by assumption⟩
  ·exfalso; omega
theorem d15_0 : decode B15 0 = .ok (.iload_n 3, 1) := by decide +kernel
theorem d15_1 : decode B15 1 = .ok (.iload_n 2, 1) := by decide +kernel
theorem d15_2 : decode B15 2 = .ok (.isub, 1) := by decide +kernel
theorem d15_3 : decode B15 3 = .ok (.istore 4, 2) := by decide +kernel
theorem d15_5 : decode B15 5 = .ok (.iload_n 1, 1) := by decide +kernel
theorem d15_6 : decode B15 6 = .ok (.iconst 1, 1) := by decide +kernel
theorem d15_7 : decode B15 7 = .ok (.if_icmp .le 61, 3) := by decide +kernel
theorem d15_68 : decode B15 68 = .ok (.aconst_null, 1) := by decide +kernel
theorem d15_69 : decode B15 69 = .ok (.aload_n 0, 1) := by decide +kernel
theorem d15_70 : decode B15 70 = .ok (.iconst 0, 1) := by decide +kernel
theorem d15_71 : decode B15 71 = .ok (.iload_n 2, 1) := by decide +kernel
theorem d15_72 : decode B15 72 = .ok (.iload_n 3, 1) := by decide +kernel
theorem d15_73 : decode B15 73 = .ok (.invokestatic 99, 3) := by decide +kernel
theorem pd_5 : parseMethodDescriptor "(Ljava/util/DualPivotQuicksort$Sorter;[JIII)V" = some ⟨[(.object "java/util/DualPivotQuicksort$Sorter"), (.array .long), .int, .int, .int], none⟩ := by decide +kernel
theorem d15_76 : decode B15 76 = .ok (.return_, 1) := by decide +kernel
theorem c_dq2 (l : Launch) (Z : State) (a0 : Array Value) (hw : HW a0 Z) (n0 : Nat) (h : Heap) (a : Addr) (x0 : Int64) (x1 : Int64) (P1 : Ary Z h a .long [(.long x0), (.long x1)]) (P2 : n0 ≤ a) : MeetsW l Z n0 (⟨"java/util/DualPivotQuicksort", "sort", "([JIII)V"⟩ : MethodName) B15 7 none ({ frames := 2, cells := 0, slots := 0, locals := 54 } : Room) #[(.ref a), (.int 0), (.int 0), (.int 2)] h (fun v h' => ∃ (y0 : Int64) (y1 : Int64), v = none ∧ Keep h h' [a] ∧ Ary Z h' a .long [(.long y0), (.long y1)] ∧ ((y0.toInt ≤ y1.toInt) ∧ ∀ v : Int, (v = y0.toInt ∨ v = y1.toInt) ↔ (v = x0.toInt ∨ v = x1.toInt))) := by
 refine MeetsW.intro (plainFor_of_name pn_java_util_DualPivotQuicksort) (L0 := #[vr a, vi 0, vi 0, vi 2, un, un, un]) (fun m => rfl) ?_
 intro m G K0
 have K : Cx l ({ frames := 2, cells := 0, slots := 0, locals := 54 } : Room) Z n0 _ "java/util/DualPivotQuicksort" "sort" B15 7 none m G := K0
 have hw95 := tb hw (i:=95) rfl
 have hw97 := tb hw (i:=97) rfl
 have hw98 := tb hw (i:=98) rfl
 have hw99 := tb hw (i:=99) rfl
 refine K.iloadN d15_0 (w':=1) rfl rfl ?_
 refine K.iloadN d15_1 (w':=2) rfl rfl ?_
 refine K.isub d15_2 (w':=3) rfl (z := (2 : Int32)) (by decide) ?_
 refine K.istore d15_3 (w':=5) rfl (L' := #[vr a, vi 0, vi 0, vi 2, vi 2, un, un]) rfl ?_
 refine K.iloadN d15_5 (w':=6) rfl rfl ?_
 refine K.iconst d15_6 (w':=7) rfl (z := 1) rfl ?_
 refine K.icmp_le d15_7 (pc1 := 10) rfl (by decide) (pc2 := 68) (by decide) (a := 0) (b := 1) rfl rfl (fun c7 => ?_) (fun c7 => ?_)
 ·refine K.anull d15_68 (w':=69) rfl ?_
  refine K.aloadN d15_69 (w':=70) rfl rfl rfl ?_
  refine K.iconst d15_70 (w':=71) rfl (z := 0) rfl ?_
  refine K.iloadN d15_71 (w':=72) rfl rfl ?_
  refine K.iloadN d15_72 (w':=73) rfl rfl ?_
  refine K.calls (argsL := [.null, (.ref a), (.int 0), (.int 0), (.int 2)]) (rest := []) d15_73 (w':=76) rfl (c_ds2 l Z a0 hw n0 h (a := a) (x0 := x0) (x1 := x1) P1 P2) hw97 hw98 hw95 hw99 (by decide) pd_5 rfl rfl (W := 0) (Nat.le_refl _) (by decide) (by decide) (by decide) (by decide) (fun v_3 h_1 q_2 => ?_)
  obtain ⟨y0_5, y1_6, rfl, K_7, f_8, hst_w_4⟩ := q_2
  show G h_1 0 0 (mkF m 76 #[vr a, vi 0, vi 0, vi 2, vi 2, un, un] [])
  exact K.ret0 d15_76 (by decide) (by decide) ⟨y0_5, y1_6, rfl, ((Keep.refl h [a]).trans K_7 (allS (Or.inl (by simp)) all0)), f_8, by assumption⟩
 ·exfalso; omega
theorem d13_0 : decode B13 0 = .ok (.aload_n 0, 1) := by decide +kernel
theorem d13_1 : decode B13 1 = .ok (.arraylength, 1) := by decide +kernel
theorem d13_2 : decode B13 2 = .ok (.iload_n 1, 1) := by decide +kernel
theorem d13_3 : decode B13 3 = .ok (.iload_n 2, 1) := by decide +kernel
theorem d13_4 : decode B13 4 = .ok (.invokestatic 13, 3) := by decide +kernel
theorem pd_6 : parseMethodDescriptor "(III)V" = some ⟨[.int, .int, .int], none⟩ := by decide +kernel
theorem d13_7 : decode B13 7 = .ok (.aload_n 0, 1) := by decide +kernel
theorem d13_8 : decode B13 8 = .ok (.iconst 0, 1) := by decide +kernel
theorem d13_9 : decode B13 9 = .ok (.iload_n 1, 1) := by decide +kernel
theorem d13_10 : decode B13 10 = .ok (.iload_n 2, 1) := by decide +kernel
theorem d13_11 : decode B13 11 = .ok (.invokestatic 19, 3) := by decide +kernel
theorem pd_7 : parseMethodDescriptor "([JIII)V" = some ⟨[(.array .long), .int, .int, .int], none⟩ := by decide +kernel
theorem d13_14 : decode B13 14 = .ok (.return_, 1) := by decide +kernel
theorem c_so2 (l : Launch) (Z : State) (a0 : Array Value) (hw : HW a0 Z) (n0 : Nat) (h : Heap) (a : Addr) (x0 : Int64) (x1 : Int64) (P1 : Ary Z h a .long [(.long x0), (.long x1)]) (P2 : n0 ≤ a) : MeetsW l Z n0 (⟨"java/util/Arrays", "sort", "([JII)V"⟩ : MethodName) B13 3 none ({ frames := 3, cells := 0, slots := 0, locals := 72 } : Room) #[(.ref a), (.int 0), (.int 2)] h (fun v h' => ∃ (y0 : Int64) (y1 : Int64), v = none ∧ Keep h h' [a] ∧ Ary Z h' a .long [(.long y0), (.long y1)] ∧ ((y0.toInt ≤ y1.toInt) ∧ ∀ v : Int, (v = y0.toInt ∨ v = y1.toInt) ↔ (v = x0.toInt ∨ v = x1.toInt))) := by
 refine MeetsW.intro (plainFor_of_name pn_java_util_Arrays) (L0 := #[vr a, vi 0, vi 2]) (fun m => rfl) ?_
 intro m G K0
 have K : Cx l ({ frames := 3, cells := 0, slots := 0, locals := 72 } : Room) Z n0 _ "java/util/Arrays" "sort" B13 3 none m G := K0
 have hw88 := tb hw (i:=88) rfl
 have hw90 := tb hw (i:=90) rfl
 have hw91 := tb hw (i:=91) rfl
 have hw92 := tb hw (i:=92) rfl
 have hw93 := tb hw (i:=93) rfl
 have hw94 := tb hw (i:=94) rfl
 have hw95 := tb hw (i:=95) rfl
 have hw96 := tb hw (i:=96) rfl
 refine K.aloadN d13_0 (w':=1) rfl rfl rfl ?_
 refine K.alen d13_1 (w':=2) rfl P1 (fun n e_n => ?_)
 have t_n : n.toInt = 2 := e_n
 have cs_n : n = 2 := by
  have q : n.toInt = 2 := by omega
  rcases q with q
  ·exact eqI q
 rcases cs_n with rfl
 ·refine K.iloadN d13_2 (w':=3) rfl rfl ?_
  refine K.iloadN d13_3 (w':=4) rfl rfl ?_
  refine K.calls (argsL := [(.int 2), (.int 0), (.int 2)]) (rest := []) d13_4 (w':=7) rfl (c_rc l Z a0 hw n0 h (n := (2 : Int32)) (f := (0 : Int32)) (t := (2 : Int32)) (by decide)) hw90 hw91 hw88 hw92 (by decide) pd_6 rfl rfl (W := 0) (Nat.le_refl _) (by decide) (by decide) (by decide) (by decide) (fun v_3 h_1 q_2 => ?_)
  obtain ⟨rfl, rfl⟩ := q_2
  show G h 0 0 (mkF m 7 #[vr a, vi 0, vi 2] [])
  refine K.aloadN d13_7 (w':=8) rfl rfl rfl ?_
  refine K.iconst d13_8 (w':=9) rfl (z := 0) rfl ?_
  refine K.iloadN d13_9 (w':=10) rfl rfl ?_
  refine K.iloadN d13_10 (w':=11) rfl rfl ?_
  refine K.calls (argsL := [(.ref a), (.int 0), (.int 0), (.int 2)]) (rest := []) d13_11 (w':=14) rfl (c_dq2 l Z a0 hw n0 h (a := a) (x0 := x0) (x1 := x1) P1 P2) hw93 hw94 hw95 hw96 (by decide) pd_7 rfl rfl (W := 0) (Nat.le_refl _) (by decide) (by decide) (by decide) (by decide) (fun v_7 h_5 q_6 => ?_)
  obtain ⟨y0_9, y1_10, rfl, K_11, f_12, hst_w_8⟩ := q_6
  show G h_5 0 0 (mkF m 14 #[vr a, vi 0, vi 2] [])
  exact K.ret0 d13_14 (by decide) (by decide) ⟨y0_9, y1_10, rfl, ((Keep.refl h [a]).trans K_11 (allS (Or.inl (by simp)) all0)), f_12, by assumption⟩
theorem d12_0 : decode B12 0 = .ok (.iload_n 2, 1) := by decide +kernel
theorem d12_1 : decode B12 1 = .ok (.iload_n 1, 1) := by decide +kernel
theorem d12_2 : decode B12 2 = .ok (.isub, 1) := by decide +kernel
theorem d12_3 : decode B12 3 = .ok (.iconst 1, 1) := by decide +kernel
theorem d12_4 : decode B12 4 = .ok (.if_icmp .le 9, 3) := by decide +kernel
theorem d12_7 : decode B12 7 = .ok (.aload_n 0, 1) := by decide +kernel
theorem d12_8 : decode B12 8 = .ok (.iload_n 1, 1) := by decide +kernel
theorem d12_9 : decode B12 9 = .ok (.iload_n 2, 1) := by decide +kernel
theorem d12_10 : decode B12 10 = .ok (.invokestatic 101, 3) := by decide +kernel
theorem d12_13 : decode B12 13 = .ok (.iload_n 1, 1) := by decide +kernel
theorem d12_14 : decode B12 14 = .ok (.istore_n 3, 1) := by decide +kernel
theorem d12_15 : decode B12 15 = .ok (.iload_n 1, 1) := by decide +kernel
theorem d12_16 : decode B12 16 = .ok (.istore 4, 2) := by decide +kernel
theorem d12_18 : decode B12 18 = .ok (.iload 4, 2) := by decide +kernel
theorem d12_20 : decode B12 20 = .ok (.iload_n 2, 1) := by decide +kernel
theorem d12_21 : decode B12 21 = .ok (.if_icmp .ge 37, 3) := by decide +kernel
theorem d12_24 : decode B12 24 = .ok (.iload_n 3, 1) := by decide +kernel
theorem d12_25 : decode B12 25 = .ok (.iload_n 1, 1) := by decide +kernel
theorem d12_26 : decode B12 26 = .ok (.if_icmp .eq 16, 3) := by decide +kernel
theorem d12_42 : decode B12 42 = .ok (.aload_n 0, 1) := by decide +kernel
theorem d12_43 : decode B12 43 = .ok (.iload_n 3, 1) := by decide +kernel
theorem d12_44 : decode B12 44 = .ok (.aload_n 0, 1) := by decide +kernel
theorem d12_45 : decode B12 45 = .ok (.iload 4, 2) := by decide +kernel
theorem d12_47 : decode B12 47 = .ok (.laload, 1) := by decide +kernel
theorem d12_48 : decode B12 48 = .ok (.lastore, 1) := by decide +kernel
theorem d12_49 : decode B12 49 = .ok (.iinc 3 1, 3) := by decide +kernel
theorem d12_52 : decode B12 52 = .ok (.iinc 4 1, 3) := by decide +kernel
theorem d12_55 : decode B12 55 = .ok (.goto (-37), 3) := by decide +kernel
theorem d12_29 : decode B12 29 = .ok (.aload_n 0, 1) := by decide +kernel
theorem d12_30 : decode B12 30 = .ok (.iload_n 3, 1) := by decide +kernel
theorem d12_31 : decode B12 31 = .ok (.iconst 1, 1) := by decide +kernel
theorem d12_32 : decode B12 32 = .ok (.isub, 1) := by decide +kernel
theorem d12_33 : decode B12 33 = .ok (.laload, 1) := by decide +kernel
theorem d12_34 : decode B12 34 = .ok (.aload_n 0, 1) := by decide +kernel
theorem d12_35 : decode B12 35 = .ok (.iload 4, 2) := by decide +kernel
theorem d12_37 : decode B12 37 = .ok (.laload, 1) := by decide +kernel
theorem d12_38 : decode B12 38 = .ok (.lcmp, 1) := by decide +kernel
theorem d12_39 : decode B12 39 = .ok (.ifCond .eq 13, 3) := by decide +kernel
theorem d12_58 : decode B12 58 = .ok (.iload_n 3, 1) := by decide +kernel
theorem d12_59 : decode B12 59 = .ok (.ireturn, 1) := by decide +kernel
theorem c_ts2 (l : Launch) (Z : State) (a0 : Array Value) (hw : HW a0 Z) (n0 : Nat) (h : Heap) (a : Addr) (x0 : Int64) (x1 : Int64) (P1 : Ary Z h a .long [(.long x0), (.long x1)]) (P2 : n0 ≤ a) : MeetsW l Z n0 (⟨sR, "toSet", "([JII)I"⟩ : MethodName) B12 5 (some .int) ({ frames := 4, cells := 0, slots := 0, locals := 86 } : Room) #[(.ref a), (.int 0), (.int 2)] h (fun v h' => ∃ (z : Int32) (ds : List Int64) (js : List Int64), v = some (.int z) ∧ (z.toInt = (ds.length : Nat) ∧ ds.length + js.length = 2 ∧ SD ds (fun v => v = x0.toInt ∨ v = x1.toInt)) ∧ Keep h h' [a] ∧ Ary Z h' a .long ((ds ++ js).map Value.long)) := by
 refine MeetsW.intro (plainFor_of_name pn_com_example_odograph_odograph_model_Requests) (L0 := #[vr a, vi 0, vi 2, un, un]) (fun m => rfl) ?_
 intro m G K0
 have K : Cx l ({ frames := 4, cells := 0, slots := 0, locals := 86 } : Room) Z n0 _ sR "toSet" B12 5 (some .int) m G := K0
 have hw86 := tb hw (i:=86) rfl
 have hw87 := tb hw (i:=87) rfl
 have hw88 := tb hw (i:=88) rfl
 have hw89 := tb hw (i:=89) rfl
 refine K.iloadN d12_0 (w':=1) rfl rfl ?_
 refine K.iloadN d12_1 (w':=2) rfl rfl ?_
 refine K.isub d12_2 (w':=3) rfl (z := (2 : Int32)) (by decide) ?_
 refine K.iconst d12_3 (w':=4) rfl (z := 1) rfl ?_
 refine K.icmp_le d12_4 (pc1 := 7) rfl (by decide) (pc2 := 13) (by decide) (a := 2) (b := 1) rfl rfl (fun c4 => ?_) (fun c4 => ?_)
 ·exfalso; omega
 ·refine K.aloadN d12_7 (w':=8) rfl rfl rfl ?_
  refine K.iloadN d12_8 (w':=9) rfl rfl ?_
  refine K.iloadN d12_9 (w':=10) rfl rfl ?_
  refine K.calls (argsL := [(.ref a), (.int 0), (.int 2)]) (rest := []) d12_10 (w':=13) rfl (c_so2 l Z a0 hw n0 h (a := a) (x0 := x0) (x1 := x1) P1 P2) hw86 hw87 hw88 hw89 (by decide) pd_4 rfl rfl (W := 0) (Nat.le_refl _) (by decide) (by decide) (by decide) (by decide) (fun v_3 h_1 q_2 => ?_)
  obtain ⟨y0_4, y1_5, rfl, K_6, f_7, hst_S⟩ := q_2
  obtain ⟨hs_S, hm_S⟩ := hst_S
  show G h_1 0 0 (mkF m 13 #[vr a, vi 0, vi 2, un, un] [])
  refine K.iloadN d12_13 (w':=14) rfl rfl ?_
  refine K.istoreN d12_14 (w':=15) rfl (L' := #[vr a, vi 0, vi 2, vi 0, un]) rfl ?_
  refine K.iloadN d12_15 (w':=16) rfl rfl ?_
  refine K.istore d12_16 (w':=18) rfl (L' := #[vr a, vi 0, vi 2, vi 0, vi 0]) rfl ?_
  refine K.iload d12_18 (w':=20) rfl rfl ?_
  refine K.iloadN d12_20 (w':=21) rfl rfl ?_
  refine K.icmp_ge d12_21 (pc1 := 24) rfl (by decide) (pc2 := 58) (by decide) (a := 0) (b := 2) rfl rfl (fun c21 => ?_) (fun c21 => ?_)
  ·exfalso; omega
  ·refine K.iloadN d12_24 (w':=25) rfl rfl ?_
   refine K.iloadN d12_25 (w':=26) rfl rfl ?_
   refine K.icmp_eq d12_26 (pc1 := 29) rfl (by decide) (pc2 := 42) (by decide) (a := 0) (b := 0) rfl rfl (fun c26 => ?_) (fun c26 => ?_)
   ·refine K.aloadN d12_42 (w':=43) rfl rfl rfl ?_
    refine K.iloadN d12_43 (w':=44) rfl rfl ?_
    refine K.aloadN d12_44 (w':=45) rfl rfl rfl ?_
    refine K.iload d12_45 (w':=47) rfl rfl ?_
    refine K.lald d12_47 (w':=48) rfl f_7 (i := 0) rfl rfl ?_
    refine K.last d12_48 (w':=49) rfl f_7 (i := 0) rfl (show 0 < 2 by decide) P2 (fun h_8 W_9 A_10 => ?_)
    have A_11 : Ary Z h_8 a .long [(.long y0_4), (.long y1_5)] := A_10
    refine K.iinc d12_49 (w':=52) rfl rfl (z := (1 : Int32)) rfl (L' := #[vr a, vi 0, vi 2, vi 1, vi 0]) rfl ?_
    refine K.iinc d12_52 (w':=55) rfl rfl (z := (1 : Int32)) rfl (L' := #[vr a, vi 0, vi 2, vi 1, vi 1]) rfl ?_
    refine K.goto d12_55 (by decide) (w':=18) (by decide) ?_
    refine K.iload d12_18 (w':=20) rfl rfl ?_
    refine K.iloadN d12_20 (w':=21) rfl rfl ?_
    refine K.icmp_ge d12_21 (pc1 := 24) rfl (by decide) (pc2 := 58) (by decide) (a := 1) (b := 2) rfl rfl (fun c21_1 => ?_) (fun c21_1 => ?_)
    ·exfalso; omega
    ·refine K.iloadN d12_24 (w':=25) rfl rfl ?_
     refine K.iloadN d12_25 (w':=26) rfl rfl ?_
     refine K.icmp_eq d12_26 (pc1 := 29) rfl (by decide) (pc2 := 42) (by decide) (a := 1) (b := 0) rfl rfl (fun c26_1 => ?_) (fun c26_1 => ?_)
     ·exfalso; omega
     ·refine K.aloadN d12_29 (w':=30) rfl rfl rfl ?_
      refine K.iloadN d12_30 (w':=31) rfl rfl ?_
      refine K.iconst d12_31 (w':=32) rfl (z := 1) rfl ?_
      refine K.isub d12_32 (w':=33) rfl (z := (0 : Int32)) (by decide) ?_
      refine K.lald d12_33 (w':=34) rfl A_11 (i := 0) rfl rfl ?_
      refine K.aloadN d12_34 (w':=35) rfl rfl rfl ?_
      refine K.iload d12_35 (w':=37) rfl rfl ?_
      refine K.lald d12_37 (w':=38) rfl A_11 (i := 1) rfl rfl ?_
      refine K.lcmp_eq d12_38 d12_39 (pc1 := 42) rfl (by decide) (pc2 := 52) (by decide) (a := y0_4.toInt) (b := y1_5.toInt) rfl rfl (fun c38 => ?_) (fun c38 => ?_)
      ·refine K.iinc d12_52 (w':=55) rfl rfl (z := (2 : Int32)) rfl (L' := #[vr a, vi 0, vi 2, vi 1, vi 2]) rfl ?_
       refine K.goto d12_55 (by decide) (w':=18) (by decide) ?_
       refine K.iload d12_18 (w':=20) rfl rfl ?_
       refine K.iloadN d12_20 (w':=21) rfl rfl ?_
       refine K.icmp_ge d12_21 (pc1 := 24) rfl (by decide) (pc2 := 58) (by decide) (a := 2) (b := 2) rfl rfl (fun c21_2 => ?_) (fun c21_2 => ?_)
       ·refine K.iloadN d12_58 (w':=59) rfl rfl ?_
        exact K.reti d12_59 (by decide) (by decide) ⟨(1 : Int32), [y0_4], [y1_5], rfl, by have ev : (1 : Int32).toInt = 1 := rfl; first | omega | (exact ⟨rfl, rfl, (by simp [List.pairwise_cons] <;> omega), fun v => by refine Iff.trans ?_ (hm_S v); simp <;> omega⟩), (((Keep.refl h [a]).trans K_6 (allS (Or.inl (by simp)) all0)).wr W_9 (Or.inl (by simp))), A_11⟩
       ·exfalso; omega
      ·refine K.aloadN d12_42 (w':=43) rfl rfl rfl ?_
       refine K.iloadN d12_43 (w':=44) rfl rfl ?_
       refine K.aloadN d12_44 (w':=45) rfl rfl rfl ?_
       refine K.iload d12_45 (w':=47) rfl rfl ?_
       refine K.lald d12_47 (w':=48) rfl A_11 (i := 1) rfl rfl ?_
       refine K.last d12_48 (w':=49) rfl A_11 (i := 1) rfl (show 1 < 2 by decide) P2 (fun h_12 W_13 A_14 => ?_)
       have A_15 : Ary Z h_12 a .long [(.long y0_4), (.long y1_5)] := A_14
       refine K.iinc d12_49 (w':=52) rfl rfl (z := (2 : Int32)) rfl (L' := #[vr a, vi 0, vi 2, vi 2, vi 1]) rfl ?_
       refine K.iinc d12_52 (w':=55) rfl rfl (z := (2 : Int32)) rfl (L' := #[vr a, vi 0, vi 2, vi 2, vi 2]) rfl ?_
       refine K.goto d12_55 (by decide) (w':=18) (by decide) ?_
       refine K.iload d12_18 (w':=20) rfl rfl ?_
       refine K.iloadN d12_20 (w':=21) rfl rfl ?_
       refine K.icmp_ge d12_21 (pc1 := 24) rfl (by decide) (pc2 := 58) (by decide) (a := 2) (b := 2) rfl rfl (fun c21_2 => ?_) (fun c21_2 => ?_)
       ·refine K.iloadN d12_58 (w':=59) rfl rfl ?_
        exact K.reti d12_59 (by decide) (by decide) ⟨(2 : Int32), [y0_4, y1_5], [], rfl, by have ev : (2 : Int32).toInt = 2 := rfl; first | omega | (exact ⟨rfl, rfl, (by simp [List.pairwise_cons] <;> omega), fun v => by refine Iff.trans ?_ (hm_S v); simp <;> omega⟩), ((((Keep.refl h [a]).trans K_6 (allS (Or.inl (by simp)) all0)).wr W_9 (Or.inl (by simp))).wr W_13 (Or.inl (by simp))), A_15⟩
       ·exfalso; omega
   ·exfalso; omega
theorem c_is4 (l : Launch) (Z : State) (a0 : Array Value) (hw : HW a0 Z) (n0 : Nat) (h : Heap) (a : Addr) (x0 : Int64) (x1 : Int64) (x2 : Int64) (x3 : Int64) (P1 : Ary Z h a .long [(.long x0), (.long x1), (.long x2), (.long x3)]) (P2 : n0 ≤ a) : MeetsW l Z n0 (⟨"java/util/DualPivotQuicksort", "insertionSort", "([JII)V"⟩ : MethodName) B17 7 none ({ frames := 0, cells := 0, slots := 0, locals := 0 } : Room) #[(.ref a), (.int 0), (.int 4)] h (fun v h' => ∃ (y0 : Int64) (y1 : Int64) (y2 : Int64) (y3 : Int64), v = none ∧ Keep h h' [a] ∧ Ary Z h' a .long [(.long y0), (.long y1), (.long y2), (.long y3)] ∧ ((y0.toInt ≤ y1.toInt ∧ y1.toInt ≤ y2.toInt ∧ y2.toInt ≤ y3.toInt) ∧ ∀ v : Int, (v = y0.toInt ∨ v = y1.toInt ∨ v = y2.toInt ∨ v = y3.toInt) ↔ (v = x0.toInt ∨ v = x1.toInt ∨ v = x2.toInt ∨ v = x3.toInt))) := by
 refine MeetsW.intro (plainFor_of_name pn_java_util_DualPivotQuicksort) (L0 := #[vr a, vi 0, vi 4, un, un, un, un]) (fun m => rfl) ?_
 intro m G K0
 have K : Cx l ({ frames := 0, cells := 0, slots := 0, locals := 0 } : Room) Z n0 _ "java/util/DualPivotQuicksort" "insertionSort" B17 7 none m G := K0
 have hm_0 : ∀ v : Int, (v = x0.toInt) ↔ (v = x0.toInt) := fun _ => Iff.rfl
 refine K.iloadN d17_0 (w':=1) rfl rfl ?_
 refine K.istore d17_1 (w':=3) rfl (L' := #[vr a, vi 0, vi 4, un, vi 0, un, un]) rfl ?_
 refine K.iinc d17_3 (w':=6) rfl rfl (z := (1 : Int32)) rfl (L' := #[vr a, vi 0, vi 4, un, vi 1, un, un]) rfl ?_
 refine K.iload d17_6 (w':=8) rfl rfl ?_
 refine K.iloadN d17_8 (w':=9) rfl rfl ?_
 refine K.icmp_ge d17_9 (pc1 := 12) rfl (by decide) (pc2 := 69) (by decide) (a := 1) (b := 4) rfl rfl (fun c9 => ?_) (fun c9 => ?_)
 ·exfalso; omega
 ·have H3_1 : ∀ (i1 : Int32) (q1 : Int64) (y1_0 : Int64) (y1_1 : Int64) (h_1 : Heap) (K_2 : Keep h h_1 [a]) (A_3 : Ary Z h_1 a .long [(.long y1_0), (.long y1_1), (.long x2), (.long x3)]), ((y1_0.toInt ≤ y1_1.toInt) ∧ ∀ v : Int, (v = y1_0.toInt ∨ v = y1_1.toInt) ↔ (v = x0.toInt ∨ v = x1.toInt)) → G h_1 0 0 (mkF m 3 #[vr a, vi 0, vi 4, vi i1, vi 1, vj q1, se] []) := by
   intro i1 q1 y1_0 y1_1 h_1 K_2 A_3 hj_1
   obtain ⟨hs_1, hm_1⟩ := hj_1
   refine K.iinc d17_3 (w':=6) rfl rfl (z := (2 : Int32)) rfl (L' := #[vr a, vi 0, vi 4, vi i1, vi 2, vj q1, se]) rfl ?_
   refine K.iload d17_6 (w':=8) rfl rfl ?_
   refine K.iloadN d17_8 (w':=9) rfl rfl ?_
   refine K.icmp_ge d17_9 (pc1 := 12) rfl (by decide) (pc2 := 69) (by decide) (a := 2) (b := 4) rfl rfl (fun c9_1 => ?_) (fun c9_1 => ?_)
   ·exfalso; omega
   ·have H3_2 : ∀ (i2 : Int32) (q2 : Int64) (y2_0 : Int64) (y2_1 : Int64) (y2_2 : Int64) (h_4 : Heap) (K_5 : Keep h_1 h_4 [a]) (A_6 : Ary Z h_4 a .long [(.long y2_0), (.long y2_1), (.long y2_2), (.long x3)]), ((y2_0.toInt ≤ y2_1.toInt ∧ y2_1.toInt ≤ y2_2.toInt) ∧ ∀ v : Int, (v = y2_0.toInt ∨ v = y2_1.toInt ∨ v = y2_2.toInt) ↔ (v = x0.toInt ∨ v = x1.toInt ∨ v = x2.toInt)) → G h_4 0 0 (mkF m 3 #[vr a, vi 0, vi 4, vi i2, vi 2, vj q2, se] []) := by
     intro i2 q2 y2_0 y2_1 y2_2 h_4 K_5 A_6 hj_2
     obtain ⟨hs_2, hm_2⟩ := hj_2
     refine K.iinc d17_3 (w':=6) rfl rfl (z := (3 : Int32)) rfl (L' := #[vr a, vi 0, vi 4, vi i2, vi 3, vj q2, se]) rfl ?_
     refine K.iload d17_6 (w':=8) rfl rfl ?_
     refine K.iloadN d17_8 (w':=9) rfl rfl ?_
     refine K.icmp_ge d17_9 (pc1 := 12) rfl (by decide) (pc2 := 69) (by decide) (a := 3) (b := 4) rfl rfl (fun c9_2 => ?_) (fun c9_2 => ?_)
     ·exfalso; omega
     ·have H3_3 : ∀ (i3 : Int32) (q3 : Int64) (y3_0 : Int64) (y3_1 : Int64) (y3_2 : Int64) (y3_3 : Int64) (h_7 : Heap) (K_8 : Keep h_4 h_7 [a]) (A_9 : Ary Z h_7 a .long [(.long y3_0), (.long y3_1), (.long y3_2), (.long y3_3)]), ((y3_0.toInt ≤ y3_1.toInt ∧ y3_1.toInt ≤ y3_2.toInt ∧ y3_2.toInt ≤ y3_3.toInt) ∧ ∀ v : Int, (v = y3_0.toInt ∨ v = y3_1.toInt ∨ v = y3_2.toInt ∨ v = y3_3.toInt) ↔ (v = x0.toInt ∨ v = x1.toInt ∨ v = x2.toInt ∨ v = x3.toInt)) → G h_7 0 0 (mkF m 3 #[vr a, vi 0, vi 4, vi i3, vi 3, vj q3, se] []) := by
       intro i3 q3 y3_0 y3_1 y3_2 y3_3 h_7 K_8 A_9 hj_3
       obtain ⟨hs_3, hm_3⟩ := hj_3
       refine K.iinc d17_3 (w':=6) rfl rfl (z := (4 : Int32)) rfl (L' := #[vr a, vi 0, vi 4, vi i3, vi 4, vj q3, se]) rfl ?_
       refine K.iload d17_6 (w':=8) rfl rfl ?_
       refine K.iloadN d17_8 (w':=9) rfl rfl ?_
       refine K.icmp_ge d17_9 (pc1 := 12) rfl (by decide) (pc2 := 69) (by decide) (a := 4) (b := 4) rfl rfl (fun c9_3 => ?_) (fun c9_3 => ?_)
       ·exact K.ret0 d17_69 (by decide) (by decide) ⟨y3_0, y3_1, y3_2, y3_3, rfl, ((((Keep.refl h [a]).trans K_2 (allS (Or.inl (by simp)) all0)).trans K_5 (allS (Or.inl (by simp)) all0)).trans K_8 (allS (Or.inl (by simp)) all0)), A_9, by exact ⟨hs_3, hm_3⟩⟩
       ·exfalso; omega
      refine K.aloadN d17_12 (w':=13) rfl rfl rfl ?_
      refine K.iload d17_13 (w':=15) rfl rfl ?_
      refine K.dup d17_15 (w':=16) rfl rfl ?_
      refine K.istoreN d17_16 (w':=17) rfl (L' := #[vr a, vi 0, vi 4, vi 3, vi 3, vj q2, se]) rfl ?_
      refine K.lald d17_17 (w':=18) rfl A_6 (i := 3) rfl rfl ?_
      refine K.lstore d17_18 (w':=20) rfl (L' := #[vr a, vi 0, vi 4, vi 3, vi 3, vj x3, se]) rfl ?_
      refine K.lload d17_20 (w':=22) rfl rfl ?_
      refine K.aloadN d17_22 (w':=23) rfl rfl rfl ?_
      refine K.iloadN d17_23 (w':=24) rfl rfl ?_
      refine K.iconst d17_24 (w':=25) rfl (z := 1) rfl ?_
      refine K.isub d17_25 (w':=26) rfl (z := (2 : Int32)) (by decide) ?_
      refine K.lald d17_26 (w':=27) rfl A_6 (i := 2) rfl rfl ?_
      refine K.lcmp_ge d17_27 d17_28 (pc1 := 31) rfl (by decide) (pc2 := 66) (by decide) (a := x3.toInt) (b := y2_2.toInt) rfl rfl (fun c27 => ?_) (fun c27 => ?_)
      ·refine K.goto d17_66 (by decide) (w':=3) (by decide) ?_
       exact H3_3 (3 : Int32) x3 (y2_0) (y2_1) (y2_2) (x3) h_4 (Keep.refl h_4 [a]) A_6 (by exact ⟨by omega, fun v => (Iff.of_eq (show (v = y2_0.toInt ∨ v = y2_1.toInt ∨ v = y2_2.toInt ∨ v = x3.toInt) = ((v = y2_0.toInt ∨ v = y2_1.toInt ∨ v = y2_2.toInt) ∨ v = x3.toInt) from by ac_rfl)).trans ((or_congr_left (hm_2 v)).trans (Iff.of_eq (show ((v = x0.toInt ∨ v = x1.toInt ∨ v = x2.toInt) ∨ v = x3.toInt) = (v = x0.toInt ∨ v = x1.toInt ∨ v = x2.toInt ∨ v = x3.toInt) from by ac_rfl)))⟩)
      ·refine K.iinc d17_31 (w':=34) rfl rfl (z := (2 : Int32)) rfl (L' := #[vr a, vi 0, vi 4, vi 2, vi 3, vj x3, se]) rfl ?_
       refine K.iloadN d17_34 (w':=35) rfl rfl ?_
       refine K.iloadN d17_35 (w':=36) rfl rfl ?_
       refine K.icmp_lt d17_36 (pc1 := 39) rfl (by decide) (pc2 := 59) (by decide) (a := 2) (b := 0) rfl rfl (fun c36 => ?_) (fun c36 => ?_)
       ·exfalso; omega
       ·refine K.lload d17_39 (w':=41) rfl rfl ?_
        refine K.aloadN d17_41 (w':=42) rfl rfl rfl ?_
        refine K.iloadN d17_42 (w':=43) rfl rfl ?_
        refine K.lald d17_43 (w':=44) rfl A_6 (i := 2) rfl rfl ?_
        refine K.lcmp_ge d17_44 d17_45 (pc1 := 48) rfl (by decide) (pc2 := 59) (by decide) (a := x3.toInt) (b := y2_2.toInt) rfl rfl (fun c44 => ?_) (fun c44 => ?_)
        ·exfalso; omega
        ·refine K.aloadN d17_48 (w':=49) rfl rfl rfl ?_
         refine K.iloadN d17_49 (w':=50) rfl rfl ?_
         refine K.iconst d17_50 (w':=51) rfl (z := 1) rfl ?_
         refine K.iadd d17_51 (w':=52) rfl (z := (3 : Int32)) (by decide) ?_
         refine K.aloadN d17_52 (w':=53) rfl rfl rfl ?_
         refine K.iloadN d17_53 (w':=54) rfl rfl ?_
         refine K.lald d17_54 (w':=55) rfl A_6 (i := 2) rfl rfl ?_
         refine K.last d17_55 (w':=56) rfl A_6 (i := 3) rfl (show 3 < 4 by decide) P2 (fun h_10 W_11 A_12 => ?_)
         have A_13 : Ary Z h_10 a .long [(.long y2_0), (.long y2_1), (.long y2_2), (.long y2_2)] := A_12
         refine K.goto d17_56 (by decide) (w':=31) (by decide) ?_
         refine K.iinc d17_31 (w':=34) rfl rfl (z := (1 : Int32)) rfl (L' := #[vr a, vi 0, vi 4, vi 1, vi 3, vj x3, se]) rfl ?_
         refine K.iloadN d17_34 (w':=35) rfl rfl ?_
         refine K.iloadN d17_35 (w':=36) rfl rfl ?_
         refine K.icmp_lt d17_36 (pc1 := 39) rfl (by decide) (pc2 := 59) (by decide) (a := 1) (b := 0) rfl rfl (fun c36_1 => ?_) (fun c36_1 => ?_)
         ·exfalso; omega
         ·refine K.lload d17_39 (w':=41) rfl rfl ?_
          refine K.aloadN d17_41 (w':=42) rfl rfl rfl ?_
          refine K.iloadN d17_42 (w':=43) rfl rfl ?_
          refine K.lald d17_43 (w':=44) rfl A_13 (i := 1) rfl rfl ?_
          refine K.lcmp_ge d17_44 d17_45 (pc1 := 48) rfl (by decide) (pc2 := 59) (by decide) (a := x3.toInt) (b := y2_1.toInt) rfl rfl (fun c44_1 => ?_) (fun c44_1 => ?_)
          ·refine K.aloadN d17_59 (w':=60) rfl rfl rfl ?_
           refine K.iloadN d17_60 (w':=61) rfl rfl ?_
           refine K.iconst d17_61 (w':=62) rfl (z := 1) rfl ?_
           refine K.iadd d17_62 (w':=63) rfl (z := (2 : Int32)) (by decide) ?_
           refine K.lload d17_63 (w':=65) rfl rfl ?_
           refine K.last d17_65 (w':=66) rfl A_13 (i := 2) rfl (show 2 < 4 by decide) P2 (fun h_14 W_15 A_16 => ?_)
           have A_17 : Ary Z h_14 a .long [(.long y2_0), (.long y2_1), (.long x3), (.long y2_2)] := A_16
           refine K.goto d17_66 (by decide) (w':=3) (by decide) ?_
           exact H3_3 (1 : Int32) x3 (y2_0) (y2_1) (x3) (y2_2) h_14 (((Keep.refl h_4 [a]).wr W_11 (Or.inl (by simp))).wr W_15 (Or.inl (by simp))) A_17 (by exact ⟨by omega, fun v => (Iff.of_eq (show (v = y2_0.toInt ∨ v = y2_1.toInt ∨ v = x3.toInt ∨ v = y2_2.toInt) = ((v = y2_0.toInt ∨ v = y2_1.toInt ∨ v = y2_2.toInt) ∨ v = x3.toInt) from by ac_rfl)).trans ((or_congr_left (hm_2 v)).trans (Iff.of_eq (show ((v = x0.toInt ∨ v = x1.toInt ∨ v = x2.toInt) ∨ v = x3.toInt) = (v = x0.toInt ∨ v = x1.toInt ∨ v = x2.toInt ∨ v = x3.toInt) from by ac_rfl)))⟩)
          ·refine K.aloadN d17_48 (w':=49) rfl rfl rfl ?_
           refine K.iloadN d17_49 (w':=50) rfl rfl ?_
           refine K.iconst d17_50 (w':=51) rfl (z := 1) rfl ?_
           refine K.iadd d17_51 (w':=52) rfl (z := (2 : Int32)) (by decide) ?_
           refine K.aloadN d17_52 (w':=53) rfl rfl rfl ?_
           refine K.iloadN d17_53 (w':=54) rfl rfl ?_
           refine K.lald d17_54 (w':=55) rfl A_13 (i := 1) rfl rfl ?_
           refine K.last d17_55 (w':=56) rfl A_13 (i := 2) rfl (show 2 < 4 by decide) P2 (fun h_18 W_19 A_20 => ?_)
           have A_21 : Ary Z h_18 a .long [(.long y2_0), (.long y2_1), (.long y2_1), (.long y2_2)] := A_20
           refine K.goto d17_56 (by decide) (w':=31) (by decide) ?_
           refine K.iinc d17_31 (w':=34) rfl rfl (z := (0 : Int32)) rfl (L' := #[vr a, vi 0, vi 4, vi 0, vi 3, vj x3, se]) rfl ?_
           refine K.iloadN d17_34 (w':=35) rfl rfl ?_
           refine K.iloadN d17_35 (w':=36) rfl rfl ?_
           refine K.icmp_lt d17_36 (pc1 := 39) rfl (by decide) (pc2 := 59) (by decide) (a := 0) (b := 0) rfl rfl (fun c36_2 => ?_) (fun c36_2 => ?_)
           ·exfalso; omega
           ·refine K.lload d17_39 (w':=41) rfl rfl ?_
            refine K.aloadN d17_41 (w':=42) rfl rfl rfl ?_
            refine K.iloadN d17_42 (w':=43) rfl rfl ?_
            refine K.lald d17_43 (w':=44) rfl A_21 (i := 0) rfl rfl ?_
            refine K.lcmp_ge d17_44 d17_45 (pc1 := 48) rfl (by decide) (pc2 := 59) (by decide) (a := x3.toInt) (b := y2_0.toInt) rfl rfl (fun c44_2 => ?_) (fun c44_2 => ?_)
            ·refine K.aloadN d17_59 (w':=60) rfl rfl rfl ?_
             refine K.iloadN d17_60 (w':=61) rfl rfl ?_
             refine K.iconst d17_61 (w':=62) rfl (z := 1) rfl ?_
             refine K.iadd d17_62 (w':=63) rfl (z := (1 : Int32)) (by decide) ?_
             refine K.lload d17_63 (w':=65) rfl rfl ?_
             refine K.last d17_65 (w':=66) rfl A_21 (i := 1) rfl (show 1 < 4 by decide) P2 (fun h_22 W_23 A_24 => ?_)
             have A_25 : Ary Z h_22 a .long [(.long y2_0), (.long x3), (.long y2_1), (.long y2_2)] := A_24
             refine K.goto d17_66 (by decide) (w':=3) (by decide) ?_
             exact H3_3 (0 : Int32) x3 (y2_0) (x3) (y2_1) (y2_2) h_22 ((((Keep.refl h_4 [a]).wr W_11 (Or.inl (by simp))).wr W_19 (Or.inl (by simp))).wr W_23 (Or.inl (by simp))) A_25 (by exact ⟨by omega, fun v => (Iff.of_eq (show (v = y2_0.toInt ∨ v = x3.toInt ∨ v = y2_1.toInt ∨ v = y2_2.toInt) = ((v = y2_0.toInt ∨ v = y2_1.toInt ∨ v = y2_2.toInt) ∨ v = x3.toInt) from by ac_rfl)).trans ((or_congr_left (hm_2 v)).trans (Iff.of_eq (show ((v = x0.toInt ∨ v = x1.toInt ∨ v = x2.toInt) ∨ v = x3.toInt) = (v = x0.toInt ∨ v = x1.toInt ∨ v = x2.toInt ∨ v = x3.toInt) from by ac_rfl)))⟩)
            ·refine K.aloadN d17_48 (w':=49) rfl rfl rfl ?_
             refine K.iloadN d17_49 (w':=50) rfl rfl ?_
             refine K.iconst d17_50 (w':=51) rfl (z := 1) rfl ?_
             refine K.iadd d17_51 (w':=52) rfl (z := (1 : Int32)) (by decide) ?_
             refine K.aloadN d17_52 (w':=53) rfl rfl rfl ?_
             refine K.iloadN d17_53 (w':=54) rfl rfl ?_
             refine K.lald d17_54 (w':=55) rfl A_21 (i := 0) rfl rfl ?_
             refine K.last d17_55 (w':=56) rfl A_21 (i := 1) rfl (show 1 < 4 by decide) P2 (fun h_26 W_27 A_28 => ?_)
             have A_29 : Ary Z h_26 a .long [(.long y2_0), (.long y2_0), (.long y2_1), (.long y2_2)] := A_28
             refine K.goto d17_56 (by decide) (w':=31) (by decide) ?_
             refine K.iinc d17_31 (w':=34) rfl rfl (z := (-1 : Int32)) rfl (L' := #[vr a, vi 0, vi 4, vi (-1), vi 3, vj x3, se]) rfl ?_
             refine K.iloadN d17_34 (w':=35) rfl rfl ?_
             refine K.iloadN d17_35 (w':=36) rfl rfl ?_
             refine K.icmp_lt d17_36 (pc1 := 39) rfl (by decide) (pc2 := 59) (by decide) (a := (-1)) (b := 0) rfl rfl (fun c36_3 => ?_) (fun c36_3 => ?_)
             ·refine K.aloadN d17_59 (w':=60) rfl rfl rfl ?_
              refine K.iloadN d17_60 (w':=61) rfl rfl ?_
              refine K.iconst d17_61 (w':=62) rfl (z := 1) rfl ?_
              refine K.iadd d17_62 (w':=63) rfl (z := (0 : Int32)) (by decide) ?_
              refine K.lload d17_63 (w':=65) rfl rfl ?_
              refine K.last d17_65 (w':=66) rfl A_29 (i := 0) rfl (show 0 < 4 by decide) P2 (fun h_30 W_31 A_32 => ?_)
              have A_33 : Ary Z h_30 a .long [(.long x3), (.long y2_0), (.long y2_1), (.long y2_2)] := A_32
              refine K.goto d17_66 (by decide) (w':=3) (by decide) ?_
              exact H3_3 (-1 : Int32) x3 (x3) (y2_0) (y2_1) (y2_2) h_30 (((((Keep.refl h_4 [a]).wr W_11 (Or.inl (by simp))).wr W_19 (Or.inl (by simp))).wr W_27 (Or.inl (by simp))).wr W_31 (Or.inl (by simp))) A_33 (by exact ⟨by omega, fun v => (Iff.of_eq (show (v = x3.toInt ∨ v = y2_0.toInt ∨ v = y2_1.toInt ∨ v = y2_2.toInt) = ((v = y2_0.toInt ∨ v = y2_1.toInt ∨ v = y2_2.toInt) ∨ v = x3.toInt) from by ac_rfl)).trans ((or_congr_left (hm_2 v)).trans (Iff.of_eq (show ((v = x0.toInt ∨ v = x1.toInt ∨ v = x2.toInt) ∨ v = x3.toInt) = (v = x0.toInt ∨ v = x1.toInt ∨ v = x2.toInt ∨ v = x3.toInt) from by ac_rfl)))⟩)
             ·exfalso; omega
    refine K.aloadN d17_12 (w':=13) rfl rfl rfl ?_
    refine K.iload d17_13 (w':=15) rfl rfl ?_
    refine K.dup d17_15 (w':=16) rfl rfl ?_
    refine K.istoreN d17_16 (w':=17) rfl (L' := #[vr a, vi 0, vi 4, vi 2, vi 2, vj q1, se]) rfl ?_
    refine K.lald d17_17 (w':=18) rfl A_3 (i := 2) rfl rfl ?_
    refine K.lstore d17_18 (w':=20) rfl (L' := #[vr a, vi 0, vi 4, vi 2, vi 2, vj x2, se]) rfl ?_
    refine K.lload d17_20 (w':=22) rfl rfl ?_
    refine K.aloadN d17_22 (w':=23) rfl rfl rfl ?_
    refine K.iloadN d17_23 (w':=24) rfl rfl ?_
    refine K.iconst d17_24 (w':=25) rfl (z := 1) rfl ?_
    refine K.isub d17_25 (w':=26) rfl (z := (1 : Int32)) (by decide) ?_
    refine K.lald d17_26 (w':=27) rfl A_3 (i := 1) rfl rfl ?_
    refine K.lcmp_ge d17_27 d17_28 (pc1 := 31) rfl (by decide) (pc2 := 66) (by decide) (a := x2.toInt) (b := y1_1.toInt) rfl rfl (fun c27 => ?_) (fun c27 => ?_)
    ·refine K.goto d17_66 (by decide) (w':=3) (by decide) ?_
     exact H3_2 (2 : Int32) x2 (y1_0) (y1_1) (x2) h_1 (Keep.refl h_1 [a]) A_3 (by exact ⟨by omega, fun v => (Iff.of_eq (show (v = y1_0.toInt ∨ v = y1_1.toInt ∨ v = x2.toInt) = ((v = y1_0.toInt ∨ v = y1_1.toInt) ∨ v = x2.toInt) from by ac_rfl)).trans ((or_congr_left (hm_1 v)).trans (Iff.of_eq (show ((v = x0.toInt ∨ v = x1.toInt) ∨ v = x2.toInt) = (v = x0.toInt ∨ v = x1.toInt ∨ v = x2.toInt) from by ac_rfl)))⟩)
    ·refine K.iinc d17_31 (w':=34) rfl rfl (z := (1 : Int32)) rfl (L' := #[vr a, vi 0, vi 4, vi 1, vi 2, vj x2, se]) rfl ?_
     refine K.iloadN d17_34 (w':=35) rfl rfl ?_
     refine K.iloadN d17_35 (w':=36) rfl rfl ?_
     refine K.icmp_lt d17_36 (pc1 := 39) rfl (by decide) (pc2 := 59) (by decide) (a := 1) (b := 0) rfl rfl (fun c36 => ?_) (fun c36 => ?_)
     ·exfalso; omega
     ·refine K.lload d17_39 (w':=41) rfl rfl ?_
      refine K.aloadN d17_41 (w':=42) rfl rfl rfl ?_
      refine K.iloadN d17_42 (w':=43) rfl rfl ?_
      refine K.lald d17_43 (w':=44) rfl A_3 (i := 1) rfl rfl ?_
      refine K.lcmp_ge d17_44 d17_45 (pc1 := 48) rfl (by decide) (pc2 := 59) (by decide) (a := x2.toInt) (b := y1_1.toInt) rfl rfl (fun c44 => ?_) (fun c44 => ?_)
      ·exfalso; omega
      ·refine K.aloadN d17_48 (w':=49) rfl rfl rfl ?_
       refine K.iloadN d17_49 (w':=50) rfl rfl ?_
       refine K.iconst d17_50 (w':=51) rfl (z := 1) rfl ?_
       refine K.iadd d17_51 (w':=52) rfl (z := (2 : Int32)) (by decide) ?_
       refine K.aloadN d17_52 (w':=53) rfl rfl rfl ?_
       refine K.iloadN d17_53 (w':=54) rfl rfl ?_
       refine K.lald d17_54 (w':=55) rfl A_3 (i := 1) rfl rfl ?_
       refine K.last d17_55 (w':=56) rfl A_3 (i := 2) rfl (show 2 < 4 by decide) P2 (fun h_34 W_35 A_36 => ?_)
       have A_37 : Ary Z h_34 a .long [(.long y1_0), (.long y1_1), (.long y1_1), (.long x3)] := A_36
       refine K.goto d17_56 (by decide) (w':=31) (by decide) ?_
       refine K.iinc d17_31 (w':=34) rfl rfl (z := (0 : Int32)) rfl (L' := #[vr a, vi 0, vi 4, vi 0, vi 2, vj x2, se]) rfl ?_
       refine K.iloadN d17_34 (w':=35) rfl rfl ?_
       refine K.iloadN d17_35 (w':=36) rfl rfl ?_
       refine K.icmp_lt d17_36 (pc1 := 39) rfl (by decide) (pc2 := 59) (by decide) (a := 0) (b := 0) rfl rfl (fun c36_1 => ?_) (fun c36_1 => ?_)
       ·exfalso; omega
       ·refine K.lload d17_39 (w':=41) rfl rfl ?_
        refine K.aloadN d17_41 (w':=42) rfl rfl rfl ?_
        refine K.iloadN d17_42 (w':=43) rfl rfl ?_
        refine K.lald d17_43 (w':=44) rfl A_37 (i := 0) rfl rfl ?_
        refine K.lcmp_ge d17_44 d17_45 (pc1 := 48) rfl (by decide) (pc2 := 59) (by decide) (a := x2.toInt) (b := y1_0.toInt) rfl rfl (fun c44_1 => ?_) (fun c44_1 => ?_)
        ·refine K.aloadN d17_59 (w':=60) rfl rfl rfl ?_
         refine K.iloadN d17_60 (w':=61) rfl rfl ?_
         refine K.iconst d17_61 (w':=62) rfl (z := 1) rfl ?_
         refine K.iadd d17_62 (w':=63) rfl (z := (1 : Int32)) (by decide) ?_
         refine K.lload d17_63 (w':=65) rfl rfl ?_
         refine K.last d17_65 (w':=66) rfl A_37 (i := 1) rfl (show 1 < 4 by decide) P2 (fun h_38 W_39 A_40 => ?_)
         have A_41 : Ary Z h_38 a .long [(.long y1_0), (.long x2), (.long y1_1), (.long x3)] := A_40
         refine K.goto d17_66 (by decide) (w':=3) (by decide) ?_
         exact H3_2 (0 : Int32) x2 (y1_0) (x2) (y1_1) h_38 (((Keep.refl h_1 [a]).wr W_35 (Or.inl (by simp))).wr W_39 (Or.inl (by simp))) A_41 (by exact ⟨by omega, fun v => (Iff.of_eq (show (v = y1_0.toInt ∨ v = x2.toInt ∨ v = y1_1.toInt) = ((v = y1_0.toInt ∨ v = y1_1.toInt) ∨ v = x2.toInt) from by ac_rfl)).trans ((or_congr_left (hm_1 v)).trans (Iff.of_eq (show ((v = x0.toInt ∨ v = x1.toInt) ∨ v = x2.toInt) = (v = x0.toInt ∨ v = x1.toInt ∨ v = x2.toInt) from by ac_rfl)))⟩)
        ·refine K.aloadN d17_48 (w':=49) rfl rfl rfl ?_
         refine K.iloadN d17_49 (w':=50) rfl rfl ?_
         refine K.iconst d17_50 (w':=51) rfl (z := 1) rfl ?_
         refine K.iadd d17_51 (w':=52) rfl (z := (1 : Int32)) (by decide) ?_
         refine K.aloadN d17_52 (w':=53) rfl rfl rfl ?_
         refine K.iloadN d17_53 (w':=54) rfl rfl ?_
         refine K.lald d17_54 (w':=55) rfl A_37 (i := 0) rfl rfl ?_
         refine K.last d17_55 (w':=56) rfl A_37 (i := 1) rfl (show 1 < 4 by decide) P2 (fun h_42 W_43 A_44 => ?_)
         have A_45 : Ary Z h_42 a .long [(.long y1_0), (.long y1_0), (.long y1_1), (.long x3)] := A_44
         refine K.goto d17_56 (by decide) (w':=31) (by decide) ?_
         refine K.iinc d17_31 (w':=34) rfl rfl (z := (-1 : Int32)) rfl (L' := #[vr a, vi 0, vi 4, vi (-1), vi 2, vj x2, se]) rfl ?_
         refine K.iloadN d17_34 (w':=35) rfl rfl ?_
         refine K.iloadN d17_35 (w':=36) rfl rfl ?_
         refine K.icmp_lt d17_36 (pc1 := 39) rfl (by decide) (pc2 := 59) (by decide) (a := (-1)) (b := 0) rfl rfl (fun c36_2 => ?_) (fun c36_2 => ?_)
         ·refine K.aloadN d17_59 (w':=60) rfl rfl rfl ?_
          refine K.iloadN d17_60 (w':=61) rfl rfl ?_
          refine K.iconst d17_61 (w':=62) rfl (z := 1) rfl ?_
          refine K.iadd d17_62 (w':=63) rfl (z := (0 : Int32)) (by decide) ?_
          refine K.lload d17_63 (w':=65) rfl rfl ?_
          refine K.last d17_65 (w':=66) rfl A_45 (i := 0) rfl (show 0 < 4 by decide) P2 (fun h_46 W_47 A_48 => ?_)
          have A_49 : Ary Z h_46 a .long [(.long x2), (.long y1_0), (.long y1_1), (.long x3)] := A_48
          refine K.goto d17_66 (by decide) (w':=3) (by decide) ?_
          exact H3_2 (-1 : Int32) x2 (x2) (y1_0) (y1_1) h_46 ((((Keep.refl h_1 [a]).wr W_35 (Or.inl (by simp))).wr W_43 (Or.inl (by simp))).wr W_47 (Or.inl (by simp))) A_49 (by exact ⟨by omega, fun v => (Iff.of_eq (show (v = x2.toInt ∨ v = y1_0.toInt ∨ v = y1_1.toInt) = ((v = y1_0.toInt ∨ v = y1_1.toInt) ∨ v = x2.toInt) from by ac_rfl)).trans ((or_congr_left (hm_1 v)).trans (Iff.of_eq (show ((v = x0.toInt ∨ v = x1.toInt) ∨ v = x2.toInt) = (v = x0.toInt ∨ v = x1.toInt ∨ v = x2.toInt) from by ac_rfl)))⟩)
         ·exfalso; omega
  refine K.aloadN d17_12 (w':=13) rfl rfl rfl ?_
  refine K.iload d17_13 (w':=15) rfl rfl ?_
  refine K.dup d17_15 (w':=16) rfl rfl ?_
  refine K.istoreN d17_16 (w':=17) rfl (L' := #[vr a, vi 0, vi 4, vi 1, vi 1, un, un]) rfl ?_
  refine K.lald d17_17 (w':=18) rfl P1 (i := 1) rfl rfl ?_
  refine K.lstore d17_18 (w':=20) rfl (L' := #[vr a, vi 0, vi 4, vi 1, vi 1, vj x1, se]) rfl ?_
  refine K.lload d17_20 (w':=22) rfl rfl ?_
  refine K.aloadN d17_22 (w':=23) rfl rfl rfl ?_
  refine K.iloadN d17_23 (w':=24) rfl rfl ?_
  refine K.iconst d17_24 (w':=25) rfl (z := 1) rfl ?_
  refine K.isub d17_25 (w':=26) rfl (z := (0 : Int32)) (by decide) ?_
  refine K.lald d17_26 (w':=27) rfl P1 (i := 0) rfl rfl ?_
  refine K.lcmp_ge d17_27 d17_28 (pc1 := 31) rfl (by decide) (pc2 := 66) (by decide) (a := x1.toInt) (b := x0.toInt) rfl rfl (fun c27 => ?_) (fun c27 => ?_)
  ·refine K.goto d17_66 (by decide) (w':=3) (by decide) ?_
   exact H3_1 (1 : Int32) x1 (x0) (x1) h (Keep.refl h [a]) P1 (by exact ⟨by omega, fun v => (Iff.of_eq (show (v = x0.toInt ∨ v = x1.toInt) = ((v = x0.toInt) ∨ v = x1.toInt) from by ac_rfl)).trans ((or_congr_left (hm_0 v)).trans (Iff.of_eq (show ((v = x0.toInt) ∨ v = x1.toInt) = (v = x0.toInt ∨ v = x1.toInt) from by ac_rfl)))⟩)
  ·refine K.iinc d17_31 (w':=34) rfl rfl (z := (0 : Int32)) rfl (L' := #[vr a, vi 0, vi 4, vi 0, vi 1, vj x1, se]) rfl ?_
   refine K.iloadN d17_34 (w':=35) rfl rfl ?_
   refine K.iloadN d17_35 (w':=36) rfl rfl ?_
   refine K.icmp_lt d17_36 (pc1 := 39) rfl (by decide) (pc2 := 59) (by decide) (a := 0) (b := 0) rfl rfl (fun c36 => ?_) (fun c36 => ?_)
   ·exfalso; omega
   ·refine K.lload d17_39 (w':=41) rfl rfl ?_
    refine K.aloadN d17_41 (w':=42) rfl rfl rfl ?_
    refine K.iloadN d17_42 (w':=43) rfl rfl ?_
    refine K.lald d17_43 (w':=44) rfl P1 (i := 0) rfl rfl ?_
    refine K.lcmp_ge d17_44 d17_45 (pc1 := 48) rfl (by decide) (pc2 := 59) (by decide) (a := x1.toInt) (b := x0.toInt) rfl rfl (fun c44 => ?_) (fun c44 => ?_)
    ·exfalso; omega
    ·refine K.aloadN d17_48 (w':=49) rfl rfl rfl ?_
     refine K.iloadN d17_49 (w':=50) rfl rfl ?_
     refine K.iconst d17_50 (w':=51) rfl (z := 1) rfl ?_
     refine K.iadd d17_51 (w':=52) rfl (z := (1 : Int32)) (by decide) ?_
     refine K.aloadN d17_52 (w':=53) rfl rfl rfl ?_
     refine K.iloadN d17_53 (w':=54) rfl rfl ?_
     refine K.lald d17_54 (w':=55) rfl P1 (i := 0) rfl rfl ?_
     refine K.last d17_55 (w':=56) rfl P1 (i := 1) rfl (show 1 < 4 by decide) P2 (fun h_50 W_51 A_52 => ?_)
     have A_53 : Ary Z h_50 a .long [(.long x0), (.long x0), (.long x2), (.long x3)] := A_52
     refine K.goto d17_56 (by decide) (w':=31) (by decide) ?_
     refine K.iinc d17_31 (w':=34) rfl rfl (z := (-1 : Int32)) rfl (L' := #[vr a, vi 0, vi 4, vi (-1), vi 1, vj x1, se]) rfl ?_
     refine K.iloadN d17_34 (w':=35) rfl rfl ?_
     refine K.iloadN d17_35 (w':=36) rfl rfl ?_
     refine K.icmp_lt d17_36 (pc1 := 39) rfl (by decide) (pc2 := 59) (by decide) (a := (-1)) (b := 0) rfl rfl (fun c36_1 => ?_) (fun c36_1 => ?_)
     ·refine K.aloadN d17_59 (w':=60) rfl rfl rfl ?_
      refine K.iloadN d17_60 (w':=61) rfl rfl ?_
      refine K.iconst d17_61 (w':=62) rfl (z := 1) rfl ?_
      refine K.iadd d17_62 (w':=63) rfl (z := (0 : Int32)) (by decide) ?_
      refine K.lload d17_63 (w':=65) rfl rfl ?_
      refine K.last d17_65 (w':=66) rfl A_53 (i := 0) rfl (show 0 < 4 by decide) P2 (fun h_54 W_55 A_56 => ?_)
      have A_57 : Ary Z h_54 a .long [(.long x1), (.long x0), (.long x2), (.long x3)] := A_56
      refine K.goto d17_66 (by decide) (w':=3) (by decide) ?_
      exact H3_1 (-1 : Int32) x1 (x1) (x0) h_54 (((Keep.refl h [a]).wr W_51 (Or.inl (by simp))).wr W_55 (Or.inl (by simp))) A_57 (by exact ⟨by omega, fun v => (Iff.of_eq (show (v = x1.toInt ∨ v = x0.toInt) = ((v = x0.toInt) ∨ v = x1.toInt) from by ac_rfl)).trans ((or_congr_left (hm_0 v)).trans (Iff.of_eq (show ((v = x0.toInt) ∨ v = x1.toInt) = (v = x0.toInt ∨ v = x1.toInt) from by ac_rfl)))⟩)
     ·exfalso; omega
theorem c_ds4 (l : Launch) (Z : State) (a0 : Array Value) (hw : HW a0 Z) (n0 : Nat) (h : Heap) (a : Addr) (x0 : Int64) (x1 : Int64) (x2 : Int64) (x3 : Int64) (P1 : Ary Z h a .long [(.long x0), (.long x1), (.long x2), (.long x3)]) (P2 : n0 ≤ a) : MeetsW l Z n0 (⟨"java/util/DualPivotQuicksort", "sort", "(Ljava/util/DualPivotQuicksort$Sorter;[JIII)V"⟩ : MethodName) B16 25 none ({ frames := 1, cells := 0, slots := 0, locals := 18 } : Room) #[.null, (.ref a), (.int 0), (.int 0), (.int 4)] h (fun v h' => ∃ (y0 : Int64) (y1 : Int64) (y2 : Int64) (y3 : Int64), v = none ∧ Keep h h' [a] ∧ Ary Z h' a .long [(.long y0), (.long y1), (.long y2), (.long y3)] ∧ ((y0.toInt ≤ y1.toInt ∧ y1.toInt ≤ y2.toInt ∧ y2.toInt ≤ y3.toInt) ∧ ∀ v : Int, (v = y0.toInt ∨ v = y1.toInt ∨ v = y2.toInt ∨ v = y3.toInt) ↔ (v = x0.toInt ∨ v = x1.toInt ∨ v = x2.toInt ∨ v = x3.toInt))) := by
 refine MeetsW.intro (plainFor_of_name pn_java_util_DualPivotQuicksort) (L0 := #[vn, vr a, vi 0, vi 0, vi 4, un, un, un, un, un, un, un, un, un, un, un, un, un, un, un, un, un, un, un, un]) (fun m => by first | (simp [entryFrame, mkF, argsToLocals, Value.category]; done) | rfl) ?_
 intro m G K0
 have K : Cx l ({ frames := 1, cells := 0, slots := 0, locals := 18 } : Room) Z n0 _ "java/util/DualPivotQuicksort" "sort" B16 25 none m G := K0
 have hw95 := tb hw (i:=95) rfl
 have hw100 := tb hw (i:=100) rfl
 have hw101 := tb hw (i:=101) rfl
 have hw102 := tb hw (i:=102) rfl
 refine K.iload d16_0 (w':=2) rfl rfl ?_
 refine K.iconst d16_2 (w':=3) rfl (z := 1) rfl ?_
 refine K.isub d16_3 (w':=4) rfl (z := (3 : Int32)) (by decide) ?_
 refine K.istore d16_4 (w':=6) rfl (L' := #[vn, vr a, vi 0, vi 0, vi 4, vi 3, un, un, un, un, un, un, un, un, un, un, un, un, un, un, un, un, un, un, un]) rfl ?_
 refine K.iload d16_6 (w':=8) rfl rfl ?_
 refine K.iloadN d16_8 (w':=9) rfl rfl ?_
 refine K.isub d16_9 (w':=10) rfl (z := (4 : Int32)) (by decide) ?_
 refine K.istore d16_10 (w':=12) rfl (L' := #[vn, vr a, vi 0, vi 0, vi 4, vi 3, vi 4, un, un, un, un, un, un, un, un, un, un, un, un, un, un, un, un, un, un]) rfl ?_
 refine K.iload d16_12 (w':=14) rfl rfl ?_
 refine K.bipush d16_14 (w':=16) rfl (z := 65) rfl ?_
 refine K.iloadN d16_16 (w':=17) rfl rfl ?_
 refine K.iadd d16_17 (w':=18) rfl (z := (65 : Int32)) (by decide) ?_
 refine K.icmp_ge d16_18 (pc1 := 21) rfl (by decide) (pc2 := 46) (by decide) (a := 4) (b := 65) rfl rfl (fun c18 => ?_) (fun c18 => ?_)
 ·exfalso; omega
 ·refine K.iloadN d16_21 (w':=22) rfl rfl ?_
  refine K.iconst d16_22 (w':=23) rfl (z := 1) rfl ?_
  refine K.iand d16_23 (w':=24) rfl (z := (0 : Int32)) (by decide) ?_
  refine K.if_le d16_24 (pc1 := 27) rfl (by decide) (pc2 := 46) (by decide) (a := 0) rfl (fun c24 => ?_) (fun c24 => ?_)
  ·refine K.iload d16_46 (w':=48) rfl rfl ?_
   refine K.bipush d16_48 (w':=50) rfl (z := 44) rfl ?_
   refine K.icmp_ge d16_50 (pc1 := 53) rfl (by decide) (pc2 := 61) (by decide) (a := 4) (b := 44) rfl rfl (fun c50 => ?_) (fun c50 => ?_)
   ·exfalso; omega
   ·refine K.aloadN d16_53 (w':=54) rfl rfl rfl ?_
    refine K.iloadN d16_54 (w':=55) rfl rfl ?_
    refine K.iload d16_55 (w':=57) rfl rfl ?_
    refine K.calls (argsL := [(.ref a), (.int 0), (.int 4)]) (rest := []) d16_57 (w':=60) rfl (c_is4 l Z a0 hw n0 h (a := a) (x0 := x0) (x1 := x1) (x2 := x2) (x3 := x3) P1 P2) hw100 hw101 hw95 hw102 (by decide) pd_4 rfl rfl (W := 0) (Nat.le_refl _) (by decide) (by decide) (by decide) (by decide) (fun v_3 h_1 q_2 => ?_)
    obtain ⟨y0_5, y1_6, y2_7, y3_8, rfl, K_9, f_10, hst_w_4⟩ := q_2
    show G h_1 0 0 (mkF m 60 #[vn, vr a, vi 0, vi 0, vi 4, vi 3, vi 4, un, un, un, un, un, un, un, un, un, un, un, un, un, un, un, un, un, un] [])
    exact K.ret0 d16_60 (by decide) (by decide) ⟨y0_5, y1_6, y2_7, y3_8, rfl, ((Keep.refl h [a]).trans K_9 (allS (Or.inl (by simp)) all0)), f_10, by assumption⟩
  ·exfalso; omega
theorem c_dq4 (l : Launch) (Z : State) (a0 : Array Value) (hw : HW a0 Z) (n0 : Nat) (h : Heap) (a : Addr) (x0 : Int64) (x1 : Int64) (x2 : Int64) (x3 : Int64) (P1 : Ary Z h a .long [(.long x0), (.long x1), (.long x2), (.long x3)]) (P2 : n0 ≤ a) : MeetsW l Z n0 (⟨"java/util/DualPivotQuicksort", "sort", "([JIII)V"⟩ : MethodName) B15 7 none ({ frames := 2, cells := 0, slots := 0, locals := 54 } : Room) #[(.ref a), (.int 0), (.int 0), (.int 4)] h (fun v h' => ∃ (y0 : Int64) (y1 : Int64) (y2 : Int64) (y3 : Int64), v = none ∧ Keep h h' [a] ∧ Ary Z h' a .long [(.long y0), (.long y1), (.long y2), (.long y3)] ∧ ((y0.toInt ≤ y1.toInt ∧ y1.toInt ≤ y2.toInt ∧ y2.toInt ≤ y3.toInt) ∧ ∀ v : Int, (v = y0.toInt ∨ v = y1.toInt ∨ v = y2.toInt ∨ v = y3.toInt) ↔ (v = x0.toInt ∨ v = x1.toInt ∨ v = x2.toInt ∨ v = x3.toInt))) := by
 refine MeetsW.intro (plainFor_of_name pn_java_util_DualPivotQuicksort) (L0 := #[vr a, vi 0, vi 0, vi 4, un, un, un]) (fun m => rfl) ?_
 intro m G K0
 have K : Cx l ({ frames := 2, cells := 0, slots := 0, locals := 54 } : Room) Z n0 _ "java/util/DualPivotQuicksort" "sort" B15 7 none m G := K0
 have hw95 := tb hw (i:=95) rfl
 have hw97 := tb hw (i:=97) rfl
 have hw98 := tb hw (i:=98) rfl
 have hw99 := tb hw (i:=99) rfl
 refine K.iloadN d15_0 (w':=1) rfl rfl ?_
 refine K.iloadN d15_1 (w':=2) rfl rfl ?_
 refine K.isub d15_2 (w':=3) rfl (z := (4 : Int32)) (by decide) ?_
 refine K.istore d15_3 (w':=5) rfl (L' := #[vr a, vi 0, vi 0, vi 4, vi 4, un, un]) rfl ?_
 refine K.iloadN d15_5 (w':=6) rfl rfl ?_
 refine K.iconst d15_6 (w':=7) rfl (z := 1) rfl ?_
 refine K.icmp_le d15_7 (pc1 := 10) rfl (by decide) (pc2 := 68) (by decide) (a := 0) (b := 1) rfl rfl (fun c7 => ?_) (fun c7 => ?_)
 ·refine K.anull d15_68 (w':=69) rfl ?_
  refine K.aloadN d15_69 (w':=70) rfl rfl rfl ?_
  refine K.iconst d15_70 (w':=71) rfl (z := 0) rfl ?_
  refine K.iloadN d15_71 (w':=72) rfl rfl ?_
  refine K.iloadN d15_72 (w':=73) rfl rfl ?_
  refine K.calls (argsL := [.null, (.ref a), (.int 0), (.int 0), (.int 4)]) (rest := []) d15_73 (w':=76) rfl (c_ds4 l Z a0 hw n0 h (a := a) (x0 := x0) (x1 := x1) (x2 := x2) (x3 := x3) P1 P2) hw97 hw98 hw95 hw99 (by decide) pd_5 rfl rfl (W := 0) (Nat.le_refl _) (by decide) (by decide) (by decide) (by decide) (fun v_3 h_1 q_2 => ?_)
  obtain ⟨y0_5, y1_6, y2_7, y3_8, rfl, K_9, f_10, hst_w_4⟩ := q_2
  show G h_1 0 0 (mkF m 76 #[vr a, vi 0, vi 0, vi 4, vi 4, un, un] [])
  exact K.ret0 d15_76 (by decide) (by decide) ⟨y0_5, y1_6, y2_7, y3_8, rfl, ((Keep.refl h [a]).trans K_9 (allS (Or.inl (by simp)) all0)), f_10, by assumption⟩
 ·exfalso; omega
theorem c_so4 (l : Launch) (Z : State) (a0 : Array Value) (hw : HW a0 Z) (n0 : Nat) (h : Heap) (a : Addr) (x0 : Int64) (x1 : Int64) (x2 : Int64) (x3 : Int64) (P1 : Ary Z h a .long [(.long x0), (.long x1), (.long x2), (.long x3)]) (P2 : n0 ≤ a) : MeetsW l Z n0 (⟨"java/util/Arrays", "sort", "([JII)V"⟩ : MethodName) B13 3 none ({ frames := 3, cells := 0, slots := 0, locals := 72 } : Room) #[(.ref a), (.int 0), (.int 4)] h (fun v h' => ∃ (y0 : Int64) (y1 : Int64) (y2 : Int64) (y3 : Int64), v = none ∧ Keep h h' [a] ∧ Ary Z h' a .long [(.long y0), (.long y1), (.long y2), (.long y3)] ∧ ((y0.toInt ≤ y1.toInt ∧ y1.toInt ≤ y2.toInt ∧ y2.toInt ≤ y3.toInt) ∧ ∀ v : Int, (v = y0.toInt ∨ v = y1.toInt ∨ v = y2.toInt ∨ v = y3.toInt) ↔ (v = x0.toInt ∨ v = x1.toInt ∨ v = x2.toInt ∨ v = x3.toInt))) := by
 refine MeetsW.intro (plainFor_of_name pn_java_util_Arrays) (L0 := #[vr a, vi 0, vi 4]) (fun m => rfl) ?_
 intro m G K0
 have K : Cx l ({ frames := 3, cells := 0, slots := 0, locals := 72 } : Room) Z n0 _ "java/util/Arrays" "sort" B13 3 none m G := K0
 have hw88 := tb hw (i:=88) rfl
 have hw90 := tb hw (i:=90) rfl
 have hw91 := tb hw (i:=91) rfl
 have hw92 := tb hw (i:=92) rfl
 have hw93 := tb hw (i:=93) rfl
 have hw94 := tb hw (i:=94) rfl
 have hw95 := tb hw (i:=95) rfl
 have hw96 := tb hw (i:=96) rfl
 refine K.aloadN d13_0 (w':=1) rfl rfl rfl ?_
 refine K.alen d13_1 (w':=2) rfl P1 (fun n e_n => ?_)
 have t_n : n.toInt = 4 := e_n
 have cs_n : n = 4 := by
  have q : n.toInt = 4 := by omega
  rcases q with q
  ·exact eqI q
 rcases cs_n with rfl
 ·refine K.iloadN d13_2 (w':=3) rfl rfl ?_
  refine K.iloadN d13_3 (w':=4) rfl rfl ?_
  refine K.calls (argsL := [(.int 4), (.int 0), (.int 4)]) (rest := []) d13_4 (w':=7) rfl (c_rc l Z a0 hw n0 h (n := (4 : Int32)) (f := (0 : Int32)) (t := (4 : Int32)) (by decide)) hw90 hw91 hw88 hw92 (by decide) pd_6 rfl rfl (W := 0) (Nat.le_refl _) (by decide) (by decide) (by decide) (by decide) (fun v_3 h_1 q_2 => ?_)
  obtain ⟨rfl, rfl⟩ := q_2
  show G h 0 0 (mkF m 7 #[vr a, vi 0, vi 4] [])
  refine K.aloadN d13_7 (w':=8) rfl rfl rfl ?_
  refine K.iconst d13_8 (w':=9) rfl (z := 0) rfl ?_
  refine K.iloadN d13_9 (w':=10) rfl rfl ?_
  refine K.iloadN d13_10 (w':=11) rfl rfl ?_
  refine K.calls (argsL := [(.ref a), (.int 0), (.int 0), (.int 4)]) (rest := []) d13_11 (w':=14) rfl (c_dq4 l Z a0 hw n0 h (a := a) (x0 := x0) (x1 := x1) (x2 := x2) (x3 := x3) P1 P2) hw93 hw94 hw95 hw96 (by decide) pd_7 rfl rfl (W := 0) (Nat.le_refl _) (by decide) (by decide) (by decide) (by decide) (fun v_7 h_5 q_6 => ?_)
  obtain ⟨y0_9, y1_10, y2_11, y3_12, rfl, K_13, f_14, hst_w_8⟩ := q_6
  show G h_5 0 0 (mkF m 14 #[vr a, vi 0, vi 4] [])
  exact K.ret0 d13_14 (by decide) (by decide) ⟨y0_9, y1_10, y2_11, y3_12, rfl, ((Keep.refl h [a]).trans K_13 (allS (Or.inl (by simp)) all0)), f_14, by assumption⟩
theorem c_ts4 (l : Launch) (Z : State) (a0 : Array Value) (hw : HW a0 Z) (n0 : Nat) (h : Heap) (a : Addr) (x0 : Int64) (x1 : Int64) (x2 : Int64) (x3 : Int64) (P1 : Ary Z h a .long [(.long x0), (.long x1), (.long x2), (.long x3)]) (P2 : n0 ≤ a) : MeetsW l Z n0 (⟨sR, "toSet", "([JII)I"⟩ : MethodName) B12 5 (some .int) ({ frames := 4, cells := 0, slots := 0, locals := 86 } : Room) #[(.ref a), (.int 0), (.int 4)] h (fun v h' => ∃ (z : Int32) (ds : List Int64) (js : List Int64), v = some (.int z) ∧ (z.toInt = (ds.length : Nat) ∧ ds.length + js.length = 4 ∧ SD ds (fun v => v = x0.toInt ∨ v = x1.toInt ∨ v = x2.toInt ∨ v = x3.toInt)) ∧ Keep h h' [a] ∧ Ary Z h' a .long ((ds ++ js).map Value.long)) := by
 refine MeetsW.intro (plainFor_of_name pn_com_example_odograph_odograph_model_Requests) (L0 := #[vr a, vi 0, vi 4, un, un]) (fun m => rfl) ?_
 intro m G K0
 have K : Cx l ({ frames := 4, cells := 0, slots := 0, locals := 86 } : Room) Z n0 _ sR "toSet" B12 5 (some .int) m G := K0
 have hw86 := tb hw (i:=86) rfl
 have hw87 := tb hw (i:=87) rfl
 have hw88 := tb hw (i:=88) rfl
 have hw89 := tb hw (i:=89) rfl
 refine K.iloadN d12_0 (w':=1) rfl rfl ?_
 refine K.iloadN d12_1 (w':=2) rfl rfl ?_
 refine K.isub d12_2 (w':=3) rfl (z := (4 : Int32)) (by decide) ?_
 refine K.iconst d12_3 (w':=4) rfl (z := 1) rfl ?_
 refine K.icmp_le d12_4 (pc1 := 7) rfl (by decide) (pc2 := 13) (by decide) (a := 4) (b := 1) rfl rfl (fun c4 => ?_) (fun c4 => ?_)
 ·exfalso; omega
 ·refine K.aloadN d12_7 (w':=8) rfl rfl rfl ?_
  refine K.iloadN d12_8 (w':=9) rfl rfl ?_
  refine K.iloadN d12_9 (w':=10) rfl rfl ?_
  refine K.calls (argsL := [(.ref a), (.int 0), (.int 4)]) (rest := []) d12_10 (w':=13) rfl (c_so4 l Z a0 hw n0 h (a := a) (x0 := x0) (x1 := x1) (x2 := x2) (x3 := x3) P1 P2) hw86 hw87 hw88 hw89 (by decide) pd_4 rfl rfl (W := 0) (Nat.le_refl _) (by decide) (by decide) (by decide) (by decide) (fun v_3 h_1 q_2 => ?_)
  obtain ⟨y0_4, y1_5, y2_6, y3_7, rfl, K_8, f_9, hst_S⟩ := q_2
  obtain ⟨hs_S, hm_S⟩ := hst_S
  show G h_1 0 0 (mkF m 13 #[vr a, vi 0, vi 4, un, un] [])
  refine K.iloadN d12_13 (w':=14) rfl rfl ?_
  refine K.istoreN d12_14 (w':=15) rfl (L' := #[vr a, vi 0, vi 4, vi 0, un]) rfl ?_
  refine K.iloadN d12_15 (w':=16) rfl rfl ?_
  refine K.istore d12_16 (w':=18) rfl (L' := #[vr a, vi 0, vi 4, vi 0, vi 0]) rfl ?_
  refine K.iload d12_18 (w':=20) rfl rfl ?_
  refine K.iloadN d12_20 (w':=21) rfl rfl ?_
  refine K.icmp_ge d12_21 (pc1 := 24) rfl (by decide) (pc2 := 58) (by decide) (a := 0) (b := 4) rfl rfl (fun c21 => ?_) (fun c21 => ?_)
  ·exfalso; omega
  ·refine K.iloadN d12_24 (w':=25) rfl rfl ?_
   refine K.iloadN d12_25 (w':=26) rfl rfl ?_
   refine K.icmp_eq d12_26 (pc1 := 29) rfl (by decide) (pc2 := 42) (by decide) (a := 0) (b := 0) rfl rfl (fun c26 => ?_) (fun c26 => ?_)
   ·refine K.aloadN d12_42 (w':=43) rfl rfl rfl ?_
    refine K.iloadN d12_43 (w':=44) rfl rfl ?_
    refine K.aloadN d12_44 (w':=45) rfl rfl rfl ?_
    refine K.iload d12_45 (w':=47) rfl rfl ?_
    refine K.lald d12_47 (w':=48) rfl f_9 (i := 0) rfl rfl ?_
    refine K.last d12_48 (w':=49) rfl f_9 (i := 0) rfl (show 0 < 4 by decide) P2 (fun h_10 W_11 A_12 => ?_)
    have A_13 : Ary Z h_10 a .long [(.long y0_4), (.long y1_5), (.long y2_6), (.long y3_7)] := A_12
    refine K.iinc d12_49 (w':=52) rfl rfl (z := (1 : Int32)) rfl (L' := #[vr a, vi 0, vi 4, vi 1, vi 0]) rfl ?_
    refine K.iinc d12_52 (w':=55) rfl rfl (z := (1 : Int32)) rfl (L' := #[vr a, vi 0, vi 4, vi 1, vi 1]) rfl ?_
    refine K.goto d12_55 (by decide) (w':=18) (by decide) ?_
    refine K.iload d12_18 (w':=20) rfl rfl ?_
    refine K.iloadN d12_20 (w':=21) rfl rfl ?_
    refine K.icmp_ge d12_21 (pc1 := 24) rfl (by decide) (pc2 := 58) (by decide) (a := 1) (b := 4) rfl rfl (fun c21_1 => ?_) (fun c21_1 => ?_)
    ·exfalso; omega
    ·refine K.iloadN d12_24 (w':=25) rfl rfl ?_
     refine K.iloadN d12_25 (w':=26) rfl rfl ?_
     refine K.icmp_eq d12_26 (pc1 := 29) rfl (by decide) (pc2 := 42) (by decide) (a := 1) (b := 0) rfl rfl (fun c26_1 => ?_) (fun c26_1 => ?_)
     ·exfalso; omega
     ·refine K.aloadN d12_29 (w':=30) rfl rfl rfl ?_
      refine K.iloadN d12_30 (w':=31) rfl rfl ?_
      refine K.iconst d12_31 (w':=32) rfl (z := 1) rfl ?_
      refine K.isub d12_32 (w':=33) rfl (z := (0 : Int32)) (by decide) ?_
      refine K.lald d12_33 (w':=34) rfl A_13 (i := 0) rfl rfl ?_
      refine K.aloadN d12_34 (w':=35) rfl rfl rfl ?_
      refine K.iload d12_35 (w':=37) rfl rfl ?_
      refine K.lald d12_37 (w':=38) rfl A_13 (i := 1) rfl rfl ?_
      refine K.lcmp_eq d12_38 d12_39 (pc1 := 42) rfl (by decide) (pc2 := 52) (by decide) (a := y0_4.toInt) (b := y1_5.toInt) rfl rfl (fun c38 => ?_) (fun c38 => ?_)
      ·refine K.iinc d12_52 (w':=55) rfl rfl (z := (2 : Int32)) rfl (L' := #[vr a, vi 0, vi 4, vi 1, vi 2]) rfl ?_
       refine K.goto d12_55 (by decide) (w':=18) (by decide) ?_
       refine K.iload d12_18 (w':=20) rfl rfl ?_
       refine K.iloadN d12_20 (w':=21) rfl rfl ?_
       refine K.icmp_ge d12_21 (pc1 := 24) rfl (by decide) (pc2 := 58) (by decide) (a := 2) (b := 4) rfl rfl (fun c21_2 => ?_) (fun c21_2 => ?_)
       ·exfalso; omega
       ·refine K.iloadN d12_24 (w':=25) rfl rfl ?_
        refine K.iloadN d12_25 (w':=26) rfl rfl ?_
        refine K.icmp_eq d12_26 (pc1 := 29) rfl (by decide) (pc2 := 42) (by decide) (a := 1) (b := 0) rfl rfl (fun c26_2 => ?_) (fun c26_2 => ?_)
        ·exfalso; omega
        ·refine K.aloadN d12_29 (w':=30) rfl rfl rfl ?_
         refine K.iloadN d12_30 (w':=31) rfl rfl ?_
         refine K.iconst d12_31 (w':=32) rfl (z := 1) rfl ?_
         refine K.isub d12_32 (w':=33) rfl (z := (0 : Int32)) (by decide) ?_
         refine K.lald d12_33 (w':=34) rfl A_13 (i := 0) rfl rfl ?_
         refine K.aloadN d12_34 (w':=35) rfl rfl rfl ?_
         refine K.iload d12_35 (w':=37) rfl rfl ?_
         refine K.lald d12_37 (w':=38) rfl A_13 (i := 2) rfl rfl ?_
         refine K.lcmp_eq d12_38 d12_39 (pc1 := 42) rfl (by decide) (pc2 := 52) (by decide) (a := y0_4.toInt) (b := y2_6.toInt) rfl rfl (fun c38_1 => ?_) (fun c38_1 => ?_)
         ·refine K.iinc d12_52 (w':=55) rfl rfl (z := (3 : Int32)) rfl (L' := #[vr a, vi 0, vi 4, vi 1, vi 3]) rfl ?_
          refine K.goto d12_55 (by decide) (w':=18) (by decide) ?_
          refine K.iload d12_18 (w':=20) rfl rfl ?_
          refine K.iloadN d12_20 (w':=21) rfl rfl ?_
          refine K.icmp_ge d12_21 (pc1 := 24) rfl (by decide) (pc2 := 58) (by decide) (a := 3) (b := 4) rfl rfl (fun c21_3 => ?_) (fun c21_3 => ?_)
          ·exfalso; omega
          ·refine K.iloadN d12_24 (w':=25) rfl rfl ?_
           refine K.iloadN d12_25 (w':=26) rfl rfl ?_
           refine K.icmp_eq d12_26 (pc1 := 29) rfl (by decide) (pc2 := 42) (by decide) (a := 1) (b := 0) rfl rfl (fun c26_3 => ?_) (fun c26_3 => ?_)
           ·exfalso; omega
           ·refine K.aloadN d12_29 (w':=30) rfl rfl rfl ?_
            refine K.iloadN d12_30 (w':=31) rfl rfl ?_
            refine K.iconst d12_31 (w':=32) rfl (z := 1) rfl ?_
            refine K.isub d12_32 (w':=33) rfl (z := (0 : Int32)) (by decide) ?_
            refine K.lald d12_33 (w':=34) rfl A_13 (i := 0) rfl rfl ?_
            refine K.aloadN d12_34 (w':=35) rfl rfl rfl ?_
            refine K.iload d12_35 (w':=37) rfl rfl ?_
            refine K.lald d12_37 (w':=38) rfl A_13 (i := 3) rfl rfl ?_
            refine K.lcmp_eq d12_38 d12_39 (pc1 := 42) rfl (by decide) (pc2 := 52) (by decide) (a := y0_4.toInt) (b := y3_7.toInt) rfl rfl (fun c38_2 => ?_) (fun c38_2 => ?_)
            ·refine K.iinc d12_52 (w':=55) rfl rfl (z := (4 : Int32)) rfl (L' := #[vr a, vi 0, vi 4, vi 1, vi 4]) rfl ?_
             refine K.goto d12_55 (by decide) (w':=18) (by decide) ?_
             refine K.iload d12_18 (w':=20) rfl rfl ?_
             refine K.iloadN d12_20 (w':=21) rfl rfl ?_
             refine K.icmp_ge d12_21 (pc1 := 24) rfl (by decide) (pc2 := 58) (by decide) (a := 4) (b := 4) rfl rfl (fun c21_4 => ?_) (fun c21_4 => ?_)
             ·refine K.iloadN d12_58 (w':=59) rfl rfl ?_
              exact K.reti d12_59 (by decide) (by decide) ⟨(1 : Int32), [y0_4], [y1_5, y2_6, y3_7], rfl, by have ev : (1 : Int32).toInt = 1 := rfl; first | omega | (exact ⟨rfl, rfl, (by simp [List.pairwise_cons] <;> omega), fun v => by refine Iff.trans ?_ (hm_S v); simp <;> omega⟩), (((Keep.refl h [a]).trans K_8 (allS (Or.inl (by simp)) all0)).wr W_11 (Or.inl (by simp))), A_13⟩
             ·exfalso; omega
            ·refine K.aloadN d12_42 (w':=43) rfl rfl rfl ?_
             refine K.iloadN d12_43 (w':=44) rfl rfl ?_
             refine K.aloadN d12_44 (w':=45) rfl rfl rfl ?_
             refine K.iload d12_45 (w':=47) rfl rfl ?_
             refine K.lald d12_47 (w':=48) rfl A_13 (i := 3) rfl rfl ?_
             refine K.last d12_48 (w':=49) rfl A_13 (i := 1) rfl (show 1 < 4 by decide) P2 (fun h_14 W_15 A_16 => ?_)
             have A_17 : Ary Z h_14 a .long [(.long y0_4), (.long y3_7), (.long y2_6), (.long y3_7)] := A_16
             refine K.iinc d12_49 (w':=52) rfl rfl (z := (2 : Int32)) rfl (L' := #[vr a, vi 0, vi 4, vi 2, vi 3]) rfl ?_
             refine K.iinc d12_52 (w':=55) rfl rfl (z := (4 : Int32)) rfl (L' := #[vr a, vi 0, vi 4, vi 2, vi 4]) rfl ?_
             refine K.goto d12_55 (by decide) (w':=18) (by decide) ?_
             refine K.iload d12_18 (w':=20) rfl rfl ?_
             refine K.iloadN d12_20 (w':=21) rfl rfl ?_
             refine K.icmp_ge d12_21 (pc1 := 24) rfl (by decide) (pc2 := 58) (by decide) (a := 4) (b := 4) rfl rfl (fun c21_4 => ?_) (fun c21_4 => ?_)
             ·refine K.iloadN d12_58 (w':=59) rfl rfl ?_
              exact K.reti d12_59 (by decide) (by decide) ⟨(2 : Int32), [y0_4, y3_7], [y2_6, y3_7], rfl, by have ev : (2 : Int32).toInt = 2 := rfl; first | omega | (exact ⟨rfl, rfl, (by simp [List.pairwise_cons] <;> omega), fun v => by refine Iff.trans ?_ (hm_S v); simp <;> omega⟩), ((((Keep.refl h [a]).trans K_8 (allS (Or.inl (by simp)) all0)).wr W_11 (Or.inl (by simp))).wr W_15 (Or.inl (by simp))), A_17⟩
             ·exfalso; omega
         ·refine K.aloadN d12_42 (w':=43) rfl rfl rfl ?_
          refine K.iloadN d12_43 (w':=44) rfl rfl ?_
          refine K.aloadN d12_44 (w':=45) rfl rfl rfl ?_
          refine K.iload d12_45 (w':=47) rfl rfl ?_
          refine K.lald d12_47 (w':=48) rfl A_13 (i := 2) rfl rfl ?_
          refine K.last d12_48 (w':=49) rfl A_13 (i := 1) rfl (show 1 < 4 by decide) P2 (fun h_18 W_19 A_20 => ?_)
          have A_21 : Ary Z h_18 a .long [(.long y0_4), (.long y2_6), (.long y2_6), (.long y3_7)] := A_20
          refine K.iinc d12_49 (w':=52) rfl rfl (z := (2 : Int32)) rfl (L' := #[vr a, vi 0, vi 4, vi 2, vi 2]) rfl ?_
          refine K.iinc d12_52 (w':=55) rfl rfl (z := (3 : Int32)) rfl (L' := #[vr a, vi 0, vi 4, vi 2, vi 3]) rfl ?_
          refine K.goto d12_55 (by decide) (w':=18) (by decide) ?_
          refine K.iload d12_18 (w':=20) rfl rfl ?_
          refine K.iloadN d12_20 (w':=21) rfl rfl ?_
          refine K.icmp_ge d12_21 (pc1 := 24) rfl (by decide) (pc2 := 58) (by decide) (a := 3) (b := 4) rfl rfl (fun c21_3 => ?_) (fun c21_3 => ?_)
          ·exfalso; omega
          ·refine K.iloadN d12_24 (w':=25) rfl rfl ?_
           refine K.iloadN d12_25 (w':=26) rfl rfl ?_
           refine K.icmp_eq d12_26 (pc1 := 29) rfl (by decide) (pc2 := 42) (by decide) (a := 2) (b := 0) rfl rfl (fun c26_3 => ?_) (fun c26_3 => ?_)
           ·exfalso; omega
           ·refine K.aloadN d12_29 (w':=30) rfl rfl rfl ?_
            refine K.iloadN d12_30 (w':=31) rfl rfl ?_
            refine K.iconst d12_31 (w':=32) rfl (z := 1) rfl ?_
            refine K.isub d12_32 (w':=33) rfl (z := (1 : Int32)) (by decide) ?_
            refine K.lald d12_33 (w':=34) rfl A_21 (i := 1) rfl rfl ?_
            refine K.aloadN d12_34 (w':=35) rfl rfl rfl ?_
            refine K.iload d12_35 (w':=37) rfl rfl ?_
            refine K.lald d12_37 (w':=38) rfl A_21 (i := 3) rfl rfl ?_
            refine K.lcmp_eq d12_38 d12_39 (pc1 := 42) rfl (by decide) (pc2 := 52) (by decide) (a := y2_6.toInt) (b := y3_7.toInt) rfl rfl (fun c38_2 => ?_) (fun c38_2 => ?_)
            ·refine K.iinc d12_52 (w':=55) rfl rfl (z := (4 : Int32)) rfl (L' := #[vr a, vi 0, vi 4, vi 2, vi 4]) rfl ?_
             refine K.goto d12_55 (by decide) (w':=18) (by decide) ?_
             refine K.iload d12_18 (w':=20) rfl rfl ?_
             refine K.iloadN d12_20 (w':=21) rfl rfl ?_
             refine K.icmp_ge d12_21 (pc1 := 24) rfl (by decide) (pc2 := 58) (by decide) (a := 4) (b := 4) rfl rfl (fun c21_4 => ?_) (fun c21_4 => ?_)
             ·refine K.iloadN d12_58 (w':=59) rfl rfl ?_
              exact K.reti d12_59 (by decide) (by decide) ⟨(2 : Int32), [y0_4, y2_6], [y2_6, y3_7], rfl, by have ev : (2 : Int32).toInt = 2 := rfl; first | omega | (exact ⟨rfl, rfl, (by simp [List.pairwise_cons] <;> omega), fun v => by refine Iff.trans ?_ (hm_S v); simp <;> omega⟩), ((((Keep.refl h [a]).trans K_8 (allS (Or.inl (by simp)) all0)).wr W_11 (Or.inl (by simp))).wr W_19 (Or.inl (by simp))), A_21⟩
             ·exfalso; omega
            ·refine K.aloadN d12_42 (w':=43) rfl rfl rfl ?_
             refine K.iloadN d12_43 (w':=44) rfl rfl ?_
             refine K.aloadN d12_44 (w':=45) rfl rfl rfl ?_
             refine K.iload d12_45 (w':=47) rfl rfl ?_
             refine K.lald d12_47 (w':=48) rfl A_21 (i := 3) rfl rfl ?_
             refine K.last d12_48 (w':=49) rfl A_21 (i := 2) rfl (show 2 < 4 by decide) P2 (fun h_22 W_23 A_24 => ?_)
             have A_25 : Ary Z h_22 a .long [(.long y0_4), (.long y2_6), (.long y3_7), (.long y3_7)] := A_24
             refine K.iinc d12_49 (w':=52) rfl rfl (z := (3 : Int32)) rfl (L' := #[vr a, vi 0, vi 4, vi 3, vi 3]) rfl ?_
             refine K.iinc d12_52 (w':=55) rfl rfl (z := (4 : Int32)) rfl (L' := #[vr a, vi 0, vi 4, vi 3, vi 4]) rfl ?_
             refine K.goto d12_55 (by decide) (w':=18) (by decide) ?_
             refine K.iload d12_18 (w':=20) rfl rfl ?_
             refine K.iloadN d12_20 (w':=21) rfl rfl ?_
             refine K.icmp_ge d12_21 (pc1 := 24) rfl (by decide) (pc2 := 58) (by decide) (a := 4) (b := 4) rfl rfl (fun c21_4 => ?_) (fun c21_4 => ?_)
             ·refine K.iloadN d12_58 (w':=59) rfl rfl ?_
              exact K.reti d12_59 (by decide) (by decide) ⟨(3 : Int32), [y0_4, y2_6, y3_7], [y3_7], rfl, by have ev : (3 : Int32).toInt = 3 := rfl; first | omega | (exact ⟨rfl, rfl, (by simp [List.pairwise_cons] <;> omega), fun v => by refine Iff.trans ?_ (hm_S v); simp <;> omega⟩), (((((Keep.refl h [a]).trans K_8 (allS (Or.inl (by simp)) all0)).wr W_11 (Or.inl (by simp))).wr W_19 (Or.inl (by simp))).wr W_23 (Or.inl (by simp))), A_25⟩
             ·exfalso; omega
      ·refine K.aloadN d12_42 (w':=43) rfl rfl rfl ?_
       refine K.iloadN d12_43 (w':=44) rfl rfl ?_
       refine K.aloadN d12_44 (w':=45) rfl rfl rfl ?_
       refine K.iload d12_45 (w':=47) rfl rfl ?_
       refine K.lald d12_47 (w':=48) rfl A_13 (i := 1) rfl rfl ?_
       refine K.last d12_48 (w':=49) rfl A_13 (i := 1) rfl (show 1 < 4 by decide) P2 (fun h_26 W_27 A_28 => ?_)
       have A_29 : Ary Z h_26 a .long [(.long y0_4), (.long y1_5), (.long y2_6), (.long y3_7)] := A_28
       refine K.iinc d12_49 (w':=52) rfl rfl (z := (2 : Int32)) rfl (L' := #[vr a, vi 0, vi 4, vi 2, vi 1]) rfl ?_
       refine K.iinc d12_52 (w':=55) rfl rfl (z := (2 : Int32)) rfl (L' := #[vr a, vi 0, vi 4, vi 2, vi 2]) rfl ?_
       refine K.goto d12_55 (by decide) (w':=18) (by decide) ?_
       refine K.iload d12_18 (w':=20) rfl rfl ?_
       refine K.iloadN d12_20 (w':=21) rfl rfl ?_
       refine K.icmp_ge d12_21 (pc1 := 24) rfl (by decide) (pc2 := 58) (by decide) (a := 2) (b := 4) rfl rfl (fun c21_2 => ?_) (fun c21_2 => ?_)
       ·exfalso; omega
       ·refine K.iloadN d12_24 (w':=25) rfl rfl ?_
        refine K.iloadN d12_25 (w':=26) rfl rfl ?_
        refine K.icmp_eq d12_26 (pc1 := 29) rfl (by decide) (pc2 := 42) (by decide) (a := 2) (b := 0) rfl rfl (fun c26_2 => ?_) (fun c26_2 => ?_)
        ·exfalso; omega
        ·refine K.aloadN d12_29 (w':=30) rfl rfl rfl ?_
         refine K.iloadN d12_30 (w':=31) rfl rfl ?_
         refine K.iconst d12_31 (w':=32) rfl (z := 1) rfl ?_
         refine K.isub d12_32 (w':=33) rfl (z := (1 : Int32)) (by decide) ?_
         refine K.lald d12_33 (w':=34) rfl A_29 (i := 1) rfl rfl ?_
         refine K.aloadN d12_34 (w':=35) rfl rfl rfl ?_
         refine K.iload d12_35 (w':=37) rfl rfl ?_
         refine K.lald d12_37 (w':=38) rfl A_29 (i := 2) rfl rfl ?_
         refine K.lcmp_eq d12_38 d12_39 (pc1 := 42) rfl (by decide) (pc2 := 52) (by decide) (a := y1_5.toInt) (b := y2_6.toInt) rfl rfl (fun c38_1 => ?_) (fun c38_1 => ?_)
         ·refine K.iinc d12_52 (w':=55) rfl rfl (z := (3 : Int32)) rfl (L' := #[vr a, vi 0, vi 4, vi 2, vi 3]) rfl ?_
          refine K.goto d12_55 (by decide) (w':=18) (by decide) ?_
          refine K.iload d12_18 (w':=20) rfl rfl ?_
          refine K.iloadN d12_20 (w':=21) rfl rfl ?_
          refine K.icmp_ge d12_21 (pc1 := 24) rfl (by decide) (pc2 := 58) (by decide) (a := 3) (b := 4) rfl rfl (fun c21_3 => ?_) (fun c21_3 => ?_)
          ·exfalso; omega
          ·refine K.iloadN d12_24 (w':=25) rfl rfl ?_
           refine K.iloadN d12_25 (w':=26) rfl rfl ?_
           refine K.icmp_eq d12_26 (pc1 := 29) rfl (by decide) (pc2 := 42) (by decide) (a := 2) (b := 0) rfl rfl (fun c26_3 => ?_) (fun c26_3 => ?_)
           ·exfalso; omega
           ·refine K.aloadN d12_29 (w':=30) rfl rfl rfl ?_
            refine K.iloadN d12_30 (w':=31) rfl rfl ?_
            refine K.iconst d12_31 (w':=32) rfl (z := 1) rfl ?_
            refine K.isub d12_32 (w':=33) rfl (z := (1 : Int32)) (by decide) ?_
            refine K.lald d12_33 (w':=34) rfl A_29 (i := 1) rfl rfl ?_
            refine K.aloadN d12_34 (w':=35) rfl rfl rfl ?_
            refine K.iload d12_35 (w':=37) rfl rfl ?_
            refine K.lald d12_37 (w':=38) rfl A_29 (i := 3) rfl rfl ?_
            refine K.lcmp_eq d12_38 d12_39 (pc1 := 42) rfl (by decide) (pc2 := 52) (by decide) (a := y1_5.toInt) (b := y3_7.toInt) rfl rfl (fun c38_2 => ?_) (fun c38_2 => ?_)
            ·refine K.iinc d12_52 (w':=55) rfl rfl (z := (4 : Int32)) rfl (L' := #[vr a, vi 0, vi 4, vi 2, vi 4]) rfl ?_
             refine K.goto d12_55 (by decide) (w':=18) (by decide) ?_
             refine K.iload d12_18 (w':=20) rfl rfl ?_
             refine K.iloadN d12_20 (w':=21) rfl rfl ?_
             refine K.icmp_ge d12_21 (pc1 := 24) rfl (by decide) (pc2 := 58) (by decide) (a := 4) (b := 4) rfl rfl (fun c21_4 => ?_) (fun c21_4 => ?_)
             ·refine K.iloadN d12_58 (w':=59) rfl rfl ?_
              exact K.reti d12_59 (by decide) (by decide) ⟨(2 : Int32), [y0_4, y1_5], [y2_6, y3_7], rfl, by have ev : (2 : Int32).toInt = 2 := rfl; first | omega | (exact ⟨rfl, rfl, (by simp [List.pairwise_cons] <;> omega), fun v => by refine Iff.trans ?_ (hm_S v); simp <;> omega⟩), ((((Keep.refl h [a]).trans K_8 (allS (Or.inl (by simp)) all0)).wr W_11 (Or.inl (by simp))).wr W_27 (Or.inl (by simp))), A_29⟩
             ·exfalso; omega
            ·refine K.aloadN d12_42 (w':=43) rfl rfl rfl ?_
             refine K.iloadN d12_43 (w':=44) rfl rfl ?_
             refine K.aloadN d12_44 (w':=45) rfl rfl rfl ?_
             refine K.iload d12_45 (w':=47) rfl rfl ?_
             refine K.lald d12_47 (w':=48) rfl A_29 (i := 3) rfl rfl ?_
             refine K.last d12_48 (w':=49) rfl A_29 (i := 2) rfl (show 2 < 4 by decide) P2 (fun h_30 W_31 A_32 => ?_)
             have A_33 : Ary Z h_30 a .long [(.long y0_4), (.long y1_5), (.long y3_7), (.long y3_7)] := A_32
             refine K.iinc d12_49 (w':=52) rfl rfl (z := (3 : Int32)) rfl (L' := #[vr a, vi 0, vi 4, vi 3, vi 3]) rfl ?_
             refine K.iinc d12_52 (w':=55) rfl rfl (z := (4 : Int32)) rfl (L' := #[vr a, vi 0, vi 4, vi 3, vi 4]) rfl ?_
             refine K.goto d12_55 (by decide) (w':=18) (by decide) ?_
             refine K.iload d12_18 (w':=20) rfl rfl ?_
             refine K.iloadN d12_20 (w':=21) rfl rfl ?_
             refine K.icmp_ge d12_21 (pc1 := 24) rfl (by decide) (pc2 := 58) (by decide) (a := 4) (b := 4) rfl rfl (fun c21_4 => ?_) (fun c21_4 => ?_)
             ·refine K.iloadN d12_58 (w':=59) rfl rfl ?_
              exact K.reti d12_59 (by decide) (by decide) ⟨(3 : Int32), [y0_4, y1_5, y3_7], [y3_7], rfl, by have ev : (3 : Int32).toInt = 3 := rfl; first | omega | (exact ⟨rfl, rfl, (by simp [List.pairwise_cons] <;> omega), fun v => by refine Iff.trans ?_ (hm_S v); simp <;> omega⟩), (((((Keep.refl h [a]).trans K_8 (allS (Or.inl (by simp)) all0)).wr W_11 (Or.inl (by simp))).wr W_27 (Or.inl (by simp))).wr W_31 (Or.inl (by simp))), A_33⟩
             ·exfalso; omega
         ·refine K.aloadN d12_42 (w':=43) rfl rfl rfl ?_
          refine K.iloadN d12_43 (w':=44) rfl rfl ?_
          refine K.aloadN d12_44 (w':=45) rfl rfl rfl ?_
          refine K.iload d12_45 (w':=47) rfl rfl ?_
          refine K.lald d12_47 (w':=48) rfl A_29 (i := 2) rfl rfl ?_
          refine K.last d12_48 (w':=49) rfl A_29 (i := 2) rfl (show 2 < 4 by decide) P2 (fun h_34 W_35 A_36 => ?_)
          have A_37 : Ary Z h_34 a .long [(.long y0_4), (.long y1_5), (.long y2_6), (.long y3_7)] := A_36
          refine K.iinc d12_49 (w':=52) rfl rfl (z := (3 : Int32)) rfl (L' := #[vr a, vi 0, vi 4, vi 3, vi 2]) rfl ?_
          refine K.iinc d12_52 (w':=55) rfl rfl (z := (3 : Int32)) rfl (L' := #[vr a, vi 0, vi 4, vi 3, vi 3]) rfl ?_
          refine K.goto d12_55 (by decide) (w':=18) (by decide) ?_
          refine K.iload d12_18 (w':=20) rfl rfl ?_
          refine K.iloadN d12_20 (w':=21) rfl rfl ?_
          refine K.icmp_ge d12_21 (pc1 := 24) rfl (by decide) (pc2 := 58) (by decide) (a := 3) (b := 4) rfl rfl (fun c21_3 => ?_) (fun c21_3 => ?_)
          ·exfalso; omega
          ·refine K.iloadN d12_24 (w':=25) rfl rfl ?_
           refine K.iloadN d12_25 (w':=26) rfl rfl ?_
           refine K.icmp_eq d12_26 (pc1 := 29) rfl (by decide) (pc2 := 42) (by decide) (a := 3) (b := 0) rfl rfl (fun c26_3 => ?_) (fun c26_3 => ?_)
           ·exfalso; omega
           ·refine K.aloadN d12_29 (w':=30) rfl rfl rfl ?_
            refine K.iloadN d12_30 (w':=31) rfl rfl ?_
            refine K.iconst d12_31 (w':=32) rfl (z := 1) rfl ?_
            refine K.isub d12_32 (w':=33) rfl (z := (2 : Int32)) (by decide) ?_
            refine K.lald d12_33 (w':=34) rfl A_37 (i := 2) rfl rfl ?_
            refine K.aloadN d12_34 (w':=35) rfl rfl rfl ?_
            refine K.iload d12_35 (w':=37) rfl rfl ?_
            refine K.lald d12_37 (w':=38) rfl A_37 (i := 3) rfl rfl ?_
            refine K.lcmp_eq d12_38 d12_39 (pc1 := 42) rfl (by decide) (pc2 := 52) (by decide) (a := y2_6.toInt) (b := y3_7.toInt) rfl rfl (fun c38_2 => ?_) (fun c38_2 => ?_)
            ·refine K.iinc d12_52 (w':=55) rfl rfl (z := (4 : Int32)) rfl (L' := #[vr a, vi 0, vi 4, vi 3, vi 4]) rfl ?_
             refine K.goto d12_55 (by decide) (w':=18) (by decide) ?_
             refine K.iload d12_18 (w':=20) rfl rfl ?_
             refine K.iloadN d12_20 (w':=21) rfl rfl ?_
             refine K.icmp_ge d12_21 (pc1 := 24) rfl (by decide) (pc2 := 58) (by decide) (a := 4) (b := 4) rfl rfl (fun c21_4 => ?_) (fun c21_4 => ?_)
             ·refine K.iloadN d12_58 (w':=59) rfl rfl ?_
              exact K.reti d12_59 (by decide) (by decide) ⟨(3 : Int32), [y0_4, y1_5, y2_6], [y3_7], rfl, by have ev : (3 : Int32).toInt = 3 := rfl; first | omega | (exact ⟨rfl, rfl, (by simp [List.pairwise_cons] <;> omega), fun v => by refine Iff.trans ?_ (hm_S v); simp <;> omega⟩), (((((Keep.refl h [a]).trans K_8 (allS (Or.inl (by simp)) all0)).wr W_11 (Or.inl (by simp))).wr W_27 (Or.inl (by simp))).wr W_35 (Or.inl (by simp))), A_37⟩
             ·exfalso; omega
            ·refine K.aloadN d12_42 (w':=43) rfl rfl rfl ?_
             refine K.iloadN d12_43 (w':=44) rfl rfl ?_
             refine K.aloadN d12_44 (w':=45) rfl rfl rfl ?_
             refine K.iload d12_45 (w':=47) rfl rfl ?_
             refine K.lald d12_47 (w':=48) rfl A_37 (i := 3) rfl rfl ?_
             refine K.last d12_48 (w':=49) rfl A_37 (i := 3) rfl (show 3 < 4 by decide) P2 (fun h_38 W_39 A_40 => ?_)
             have A_41 : Ary Z h_38 a .long [(.long y0_4), (.long y1_5), (.long y2_6), (.long y3_7)] := A_40
             refine K.iinc d12_49 (w':=52) rfl rfl (z := (4 : Int32)) rfl (L' := #[vr a, vi 0, vi 4, vi 4, vi 3]) rfl ?_
             refine K.iinc d12_52 (w':=55) rfl rfl (z := (4 : Int32)) rfl (L' := #[vr a, vi 0, vi 4, vi 4, vi 4]) rfl ?_
             refine K.goto d12_55 (by decide) (w':=18) (by decide) ?_
             refine K.iload d12_18 (w':=20) rfl rfl ?_
             refine K.iloadN d12_20 (w':=21) rfl rfl ?_
             refine K.icmp_ge d12_21 (pc1 := 24) rfl (by decide) (pc2 := 58) (by decide) (a := 4) (b := 4) rfl rfl (fun c21_4 => ?_) (fun c21_4 => ?_)
             ·refine K.iloadN d12_58 (w':=59) rfl rfl ?_
              exact K.reti d12_59 (by decide) (by decide) ⟨(4 : Int32), [y0_4, y1_5, y2_6, y3_7], [], rfl, by have ev : (4 : Int32).toInt = 4 := rfl; first | omega | (exact ⟨rfl, rfl, (by simp [List.pairwise_cons] <;> omega), fun v => by refine Iff.trans ?_ (hm_S v); simp <;> omega⟩), ((((((Keep.refl h [a]).trans K_8 (allS (Or.inl (by simp)) all0)).wr W_11 (Or.inl (by simp))).wr W_27 (Or.inl (by simp))).wr W_35 (Or.inl (by simp))).wr W_39 (Or.inl (by simp))), A_41⟩
             ·exfalso; omega
   ·exfalso; omega
theorem c_is5 (l : Launch) (Z : State) (a0 : Array Value) (hw : HW a0 Z) (n0 : Nat) (h : Heap) (a : Addr) (x0 : Int64) (x1 : Int64) (x2 : Int64) (x3 : Int64) (x4 : Int64) (P1 : Ary Z h a .long [(.long x0), (.long x1), (.long x2), (.long x3), (.long x4)]) (P2 : n0 ≤ a) : MeetsW l Z n0 (⟨"java/util/DualPivotQuicksort", "insertionSort", "([JII)V"⟩ : MethodName) B17 7 none ({ frames := 0, cells := 0, slots := 0, locals := 0 } : Room) #[(.ref a), (.int 0), (.int 5)] h (fun v h' => ∃ (y0 : Int64) (y1 : Int64) (y2 : Int64) (y3 : Int64) (y4 : Int64), v = none ∧ Keep h h' [a] ∧ Ary Z h' a .long [(.long y0), (.long y1), (.long y2), (.long y3), (.long y4)] ∧ ((y0.toInt ≤ y1.toInt ∧ y1.toInt ≤ y2.toInt ∧ y2.toInt ≤ y3.toInt ∧ y3.toInt ≤ y4.toInt) ∧ ∀ v : Int, (v = y0.toInt ∨ v = y1.toInt ∨ v = y2.toInt ∨ v = y3.toInt ∨ v = y4.toInt) ↔ (v = x0.toInt ∨ v = x1.toInt ∨ v = x2.toInt ∨ v = x3.toInt ∨ v = x4.toInt))) := by
 refine MeetsW.intro (plainFor_of_name pn_java_util_DualPivotQuicksort) (L0 := #[vr a, vi 0, vi 5, un, un, un, un]) (fun m => rfl) ?_
 intro m G K0
 have K : Cx l ({ frames := 0, cells := 0, slots := 0, locals := 0 } : Room) Z n0 _ "java/util/DualPivotQuicksort" "insertionSort" B17 7 none m G := K0
 have hm_0 : ∀ v : Int, (v = x0.toInt) ↔ (v = x0.toInt) := fun _ => Iff.rfl
 refine K.iloadN d17_0 (w':=1) rfl rfl ?_
 refine K.istore d17_1 (w':=3) rfl (L' := #[vr a, vi 0, vi 5, un, vi 0, un, un]) rfl ?_
 refine K.iinc d17_3 (w':=6) rfl rfl (z := (1 : Int32)) rfl (L' := #[vr a, vi 0, vi 5, un, vi 1, un, un]) rfl ?_
 refine K.iload d17_6 (w':=8) rfl rfl ?_
 refine K.iloadN d17_8 (w':=9) rfl rfl ?_
 refine K.icmp_ge d17_9 (pc1 := 12) rfl (by decide) (pc2 := 69) (by decide) (a := 1) (b := 5) rfl rfl (fun c9 => ?_) (fun c9 => ?_)
 ·exfalso; omega
 ·have H3_1 : ∀ (i1 : Int32) (q1 : Int64) (y1_0 : Int64) (y1_1 : Int64) (h_1 : Heap) (K_2 : Keep h h_1 [a]) (A_3 : Ary Z h_1 a .long [(.long y1_0), (.long y1_1), (.long x2), (.long x3), (.long x4)]), ((y1_0.toInt ≤ y1_1.toInt) ∧ ∀ v : Int, (v = y1_0.toInt ∨ v = y1_1.toInt) ↔ (v = x0.toInt ∨ v = x1.toInt)) → G h_1 0 0 (mkF m 3 #[vr a, vi 0, vi 5, vi i1, vi 1, vj q1, se] []) := by
   intro i1 q1 y1_0 y1_1 h_1 K_2 A_3 hj_1
   obtain ⟨hs_1, hm_1⟩ := hj_1
   refine K.iinc d17_3 (w':=6) rfl rfl (z := (2 : Int32)) rfl (L' := #[vr a, vi 0, vi 5, vi i1, vi 2, vj q1, se]) rfl ?_
   refine K.iload d17_6 (w':=8) rfl rfl ?_
   refine K.iloadN d17_8 (w':=9) rfl rfl ?_
   refine K.icmp_ge d17_9 (pc1 := 12) rfl (by decide) (pc2 := 69) (by decide) (a := 2) (b := 5) rfl rfl (fun c9_1 => ?_) (fun c9_1 => ?_)
   ·exfalso; omega
   ·have H3_2 : ∀ (i2 : Int32) (q2 : Int64) (y2_0 : Int64) (y2_1 : Int64) (y2_2 : Int64) (h_4 : Heap) (K_5 : Keep h_1 h_4 [a]) (A_6 : Ary Z h_4 a .long [(.long y2_0), (.long y2_1), (.long y2_2), (.long x3), (.long x4)]), ((y2_0.toInt ≤ y2_1.toInt ∧ y2_1.toInt ≤ y2_2.toInt) ∧ ∀ v : Int, (v = y2_0.toInt ∨ v = y2_1.toInt ∨ v = y2_2.toInt) ↔ (v = x0.toInt ∨ v = x1.toInt ∨ v = x2.toInt)) → G h_4 0 0 (mkF m 3 #[vr a, vi 0, vi 5, vi i2, vi 2, vj q2, se] []) := by
     intro i2 q2 y2_0 y2_1 y2_2 h_4 K_5 A_6 hj_2
     obtain ⟨hs_2, hm_2⟩ := hj_2
     refine K.iinc d17_3 (w':=6) rfl rfl (z := (3 : Int32)) rfl (L' := #[vr a, vi 0, vi 5, vi i2, vi 3, vj q2, se]) rfl ?_
     refine K.iload d17_6 (w':=8) rfl rfl ?_
     refine K.iloadN d17_8 (w':=9) rfl rfl ?_
     refine K.icmp_ge d17_9 (pc1 := 12) rfl (by decide) (pc2 := 69) (by decide) (a := 3) (b := 5) rfl rfl (fun c9_2 => ?_) (fun c9_2 => ?_)
     ·exfalso; omega
     ·have H3_3 : ∀ (i3 : Int32) (q3 : Int64) (y3_0 : Int64) (y3_1 : Int64) (y3_2 : Int64) (y3_3 : Int64) (h_7 : Heap) (K_8 : Keep h_4 h_7 [a]) (A_9 : Ary Z h_7 a .long [(.long y3_0), (.long y3_1), (.long y3_2), (.long y3_3), (.long x4)]), ((y3_0.toInt ≤ y3_1.toInt ∧ y3_1.toInt ≤ y3_2.toInt ∧ y3_2.toInt ≤ y3_3.toInt) ∧ ∀ v : Int, (v = y3_0.toInt ∨ v = y3_1.toInt ∨ v = y3_2.toInt ∨ v = y3_3.toInt) ↔ (v = x0.toInt ∨ v = x1.toInt ∨ v = x2.toInt ∨ v = x3.toInt)) → G h_7 0 0 (mkF m 3 #[vr a, vi 0, vi 5, vi i3, vi 3, vj q3, se] []) := by
       intro i3 q3 y3_0 y3_1 y3_2 y3_3 h_7 K_8 A_9 hj_3
       obtain ⟨hs_3, hm_3⟩ := hj_3
       refine K.iinc d17_3 (w':=6) rfl rfl (z := (4 : Int32)) rfl (L' := #[vr a, vi 0, vi 5, vi i3, vi 4, vj q3, se]) rfl ?_
       refine K.iload d17_6 (w':=8) rfl rfl ?_
       refine K.iloadN d17_8 (w':=9) rfl rfl ?_
       refine K.icmp_ge d17_9 (pc1 := 12) rfl (by decide) (pc2 := 69) (by decide) (a := 4) (b := 5) rfl rfl (fun c9_3 => ?_) (fun c9_3 => ?_)
       ·exfalso; omega
       ·have H3_4 : ∀ (i4 : Int32) (q4 : Int64) (y4_0 : Int64) (y4_1 : Int64) (y4_2 : Int64) (y4_3 : Int64) (y4_4 : Int64) (h_10 : Heap) (K_11 : Keep h_7 h_10 [a]) (A_12 : Ary Z h_10 a .long [(.long y4_0), (.long y4_1), (.long y4_2), (.long y4_3), (.long y4_4)]), ((y4_0.toInt ≤ y4_1.toInt ∧ y4_1.toInt ≤ y4_2.toInt ∧ y4_2.toInt ≤ y4_3.toInt ∧ y4_3.toInt ≤ y4_4.toInt) ∧ ∀ v : Int, (v = y4_0.toInt ∨ v = y4_1.toInt ∨ v = y4_2.toInt ∨ v = y4_3.toInt ∨ v = y4_4.toInt) ↔ (v = x0.toInt ∨ v = x1.toInt ∨ v = x2.toInt ∨ v = x3.toInt ∨ v = x4.toInt)) → G h_10 0 0 (mkF m 3 #[vr a, vi 0, vi 5, vi i4, vi 4, vj q4, se] []) := by
         intro i4 q4 y4_0 y4_1 y4_2 y4_3 y4_4 h_10 K_11 A_12 hj_4
         obtain ⟨hs_4, hm_4⟩ := hj_4
         refine K.iinc d17_3 (w':=6) rfl rfl (z := (5 : Int32)) rfl (L' := #[vr a, vi 0, vi 5, vi i4, vi 5, vj q4, se]) rfl ?_
         refine K.iload d17_6 (w':=8) rfl rfl ?_
         refine K.iloadN d17_8 (w':=9) rfl rfl ?_
         refine K.icmp_ge d17_9 (pc1 := 12) rfl (by decide) (pc2 := 69) (by decide) (a := 5) (b := 5) rfl rfl (fun c9_4 => ?_) (fun c9_4 => ?_)
         ·exact K.ret0 d17_69 (by decide) (by decide) ⟨y4_0, y4_1, y4_2, y4_3, y4_4, rfl, (((((Keep.refl h [a]).trans K_2 (allS (Or.inl (by simp)) all0)).trans K_5 (allS (Or.inl (by simp)) all0)).trans K_8 (allS (Or.inl (by simp)) all0)).trans K_11 (allS (Or.inl (by simp)) all0)), A_12, by exact ⟨hs_4, hm_4⟩⟩
         ·exfalso; omega
        refine K.aloadN d17_12 (w':=13) rfl rfl rfl ?_
        refine K.iload d17_13 (w':=15) rfl rfl ?_
        refine K.dup d17_15 (w':=16) rfl rfl ?_
        refine K.istoreN d17_16 (w':=17) rfl (L' := #[vr a, vi 0, vi 5, vi 4, vi 4, vj q3, se]) rfl ?_
        refine K.lald d17_17 (w':=18) rfl A_9 (i := 4) rfl rfl ?_
        refine K.lstore d17_18 (w':=20) rfl (L' := #[vr a, vi 0, vi 5, vi 4, vi 4, vj x4, se]) rfl ?_
        refine K.lload d17_20 (w':=22) rfl rfl ?_
        refine K.aloadN d17_22 (w':=23) rfl rfl rfl ?_
        refine K.iloadN d17_23 (w':=24) rfl rfl ?_
        refine K.iconst d17_24 (w':=25) rfl (z := 1) rfl ?_
        refine K.isub d17_25 (w':=26) rfl (z := (3 : Int32)) (by decide) ?_
        refine K.lald d17_26 (w':=27) rfl A_9 (i := 3) rfl rfl ?_
        refine K.lcmp_ge d17_27 d17_28 (pc1 := 31) rfl (by decide) (pc2 := 66) (by decide) (a := x4.toInt) (b := y3_3.toInt) rfl rfl (fun c27 => ?_) (fun c27 => ?_)
        ·refine K.goto d17_66 (by decide) (w':=3) (by decide) ?_
         exact H3_4 (4 : Int32) x4 (y3_0) (y3_1) (y3_2) (y3_3) (x4) h_7 (Keep.refl h_7 [a]) A_9 (by exact ⟨by omega, fun v => (Iff.of_eq (show (v = y3_0.toInt ∨ v = y3_1.toInt ∨ v = y3_2.toInt ∨ v = y3_3.toInt ∨ v = x4.toInt) = ((v = y3_0.toInt ∨ v = y3_1.toInt ∨ v = y3_2.toInt ∨ v = y3_3.toInt) ∨ v = x4.toInt) from by ac_rfl)).trans ((or_congr_left (hm_3 v)).trans (Iff.of_eq (show ((v = x0.toInt ∨ v = x1.toInt ∨ v = x2.toInt ∨ v = x3.toInt) ∨ v = x4.toInt) = (v = x0.toInt ∨ v = x1.toInt ∨ v = x2.toInt ∨ v = x3.toInt ∨ v = x4.toInt) from by ac_rfl)))⟩)
        ·refine K.iinc d17_31 (w':=34) rfl rfl (z := (3 : Int32)) rfl (L' := #[vr a, vi 0, vi 5, vi 3, vi 4, vj x4, se]) rfl ?_
         refine K.iloadN d17_34 (w':=35) rfl rfl ?_
         refine K.iloadN d17_35 (w':=36) rfl rfl ?_
         refine K.icmp_lt d17_36 (pc1 := 39) rfl (by decide) (pc2 := 59) (by decide) (a := 3) (b := 0) rfl rfl (fun c36 => ?_) (fun c36 => ?_)
         ·exfalso; omega
         ·refine K.lload d17_39 (w':=41) rfl rfl ?_
          refine K.aloadN d17_41 (w':=42) rfl rfl rfl ?_
          refine K.iloadN d17_42 (w':=43) rfl rfl ?_
          refine K.lald d17_43 (w':=44) rfl A_9 (i := 3) rfl rfl ?_
          refine K.lcmp_ge d17_44 d17_45 (pc1 := 48) rfl (by decide) (pc2 := 59) (by decide) (a := x4.toInt) (b := y3_3.toInt) rfl rfl (fun c44 => ?_) (fun c44 => ?_)
          ·exfalso; omega
          ·refine K.aloadN d17_48 (w':=49) rfl rfl rfl ?_
           refine K.iloadN d17_49 (w':=50) rfl rfl ?_
           refine K.iconst d17_50 (w':=51) rfl (z := 1) rfl ?_
           refine K.iadd d17_51 (w':=52) rfl (z := (4 : Int32)) (by decide) ?_
           refine K.aloadN d17_52 (w':=53) rfl rfl rfl ?_
           refine K.iloadN d17_53 (w':=54) rfl rfl ?_
           refine K.lald d17_54 (w':=55) rfl A_9 (i := 3) rfl rfl ?_
           refine K.last d17_55 (w':=56) rfl A_9 (i := 4) rfl (show 4 < 5 by decide) P2 (fun h_13 W_14 A_15 => ?_)
           have A_16 : Ary Z h_13 a .long [(.long y3_0), (.long y3_1), (.long y3_2), (.long y3_3), (.long y3_3)] := A_15
           refine K.goto d17_56 (by decide) (w':=31) (by decide) ?_
           refine K.iinc d17_31 (w':=34) rfl rfl (z := (2 : Int32)) rfl (L' := #[vr a, vi 0, vi 5, vi 2, vi 4, vj x4, se]) rfl ?_
           refine K.iloadN d17_34 (w':=35) rfl rfl ?_
           refine K.iloadN d17_35 (w':=36) rfl rfl ?_
           refine K.icmp_lt d17_36 (pc1 := 39) rfl (by decide) (pc2 := 59) (by decide) (a := 2) (b := 0) rfl rfl (fun c36_1 => ?_) (fun c36_1 => ?_)
           ·exfalso; omega
           ·refine K.lload d17_39 (w':=41) rfl rfl ?_
            refine K.aloadN d17_41 (w':=42) rfl rfl rfl ?_
            refine K.iloadN d17_42 (w':=43) rfl rfl ?_
            refine K.lald d17_43 (w':=44) rfl A_16 (i := 2) rfl rfl ?_
            refine K.lcmp_ge d17_44 d17_45 (pc1 := 48) rfl (by decide) (pc2 := 59) (by decide) (a := x4.toInt) (b := y3_2.toInt) rfl rfl (fun c44_1 => ?_) (fun c44_1 => ?_)
            ·refine K.aloadN d17_59 (w':=60) rfl rfl rfl ?_
             refine K.iloadN d17_60 (w':=61) rfl rfl ?_
             refine K.iconst d17_61 (w':=62) rfl (z := 1) rfl ?_
             refine K.iadd d17_62 (w':=63) rfl (z := (3 : Int32)) (by decide) ?_
             refine K.lload d17_63 (w':=65) rfl rfl ?_
             refine K.last d17_65 (w':=66) rfl A_16 (i := 3) rfl (show 3 < 5 by decide) P2 (fun h_17 W_18 A_19 => ?_)
             have A_20 : Ary Z h_17 a .long [(.long y3_0), (.long y3_1), (.long y3_2), (.long x4), (.long y3_3)] := A_19
             refine K.goto d17_66 (by decide) (w':=3) (by decide) ?_
             exact H3_4 (2 : Int32) x4 (y3_0) (y3_1) (y3_2) (x4) (y3_3) h_17 (((Keep.refl h_7 [a]).wr W_14 (Or.inl (by simp))).wr W_18 (Or.inl (by simp))) A_20 (by exact ⟨by omega, fun v => (Iff.of_eq (show (v = y3_0.toInt ∨ v = y3_1.toInt ∨ v = y3_2.toInt ∨ v = x4.toInt ∨ v = y3_3.toInt) = ((v = y3_0.toInt ∨ v = y3_1.toInt ∨ v = y3_2.toInt ∨ v = y3_3.toInt) ∨ v = x4.toInt) from by ac_rfl)).trans ((or_congr_left (hm_3 v)).trans (Iff.of_eq (show ((v = x0.toInt ∨ v = x1.toInt ∨ v = x2.toInt ∨ v = x3.toInt) ∨ v = x4.toInt) = (v = x0.toInt ∨ v = x1.toInt ∨ v = x2.toInt ∨ v = x3.toInt ∨ v = x4.toInt) from by ac_rfl)))⟩)
            ·refine K.aloadN d17_48 (w':=49) rfl rfl rfl ?_
             refine K.iloadN d17_49 (w':=50) rfl rfl ?_
             refine K.iconst d17_50 (w':=51) rfl (z := 1) rfl ?_
             refine K.iadd d17_51 (w':=52) rfl (z := (3 : Int32)) (by decide) ?_
             refine K.aloadN d17_52 (w':=53) rfl rfl rfl ?_
             refine K.iloadN d17_53 (w':=54) rfl rfl ?_
             refine K.lald d17_54 (w':=55) rfl A_16 (i := 2) rfl rfl ?_
             refine K.last d17_55 (w':=56) rfl A_16 (i := 3) rfl (show 3 < 5 by decide) P2 (fun h_21 W_22 A_23 => ?_)
             have A_24 : Ary Z h_21 a .long [(.long y3_0), (.long y3_1), (.long y3_2), (.long y3_2), (.long y3_3)] := A_23
             refine K.goto d17_56 (by decide) (w':=31) (by decide) ?_
             refine K.iinc d17_31 (w':=34) rfl rfl (z := (1 : Int32)) rfl (L' := #[vr a, vi 0, vi 5, vi 1, vi 4, vj x4, se]) rfl ?_
             refine K.iloadN d17_34 (w':=35) rfl rfl ?_
             refine K.iloadN d17_35 (w':=36) rfl rfl ?_
             refine K.icmp_lt d17_36 (pc1 := 39) rfl (by decide) (pc2 := 59) (by decide) (a := 1) (b := 0) rfl rfl (fun c36_2 => ?_) (fun c36_2 => ?_)
             ·exfalso; omega
             ·refine K.lload d17_39 (w':=41) rfl rfl ?_
              refine K.aloadN d17_41 (w':=42) rfl rfl rfl ?_
              refine K.iloadN d17_42 (w':=43) rfl rfl ?_
              refine K.lald d17_43 (w':=44) rfl A_24 (i := 1) rfl rfl ?_
              refine K.lcmp_ge d17_44 d17_45 (pc1 := 48) rfl (by decide) (pc2 := 59) (by decide) (a := x4.toInt) (b := y3_1.toInt) rfl rfl (fun c44_2 => ?_) (fun c44_2 => ?_)
              ·refine K.aloadN d17_59 (w':=60) rfl rfl rfl ?_
               refine K.iloadN d17_60 (w':=61) rfl rfl ?_
               refine K.iconst d17_61 (w':=62) rfl (z := 1) rfl ?_
               refine K.iadd d17_62 (w':=63) rfl (z := (2 : Int32)) (by decide) ?_
               refine K.lload d17_63 (w':=65) rfl rfl ?_
               refine K.last d17_65 (w':=66) rfl A_24 (i := 2) rfl (show 2 < 5 by decide) P2 (fun h_25 W_26 A_27 => ?_)
               have A_28 : Ary Z h_25 a .long [(.long y3_0), (.long y3_1), (.long x4), (.long y3_2), (.long y3_3)] := A_27
               refine K.goto d17_66 (by decide) (w':=3) (by decide) ?_
               exact H3_4 (1 : Int32) x4 (y3_0) (y3_1) (x4) (y3_2) (y3_3) h_25 ((((Keep.refl h_7 [a]).wr W_14 (Or.inl (by simp))).wr W_22 (Or.inl (by simp))).wr W_26 (Or.inl (by simp))) A_28 (by exact ⟨by omega, fun v => (Iff.of_eq (show (v = y3_0.toInt ∨ v = y3_1.toInt ∨ v = x4.toInt ∨ v = y3_2.toInt ∨ v = y3_3.toInt) = ((v = y3_0.toInt ∨ v = y3_1.toInt ∨ v = y3_2.toInt ∨ v = y3_3.toInt) ∨ v = x4.toInt) from by ac_rfl)).trans ((or_congr_left (hm_3 v)).trans (Iff.of_eq (show ((v = x0.toInt ∨ v = x1.toInt ∨ v = x2.toInt ∨ v = x3.toInt) ∨ v = x4.toInt) = (v = x0.toInt ∨ v = x1.toInt ∨ v = x2.toInt ∨ v = x3.toInt ∨ v = x4.toInt) from by ac_rfl)))⟩)
              ·refine K.aloadN d17_48 (w':=49) rfl rfl rfl ?_
               refine K.iloadN d17_49 (w':=50) rfl rfl ?_
               refine K.iconst d17_50 (w':=51) rfl (z := 1) rfl ?_
               refine K.iadd d17_51 (w':=52) rfl (z := (2 : Int32)) (by decide) ?_
               refine K.aloadN d17_52 (w':=53) rfl rfl rfl ?_
               refine K.iloadN d17_53 (w':=54) rfl rfl ?_
               refine K.lald d17_54 (w':=55) rfl A_24 (i := 1) rfl rfl ?_
               refine K.last d17_55 (w':=56) rfl A_24 (i := 2) rfl (show 2 < 5 by decide) P2 (fun h_29 W_30 A_31 => ?_)
               have A_32 : Ary Z h_29 a .long [(.long y3_0), (.long y3_1), (.long y3_1), (.long y3_2), (.long y3_3)] := A_31
               refine K.goto d17_56 (by decide) (w':=31) (by decide) ?_
               refine K.iinc d17_31 (w':=34) rfl rfl (z := (0 : Int32)) rfl (L' := #[vr a, vi 0, vi 5, vi 0, vi 4, vj x4, se]) rfl ?_
               refine K.iloadN d17_34 (w':=35) rfl rfl ?_
               refine K.iloadN d17_35 (w':=36) rfl rfl ?_
               refine K.icmp_lt d17_36 (pc1 := 39) rfl (by decide) (pc2 := 59) (by decide) (a := 0) (b := 0) rfl rfl (fun c36_3 => ?_) (fun c36_3 => ?_)
               ·exfalso; omega
               ·refine K.lload d17_39 (w':=41) rfl rfl ?_
                refine K.aloadN d17_41 (w':=42) rfl rfl rfl ?_
                refine K.iloadN d17_42 (w':=43) rfl rfl ?_
                refine K.lald d17_43 (w':=44) rfl A_32 (i := 0) rfl rfl ?_
                refine K.lcmp_ge d17_44 d17_45 (pc1 := 48) rfl (by decide) (pc2 := 59) (by decide) (a := x4.toInt) (b := y3_0.toInt) rfl rfl (fun c44_3 => ?_) (fun c44_3 => ?_)
                ·refine K.aloadN d17_59 (w':=60) rfl rfl rfl ?_
                 refine K.iloadN d17_60 (w':=61) rfl rfl ?_
                 refine K.iconst d17_61 (w':=62) rfl (z := 1) rfl ?_
                 refine K.iadd d17_62 (w':=63) rfl (z := (1 : Int32)) (by decide) ?_
                 refine K.lload d17_63 (w':=65) rfl rfl ?_
                 refine K.last d17_65 (w':=66) rfl A_32 (i := 1) rfl (show 1 < 5 by decide) P2 (fun h_33 W_34 A_35 => ?_)
                 have A_36 : Ary Z h_33 a .long [(.long y3_0), (.long x4), (.long y3_1), (.long y3_2), (.long y3_3)] := A_35
                 refine K.goto d17_66 (by decide) (w':=3) (by decide) ?_
                 exact H3_4 (0 : Int32) x4 (y3_0) (x4) (y3_1) (y3_2) (y3_3) h_33 (((((Keep.refl h_7 [a]).wr W_14 (Or.inl (by simp))).wr W_22 (Or.inl (by simp))).wr W_30 (Or.inl (by simp))).wr W_34 (Or.inl (by simp))) A_36 (by exact ⟨by omega, fun v => (Iff.of_eq (show (v = y3_0.toInt ∨ v = x4.toInt ∨ v = y3_1.toInt ∨ v = y3_2.toInt ∨ v = y3_3.toInt) = ((v = y3_0.toInt ∨ v = y3_1.toInt ∨ v = y3_2.toInt ∨ v = y3_3.toInt) ∨ v = x4.toInt) from by ac_rfl)).trans ((or_congr_left (hm_3 v)).trans (Iff.of_eq (show ((v = x0.toInt ∨ v = x1.toInt ∨ v = x2.toInt ∨ v = x3.toInt) ∨ v = x4.toInt) = (v = x0.toInt ∨ v = x1.toInt ∨ v = x2.toInt ∨ v = x3.toInt ∨ v = x4.toInt) from by ac_rfl)))⟩)
                ·refine K.aloadN d17_48 (w':=49) rfl rfl rfl ?_
                 refine K.iloadN d17_49 (w':=50) rfl rfl ?_
                 refine K.iconst d17_50 (w':=51) rfl (z := 1) rfl ?_
                 refine K.iadd d17_51 (w':=52) rfl (z := (1 : Int32)) (by decide) ?_
                 refine K.aloadN d17_52 (w':=53) rfl rfl rfl ?_
                 refine K.iloadN d17_53 (w':=54) rfl rfl ?_
                 refine K.lald d17_54 (w':=55) rfl A_32 (i := 0) rfl rfl ?_
                 refine K.last d17_55 (w':=56) rfl A_32 (i := 1) rfl (show 1 < 5 by decide) P2 (fun h_37 W_38 A_39 => ?_)
                 have A_40 : Ary Z h_37 a .long [(.long y3_0), (.long y3_0), (.long y3_1), (.long y3_2), (.long y3_3)] := A_39
                 refine K.goto d17_56 (by decide) (w':=31) (by decide) ?_
                 refine K.iinc d17_31 (w':=34) rfl rfl (z := (-1 : Int32)) rfl (L' := #[vr a, vi 0, vi 5, vi (-1), vi 4, vj x4, se]) rfl ?_
                 refine K.iloadN d17_34 (w':=35) rfl rfl ?_
                 refine K.iloadN d17_35 (w':=36) rfl rfl ?_
                 refine K.icmp_lt d17_36 (pc1 := 39) rfl (by decide) (pc2 := 59) (by decide) (a := (-1)) (b := 0) rfl rfl (fun c36_4 => ?_) (fun c36_4 => ?_)
                 ·refine K.aloadN d17_59 (w':=60) rfl rfl rfl ?_
                  refine K.iloadN d17_60 (w':=61) rfl rfl ?_
                  refine K.iconst d17_61 (w':=62) rfl (z := 1) rfl ?_
                  refine K.iadd d17_62 (w':=63) rfl (z := (0 : Int32)) (by decide) ?_
                  refine K.lload d17_63 (w':=65) rfl rfl ?_
                  refine K.last d17_65 (w':=66) rfl A_40 (i := 0) rfl (show 0 < 5 by decide) P2 (fun h_41 W_42 A_43 => ?_)
                  have A_44 : Ary Z h_41 a .long [(.long x4), (.long y3_0), (.long y3_1), (.long y3_2), (.long y3_3)] := A_43
                  refine K.goto d17_66 (by decide) (w':=3) (by decide) ?_
                  exact H3_4 (-1 : Int32) x4 (x4) (y3_0) (y3_1) (y3_2) (y3_3) h_41 ((((((Keep.refl h_7 [a]).wr W_14 (Or.inl (by simp))).wr W_22 (Or.inl (by simp))).wr W_30 (Or.inl (by simp))).wr W_38 (Or.inl (by simp))).wr W_42 (Or.inl (by simp))) A_44 (by exact ⟨by omega, fun v => (Iff.of_eq (show (v = x4.toInt ∨ v = y3_0.toInt ∨ v = y3_1.toInt ∨ v = y3_2.toInt ∨ v = y3_3.toInt) = ((v = y3_0.toInt ∨ v = y3_1.toInt ∨ v = y3_2.toInt ∨ v = y3_3.toInt) ∨ v = x4.toInt) from by ac_rfl)).trans ((or_congr_left (hm_3 v)).trans (Iff.of_eq (show ((v = x0.toInt ∨ v = x1.toInt ∨ v = x2.toInt ∨ v = x3.toInt) ∨ v = x4.toInt) = (v = x0.toInt ∨ v = x1.toInt ∨ v = x2.toInt ∨ v = x3.toInt ∨ v = x4.toInt) from by ac_rfl)))⟩)
                 ·exfalso; omega
      refine K.aloadN d17_12 (w':=13) rfl rfl rfl ?_
      refine K.iload d17_13 (w':=15) rfl rfl ?_
      refine K.dup d17_15 (w':=16) rfl rfl ?_
      refine K.istoreN d17_16 (w':=17) rfl (L' := #[vr a, vi 0, vi 5, vi 3, vi 3, vj q2, se]) rfl ?_
      refine K.lald d17_17 (w':=18) rfl A_6 (i := 3) rfl rfl ?_
      refine K.lstore d17_18 (w':=20) rfl (L' := #[vr a, vi 0, vi 5, vi 3, vi 3, vj x3, se]) rfl ?_
      refine K.lload d17_20 (w':=22) rfl rfl ?_
      refine K.aloadN d17_22 (w':=23) rfl rfl rfl ?_
      refine K.iloadN d17_23 (w':=24) rfl rfl ?_
      refine K.iconst d17_24 (w':=25) rfl (z := 1) rfl ?_
      refine K.isub d17_25 (w':=26) rfl (z := (2 : Int32)) (by decide) ?_
      refine K.lald d17_26 (w':=27) rfl A_6 (i := 2) rfl rfl ?_
      refine K.lcmp_ge d17_27 d17_28 (pc1 := 31) rfl (by decide) (pc2 := 66) (by decide) (a := x3.toInt) (b := y2_2.toInt) rfl rfl (fun c27 => ?_) (fun c27 => ?_)
      ·refine K.goto d17_66 (by decide) (w':=3) (by decide) ?_
       exact H3_3 (3 : Int32) x3 (y2_0) (y2_1) (y2_2) (x3) h_4 (Keep.refl h_4 [a]) A_6 (by exact ⟨by omega, fun v => (Iff.of_eq (show (v = y2_0.toInt ∨ v = y2_1.toInt ∨ v = y2_2.toInt ∨ v = x3.toInt) = ((v = y2_0.toInt ∨ v = y2_1.toInt ∨ v = y2_2.toInt) ∨ v = x3.toInt) from by ac_rfl)).trans ((or_congr_left (hm_2 v)).trans (Iff.of_eq (show ((v = x0.toInt ∨ v = x1.toInt ∨ v = x2.toInt) ∨ v = x3.toInt) = (v = x0.toInt ∨ v = x1.toInt ∨ v = x2.toInt ∨ v = x3.toInt) from by ac_rfl)))⟩)
      ·refine K.iinc d17_31 (w':=34) rfl rfl (z := (2 : Int32)) rfl (L' := #[vr a, vi 0, vi 5, vi 2, vi 3, vj x3, se]) rfl ?_
       refine K.iloadN d17_34 (w':=35) rfl rfl ?_
       refine K.iloadN d17_35 (w':=36) rfl rfl ?_
       refine K.icmp_lt d17_36 (pc1 := 39) rfl (by decide) (pc2 := 59) (by decide) (a := 2) (b := 0) rfl rfl (fun c36 => ?_) (fun c36 => ?_)
       ·exfalso; omega
       ·refine K.lload d17_39 (w':=41) rfl rfl ?_
        refine K.aloadN d17_41 (w':=42) rfl rfl rfl ?_
        refine K.iloadN d17_42 (w':=43) rfl rfl ?_
        refine K.lald d17_43 (w':=44) rfl A_6 (i := 2) rfl rfl ?_
        refine K.lcmp_ge d17_44 d17_45 (pc1 := 48) rfl (by decide) (pc2 := 59) (by decide) (a := x3.toInt) (b := y2_2.toInt) rfl rfl (fun c44 => ?_) (fun c44 => ?_)
        ·exfalso; omega
        ·refine K.aloadN d17_48 (w':=49) rfl rfl rfl ?_
         refine K.iloadN d17_49 (w':=50) rfl rfl ?_
         refine K.iconst d17_50 (w':=51) rfl (z := 1) rfl ?_
         refine K.iadd d17_51 (w':=52) rfl (z := (3 : Int32)) (by decide) ?_
         refine K.aloadN d17_52 (w':=53) rfl rfl rfl ?_
         refine K.iloadN d17_53 (w':=54) rfl rfl ?_
         refine K.lald d17_54 (w':=55) rfl A_6 (i := 2) rfl rfl ?_
         refine K.last d17_55 (w':=56) rfl A_6 (i := 3) rfl (show 3 < 5 by decide) P2 (fun h_45 W_46 A_47 => ?_)
         have A_48 : Ary Z h_45 a .long [(.long y2_0), (.long y2_1), (.long y2_2), (.long y2_2), (.long x4)] := A_47
         refine K.goto d17_56 (by decide) (w':=31) (by decide) ?_
         refine K.iinc d17_31 (w':=34) rfl rfl (z := (1 : Int32)) rfl (L' := #[vr a, vi 0, vi 5, vi 1, vi 3, vj x3, se]) rfl ?_
         refine K.iloadN d17_34 (w':=35) rfl rfl ?_
         refine K.iloadN d17_35 (w':=36) rfl rfl ?_
         refine K.icmp_lt d17_36 (pc1 := 39) rfl (by decide) (pc2 := 59) (by decide) (a := 1) (b := 0) rfl rfl (fun c36_1 => ?_) (fun c36_1 => ?_)
         ·exfalso; omega
         ·refine K.lload d17_39 (w':=41) rfl rfl ?_
          refine K.aloadN d17_41 (w':=42) rfl rfl rfl ?_
          refine K.iloadN d17_42 (w':=43) rfl rfl ?_
          refine K.lald d17_43 (w':=44) rfl A_48 (i := 1) rfl rfl ?_
          refine K.lcmp_ge d17_44 d17_45 (pc1 := 48) rfl (by decide) (pc2 := 59) (by decide) (a := x3.toInt) (b := y2_1.toInt) rfl rfl (fun c44_1 => ?_) (fun c44_1 => ?_)
          ·refine K.aloadN d17_59 (w':=60) rfl rfl rfl ?_
           refine K.iloadN d17_60 (w':=61) rfl rfl ?_
           refine K.iconst d17_61 (w':=62) rfl (z := 1) rfl ?_
           refine K.iadd d17_62 (w':=63) rfl (z := (2 : Int32)) (by decide) ?_
           refine K.lload d17_63 (w':=65) rfl rfl ?_
           refine K.last d17_65 (w':=66) rfl A_48 (i := 2) rfl (show 2 < 5 by decide) P2 (fun h_49 W_50 A_51 => ?_)
           have A_52 : Ary Z h_49 a .long [(.long y2_0), (.long y2_1), (.long x3), (.long y2_2), (.long x4)] := A_51
           refine K.goto d17_66 (by decide) (w':=3) (by decide) ?_
           exact H3_3 (1 : Int32) x3 (y2_0) (y2_1) (x3) (y2_2) h_49 (((Keep.refl h_4 [a]).wr W_46 (Or.inl (by simp))).wr W_50 (Or.inl (by simp))) A_52 (by exact ⟨by omega, fun v => (Iff.of_eq (show (v = y2_0.toInt ∨ v = y2_1.toInt ∨ v = x3.toInt ∨ v = y2_2.toInt) = ((v = y2_0.toInt ∨ v = y2_1.toInt ∨ v = y2_2.toInt) ∨ v = x3.toInt) from by ac_rfl)).trans ((or_congr_left (hm_2 v)).trans (Iff.of_eq (show ((v = x0.toInt ∨ v = x1.toInt ∨ v = x2.toInt) ∨ v = x3.toInt) = (v = x0.toInt ∨ v = x1.toInt ∨ v = x2.toInt ∨ v = x3.toInt) from by ac_rfl)))⟩)
          ·refine K.aloadN d17_48 (w':=49) rfl rfl rfl ?_
           refine K.iloadN d17_49 (w':=50) rfl rfl ?_
           refine K.iconst d17_50 (w':=51) rfl (z := 1) rfl ?_
           refine K.iadd d17_51 (w':=52) rfl (z := (2 : Int32)) (by decide) ?_
           refine K.aloadN d17_52 (w':=53) rfl rfl rfl ?_
           refine K.iloadN d17_53 (w':=54) rfl rfl ?_
           refine K.lald d17_54 (w':=55) rfl A_48 (i := 1) rfl rfl ?_
           refine K.last d17_55 (w':=56) rfl A_48 (i := 2) rfl (show 2 < 5 by decide) P2 (fun h_53 W_54 A_55 => ?_)
           have A_56 : Ary Z h_53 a .long [(.long y2_0), (.long y2_1), (.long y2_1), (.long y2_2), (.long x4)] := A_55
           refine K.goto d17_56 (by decide) (w':=31) (by decide) ?_
           refine K.iinc d17_31 (w':=34) rfl rfl (z := (0 : Int32)) rfl (L' := #[vr a, vi 0, vi 5, vi 0, vi 3, vj x3, se]) rfl ?_
           refine K.iloadN d17_34 (w':=35) rfl rfl ?_
           refine K.iloadN d17_35 (w':=36) rfl rfl ?_
           refine K.icmp_lt d17_36 (pc1 := 39) rfl (by decide) (pc2 := 59) (by decide) (a := 0) (b := 0) rfl rfl (fun c36_2 => ?_) (fun c36_2 => ?_)
           ·exfalso; omega
           ·refine K.lload d17_39 (w':=41) rfl rfl ?_
            refine K.aloadN d17_41 (w':=42) rfl rfl rfl ?_
            refine K.iloadN d17_42 (w':=43) rfl rfl ?_
            refine K.lald d17_43 (w':=44) rfl A_56 (i := 0) rfl rfl ?_
            refine K.lcmp_ge d17_44 d17_45 (pc1 := 48) rfl (by decide) (pc2 := 59) (by decide) (a := x3.toInt) (b := y2_0.toInt) rfl rfl (fun c44_2 => ?_) (fun c44_2 => ?_)
            ·refine K.aloadN d17_59 (w':=60) rfl rfl rfl ?_
             refine K.iloadN d17_60 (w':=61) rfl rfl ?_
             refine K.iconst d17_61 (w':=62) rfl (z := 1) rfl ?_
             refine K.iadd d17_62 (w':=63) rfl (z := (1 : Int32)) (by decide) ?_
             refine K.lload d17_63 (w':=65) rfl rfl ?_
             refine K.last d17_65 (w':=66) rfl A_56 (i := 1) rfl (show 1 < 5 by decide) P2 (fun h_57 W_58 A_59 => ?_)
             have A_60 : Ary Z h_57 a .long [(.long y2_0), (.long x3), (.long y2_1), (.long y2_2), (.long x4)] := A_59
             refine K.goto d17_66 (by decide) (w':=3) (by decide) ?_
             exact H3_3 (0 : Int32) x3 (y2_0) (x3) (y2_1) (y2_2) h_57 ((((Keep.refl h_4 [a]).wr W_46 (Or.inl (by simp))).wr W_54 (Or.inl (by simp))).wr W_58 (Or.inl (by simp))) A_60 (by exact ⟨by omega, fun v => (Iff.of_eq (show (v = y2_0.toInt ∨ v = x3.toInt ∨ v = y2_1.toInt ∨ v = y2_2.toInt) = ((v = y2_0.toInt ∨ v = y2_1.toInt ∨ v = y2_2.toInt) ∨ v = x3.toInt) from by ac_rfl)).trans ((or_congr_left (hm_2 v)).trans (Iff.of_eq (show ((v = x0.toInt ∨ v = x1.toInt ∨ v = x2.toInt) ∨ v = x3.toInt) = (v = x0.toInt ∨ v = x1.toInt ∨ v = x2.toInt ∨ v = x3.toInt) from by ac_rfl)))⟩)
            ·refine K.aloadN d17_48 (w':=49) rfl rfl rfl ?_
             refine K.iloadN d17_49 (w':=50) rfl rfl ?_
             refine K.iconst d17_50 (w':=51) rfl (z := 1) rfl ?_
             refine K.iadd d17_51 (w':=52) rfl (z := (1 : Int32)) (by decide) ?_
             refine K.aloadN d17_52 (w':=53) rfl rfl rfl ?_
             refine K.iloadN d17_53 (w':=54) rfl rfl ?_
             refine K.lald d17_54 (w':=55) rfl A_56 (i := 0) rfl rfl ?_
             refine K.last d17_55 (w':=56) rfl A_56 (i := 1) rfl (show 1 < 5 by decide) P2 (fun h_61 W_62 A_63 => ?_)
             have A_64 : Ary Z h_61 a .long [(.long y2_0), (.long y2_0), (.long y2_1), (.long y2_2), (.long x4)] := A_63
             refine K.goto d17_56 (by decide) (w':=31) (by decide) ?_
             refine K.iinc d17_31 (w':=34) rfl rfl (z := (-1 : Int32)) rfl (L' := #[vr a, vi 0, vi 5, vi (-1), vi 3, vj x3, se]) rfl ?_
             refine K.iloadN d17_34 (w':=35) rfl rfl ?_
             refine K.iloadN d17_35 (w':=36) rfl rfl ?_
             refine K.icmp_lt d17_36 (pc1 := 39) rfl (by decide) (pc2 := 59) (by decide) (a := (-1)) (b := 0) rfl rfl (fun c36_3 => ?_) (fun c36_3 => ?_)
             ·refine K.aloadN d17_59 (w':=60) rfl rfl rfl ?_
              refine K.iloadN d17_60 (w':=61) rfl rfl ?_
              refine K.iconst d17_61 (w':=62) rfl (z := 1) rfl ?_
              refine K.iadd d17_62 (w':=63) rfl (z := (0 : Int32)) (by decide) ?_
              refine K.lload d17_63 (w':=65) rfl rfl ?_
              refine K.last d17_65 (w':=66) rfl A_64 (i := 0) rfl (show 0 < 5 by decide) P2 (fun h_65 W_66 A_67 => ?_)
              have A_68 : Ary Z h_65 a .long [(.long x3), (.long y2_0), (.long y2_1), (.long y2_2), (.long x4)] := A_67
              refine K.goto d17_66 (by decide) (w':=3) (by decide) ?_
              exact H3_3 (-1 : Int32) x3 (x3) (y2_0) (y2_1) (y2_2) h_65 (((((Keep.refl h_4 [a]).wr W_46 (Or.inl (by simp))).wr W_54 (Or.inl (by simp))).wr W_62 (Or.inl (by simp))).wr W_66 (Or.inl (by simp))) A_68 (by exact ⟨by omega, fun v => (Iff.of_eq (show (v = x3.toInt ∨ v = y2_0.toInt ∨ v = y2_1.toInt ∨ v = y2_2.toInt) = ((v = y2_0.toInt ∨ v = y2_1.toInt ∨ v = y2_2.toInt) ∨ v = x3.toInt) from by ac_rfl)).trans ((or_congr_left (hm_2 v)).trans (Iff.of_eq (show ((v = x0.toInt ∨ v = x1.toInt ∨ v = x2.toInt) ∨ v = x3.toInt) = (v = x0.toInt ∨ v = x1.toInt ∨ v = x2.toInt ∨ v = x3.toInt) from by ac_rfl)))⟩)
             ·exfalso; omega
    refine K.aloadN d17_12 (w':=13) rfl rfl rfl ?_
    refine K.iload d17_13 (w':=15) rfl rfl ?_
    refine K.dup d17_15 (w':=16) rfl rfl ?_
    refine K.istoreN d17_16 (w':=17) rfl (L' := #[vr a, vi 0, vi 5, vi 2, vi 2, vj q1, se]) rfl ?_
    refine K.lald d17_17 (w':=18) rfl A_3 (i := 2) rfl rfl ?_
    refine K.lstore d17_18 (w':=20) rfl (L' := #[vr a, vi 0, vi 5, vi 2, vi 2, vj x2, se]) rfl ?_
    refine K.lload d17_20 (w':=22) rfl rfl ?_
    refine K.aloadN d17_22 (w':=23) rfl rfl rfl ?_
    refine K.iloadN d17_23 (w':=24) rfl rfl ?_
    refine K.iconst d17_24 (w':=25) rfl (z := 1) rfl ?_
    refine K.isub d17_25 (w':=26) rfl (z := (1 : Int32)) (by decide) ?_
    refine K.lald d17_26 (w':=27) rfl A_3 (i := 1) rfl rfl ?_
    refine K.lcmp_ge d17_27 d17_28 (pc1 := 31) rfl (by decide) (pc2 := 66) (by decide) (a := x2.toInt) (b := y1_1.toInt) rfl rfl (fun c27 => ?_) (fun c27 => ?_)
    ·refine K.goto d17_66 (by decide) (w':=3) (by decide) ?_
     exact H3_2 (2 : Int32) x2 (y1_0) (y1_1) (x2) h_1 (Keep.refl h_1 [a]) A_3 (by exact ⟨by omega, fun v => (Iff.of_eq (show (v = y1_0.toInt ∨ v = y1_1.toInt ∨ v = x2.toInt) = ((v = y1_0.toInt ∨ v = y1_1.toInt) ∨ v = x2.toInt) from by ac_rfl)).trans ((or_congr_left (hm_1 v)).trans (Iff.of_eq (show ((v = x0.toInt ∨ v = x1.toInt) ∨ v = x2.toInt) = (v = x0.toInt ∨ v = x1.toInt ∨ v = x2.toInt) from by ac_rfl)))⟩)
    ·refine K.iinc d17_31 (w':=34) rfl rfl (z := (1 : Int32)) rfl (L' := #[vr a, vi 0, vi 5, vi 1, vi 2, vj x2, se]) rfl ?_
     refine K.iloadN d17_34 (w':=35) rfl rfl ?_
     refine K.iloadN d17_35 (w':=36) rfl rfl ?_
     refine K.icmp_lt d17_36 (pc1 := 39) rfl (by decide) (pc2 := 59) (by decide) (a := 1) (b := 0) rfl rfl (fun c36 => ?_) (fun c36 => ?_)
     ·exfalso; omega
     ·refine K.lload d17_39 (w':=41) rfl rfl ?_
      refine K.aloadN d17_41 (w':=42) rfl rfl rfl ?_
      refine K.iloadN d17_42 (w':=43) rfl rfl ?_
      refine K.lald d17_43 (w':=44) rfl A_3 (i := 1) rfl rfl ?_
      refine K.lcmp_ge d17_44 d17_45 (pc1 := 48) rfl (by decide) (pc2 := 59) (by decide) (a := x2.toInt) (b := y1_1.toInt) rfl rfl (fun c44 => ?_) (fun c44 => ?_)
      ·exfalso; omega
      ·refine K.aloadN d17_48 (w':=49) rfl rfl rfl ?_
       refine K.iloadN d17_49 (w':=50) rfl rfl ?_
       refine K.iconst d17_50 (w':=51) rfl (z := 1) rfl ?_
       refine K.iadd d17_51 (w':=52) rfl (z := (2 : Int32)) (by decide) ?_
       refine K.aloadN d17_52 (w':=53) rfl rfl rfl ?_
       refine K.iloadN d17_53 (w':=54) rfl rfl ?_
       refine K.lald d17_54 (w':=55) rfl A_3 (i := 1) rfl rfl ?_
       refine K.last d17_55 (w':=56) rfl A_3 (i := 2) rfl (show 2 < 5 by decide) P2 (fun h_69 W_70 A_71 => ?_)
       have A_72 : Ary Z h_69 a .long [(.long y1_0), (.long y1_1), (.long y1_1), (.long x3), (.long x4)] := A_71
       refine K.goto d17_56 (by decide) (w':=31) (by decide) ?_
       refine K.iinc d17_31 (w':=34) rfl rfl (z := (0 : Int32)) rfl (L' := #[vr a, vi 0, vi 5, vi 0, vi 2, vj x2, se]) rfl ?_
       refine K.iloadN d17_34 (w':=35) rfl rfl ?_
       refine K.iloadN d17_35 (w':=36) rfl rfl ?_
       refine K.icmp_lt d17_36 (pc1 := 39) rfl (by decide) (pc2 := 59) (by decide) (a := 0) (b := 0) rfl rfl (fun c36_1 => ?_) (fun c36_1 => ?_)
       ·exfalso; omega
       ·refine K.lload d17_39 (w':=41) rfl rfl ?_
        refine K.aloadN d17_41 (w':=42) rfl rfl rfl ?_
        refine K.iloadN d17_42 (w':=43) rfl rfl ?_
        refine K.lald d17_43 (w':=44) rfl A_72 (i := 0) rfl rfl ?_
        refine K.lcmp_ge d17_44 d17_45 (pc1 := 48) rfl (by decide) (pc2 := 59) (by decide) (a := x2.toInt) (b := y1_0.toInt) rfl rfl (fun c44_1 => ?_) (fun c44_1 => ?_)
        ·refine K.aloadN d17_59 (w':=60) rfl rfl rfl ?_
         refine K.iloadN d17_60 (w':=61) rfl rfl ?_
         refine K.iconst d17_61 (w':=62) rfl (z := 1) rfl ?_
         refine K.iadd d17_62 (w':=63) rfl (z := (1 : Int32)) (by decide) ?_
         refine K.lload d17_63 (w':=65) rfl rfl ?_
         refine K.last d17_65 (w':=66) rfl A_72 (i := 1) rfl (show 1 < 5 by decide) P2 (fun h_73 W_74 A_75 => ?_)
         have A_76 : Ary Z h_73 a .long [(.long y1_0), (.long x2), (.long y1_1), (.long x3), (.long x4)] := A_75
         refine K.goto d17_66 (by decide) (w':=3) (by decide) ?_
         exact H3_2 (0 : Int32) x2 (y1_0) (x2) (y1_1) h_73 (((Keep.refl h_1 [a]).wr W_70 (Or.inl (by simp))).wr W_74 (Or.inl (by simp))) A_76 (by exact ⟨by omega, fun v => (Iff.of_eq (show (v = y1_0.toInt ∨ v = x2.toInt ∨ v = y1_1.toInt) = ((v = y1_0.toInt ∨ v = y1_1.toInt) ∨ v = x2.toInt) from by ac_rfl)).trans ((or_congr_left (hm_1 v)).trans (Iff.of_eq (show ((v = x0.toInt ∨ v = x1.toInt) ∨ v = x2.toInt) = (v = x0.toInt ∨ v = x1.toInt ∨ v = x2.toInt) from by ac_rfl)))⟩)
        ·refine K.aloadN d17_48 (w':=49) rfl rfl rfl ?_
         refine K.iloadN d17_49 (w':=50) rfl rfl ?_
         refine K.iconst d17_50 (w':=51) rfl (z := 1) rfl ?_
         refine K.iadd d17_51 (w':=52) rfl (z := (1 : Int32)) (by decide) ?_
         refine K.aloadN d17_52 (w':=53) rfl rfl rfl ?_
         refine K.iloadN d17_53 (w':=54) rfl rfl ?_
         refine K.lald d17_54 (w':=55) rfl A_72 (i := 0) rfl rfl ?_
         refine K.last d17_55 (w':=56) rfl A_72 (i := 1) rfl (show 1 < 5 by decide) P2 (fun h_77 W_78 A_79 => ?_)
         have A_80 : Ary Z h_77 a .long [(.long y1_0), (.long y1_0), (.long y1_1), (.long x3), (.long x4)] := A_79
         refine K.goto d17_56 (by decide) (w':=31) (by decide) ?_
         refine K.iinc d17_31 (w':=34) rfl rfl (z := (-1 : Int32)) rfl (L' := #[vr a, vi 0, vi 5, vi (-1), vi 2, vj x2, se]) rfl ?_
         refine K.iloadN d17_34 (w':=35) rfl rfl ?_
         refine K.iloadN d17_35 (w':=36) rfl rfl ?_
         refine K.icmp_lt d17_36 (pc1 := 39) rfl (by decide) (pc2 := 59) (by decide) (a := (-1)) (b := 0) rfl rfl (fun c36_2 => ?_) (fun c36_2 => ?_)
         ·refine K.aloadN d17_59 (w':=60) rfl rfl rfl ?_
          refine K.iloadN d17_60 (w':=61) rfl rfl ?_
          refine K.iconst d17_61 (w':=62) rfl (z := 1) rfl ?_
          refine K.iadd d17_62 (w':=63) rfl (z := (0 : Int32)) (by decide) ?_
          refine K.lload d17_63 (w':=65) rfl rfl ?_
          refine K.last d17_65 (w':=66) rfl A_80 (i := 0) rfl (show 0 < 5 by decide) P2 (fun h_81 W_82 A_83 => ?_)
          have A_84 : Ary Z h_81 a .long [(.long x2), (.long y1_0), (.long y1_1), (.long x3), (.long x4)] := A_83
          refine K.goto d17_66 (by decide) (w':=3) (by decide) ?_
          exact H3_2 (-1 : Int32) x2 (x2) (y1_0) (y1_1) h_81 ((((Keep.refl h_1 [a]).wr W_70 (Or.inl (by simp))).wr W_78 (Or.inl (by simp))).wr W_82 (Or.inl (by simp))) A_84 (by exact ⟨by omega, fun v => (Iff.of_eq (show (v = x2.toInt ∨ v = y1_0.toInt ∨ v = y1_1.toInt) = ((v = y1_0.toInt ∨ v = y1_1.toInt) ∨ v = x2.toInt) from by ac_rfl)).trans ((or_congr_left (hm_1 v)).trans (Iff.of_eq (show ((v = x0.toInt ∨ v = x1.toInt) ∨ v = x2.toInt) = (v = x0.toInt ∨ v = x1.toInt ∨ v = x2.toInt) from by ac_rfl)))⟩)
         ·exfalso; omega
  refine K.aloadN d17_12 (w':=13) rfl rfl rfl ?_
  refine K.iload d17_13 (w':=15) rfl rfl ?_
  refine K.dup d17_15 (w':=16) rfl rfl ?_
  refine K.istoreN d17_16 (w':=17) rfl (L' := #[vr a, vi 0, vi 5, vi 1, vi 1, un, un]) rfl ?_
  refine K.lald d17_17 (w':=18) rfl P1 (i := 1) rfl rfl ?_
  refine K.lstore d17_18 (w':=20) rfl (L' := #[vr a, vi 0, vi 5, vi 1, vi 1, vj x1, se]) rfl ?_
  refine K.lload d17_20 (w':=22) rfl rfl ?_
  refine K.aloadN d17_22 (w':=23) rfl rfl rfl ?_
  refine K.iloadN d17_23 (w':=24) rfl rfl ?_
  refine K.iconst d17_24 (w':=25) rfl (z := 1) rfl ?_
  refine K.isub d17_25 (w':=26) rfl (z := (0 : Int32)) (by decide) ?_
  refine K.lald d17_26 (w':=27) rfl P1 (i := 0) rfl rfl ?_
  refine K.lcmp_ge d17_27 d17_28 (pc1 := 31) rfl (by decide) (pc2 := 66) (by decide) (a := x1.toInt) (b := x0.toInt) rfl rfl (fun c27 => ?_) (fun c27 => ?_)
  ·refine K.goto d17_66 (by decide) (w':=3) (by decide) ?_
   exact H3_1 (1 : Int32) x1 (x0) (x1) h (Keep.refl h [a]) P1 (by exact ⟨by omega, fun v => (Iff.of_eq (show (v = x0.toInt ∨ v = x1.toInt) = ((v = x0.toInt) ∨ v = x1.toInt) from by ac_rfl)).trans ((or_congr_left (hm_0 v)).trans (Iff.of_eq (show ((v = x0.toInt) ∨ v = x1.toInt) = (v = x0.toInt ∨ v = x1.toInt) from by ac_rfl)))⟩)
  ·refine K.iinc d17_31 (w':=34) rfl rfl (z := (0 : Int32)) rfl (L' := #[vr a, vi 0, vi 5, vi 0, vi 1, vj x1, se]) rfl ?_
   refine K.iloadN d17_34 (w':=35) rfl rfl ?_
   refine K.iloadN d17_35 (w':=36) rfl rfl ?_
   refine K.icmp_lt d17_36 (pc1 := 39) rfl (by decide) (pc2 := 59) (by decide) (a := 0) (b := 0) rfl rfl (fun c36 => ?_) (fun c36 => ?_)
   ·exfalso; omega
   ·refine K.lload d17_39 (w':=41) rfl rfl ?_
    refine K.aloadN d17_41 (w':=42) rfl rfl rfl ?_
    refine K.iloadN d17_42 (w':=43) rfl rfl ?_
    refine K.lald d17_43 (w':=44) rfl P1 (i := 0) rfl rfl ?_
    refine K.lcmp_ge d17_44 d17_45 (pc1 := 48) rfl (by decide) (pc2 := 59) (by decide) (a := x1.toInt) (b := x0.toInt) rfl rfl (fun c44 => ?_) (fun c44 => ?_)
    ·exfalso; omega
    ·refine K.aloadN d17_48 (w':=49) rfl rfl rfl ?_
     refine K.iloadN d17_49 (w':=50) rfl rfl ?_
     refine K.iconst d17_50 (w':=51) rfl (z := 1) rfl ?_
     refine K.iadd d17_51 (w':=52) rfl (z := (1 : Int32)) (by decide) ?_
     refine K.aloadN d17_52 (w':=53) rfl rfl rfl ?_
     refine K.iloadN d17_53 (w':=54) rfl rfl ?_
     refine K.lald d17_54 (w':=55) rfl P1 (i := 0) rfl rfl ?_
     refine K.last d17_55 (w':=56) rfl P1 (i := 1) rfl (show 1 < 5 by decide) P2 (fun h_85 W_86 A_87 => ?_)
     have A_88 : Ary Z h_85 a .long [(.long x0), (.long x0), (.long x2), (.long x3), (.long x4)] := A_87
     refine K.goto d17_56 (by decide) (w':=31) (by decide) ?_
     refine K.iinc d17_31 (w':=34) rfl rfl (z := (-1 : Int32)) rfl (L' := #[vr a, vi 0, vi 5, vi (-1), vi 1, vj x1, se]) rfl ?_
     refine K.iloadN d17_34 (w':=35) rfl rfl ?_
     refine K.iloadN d17_35 (w':=36) rfl rfl ?_
     refine K.icmp_lt d17_36 (pc1 := 39) rfl (by decide) (pc2 := 59) (by decide) (a := (-1)) (b := 0) rfl rfl (fun c36_1 => ?_) (fun c36_1 => ?_)
     ·refine K.aloadN d17_59 (w':=60) rfl rfl rfl ?_
      refine K.iloadN d17_60 (w':=61) rfl rfl ?_
      refine K.iconst d17_61 (w':=62) rfl (z := 1) rfl ?_
      refine K.iadd d17_62 (w':=63) rfl (z := (0 : Int32)) (by decide) ?_
      refine K.lload d17_63 (w':=65) rfl rfl ?_
      refine K.last d17_65 (w':=66) rfl A_88 (i := 0) rfl (show 0 < 5 by decide) P2 (fun h_89 W_90 A_91 => ?_)
      have A_92 : Ary Z h_89 a .long [(.long x1), (.long x0), (.long x2), (.long x3), (.long x4)] := A_91
      refine K.goto d17_66 (by decide) (w':=3) (by decide) ?_
      exact H3_1 (-1 : Int32) x1 (x1) (x0) h_89 (((Keep.refl h [a]).wr W_86 (Or.inl (by simp))).wr W_90 (Or.inl (by simp))) A_92 (by exact ⟨by omega, fun v => (Iff.of_eq (show (v = x1.toInt ∨ v = x0.toInt) = ((v = x0.toInt) ∨ v = x1.toInt) from by ac_rfl)).trans ((or_congr_left (hm_0 v)).trans (Iff.of_eq (show ((v = x0.toInt) ∨ v = x1.toInt) = (v = x0.toInt ∨ v = x1.toInt) from by ac_rfl)))⟩)
     ·exfalso; omega
theorem c_ds5 (l : Launch) (Z : State) (a0 : Array Value) (hw : HW a0 Z) (n0 : Nat) (h : Heap) (a : Addr) (x0 : Int64) (x1 : Int64) (x2 : Int64) (x3 : Int64) (x4 : Int64) (P1 : Ary Z h a .long [(.long x0), (.long x1), (.long x2), (.long x3), (.long x4)]) (P2 : n0 ≤ a) : MeetsW l Z n0 (⟨"java/util/DualPivotQuicksort", "sort", "(Ljava/util/DualPivotQuicksort$Sorter;[JIII)V"⟩ : MethodName) B16 25 none ({ frames := 1, cells := 0, slots := 0, locals := 18 } : Room) #[.null, (.ref a), (.int 0), (.int 0), (.int 5)] h (fun v h' => ∃ (y0 : Int64) (y1 : Int64) (y2 : Int64) (y3 : Int64) (y4 : Int64), v = none ∧ Keep h h' [a] ∧ Ary Z h' a .long [(.long y0), (.long y1), (.long y2), (.long y3), (.long y4)] ∧ ((y0.toInt ≤ y1.toInt ∧ y1.toInt ≤ y2.toInt ∧ y2.toInt ≤ y3.toInt ∧ y3.toInt ≤ y4.toInt) ∧ ∀ v : Int, (v = y0.toInt ∨ v = y1.toInt ∨ v = y2.toInt ∨ v = y3.toInt ∨ v = y4.toInt) ↔ (v = x0.toInt ∨ v = x1.toInt ∨ v = x2.toInt ∨ v = x3.toInt ∨ v = x4.toInt))) := by
 refine MeetsW.intro (plainFor_of_name pn_java_util_DualPivotQuicksort) (L0 := #[vn, vr a, vi 0, vi 0, vi 5, un, un, un, un, un, un, un, un, un, un, un, un, un, un, un, un, un, un, un, un]) (fun m => by first | (simp [entryFrame, mkF, argsToLocals, Value.category]; done) | rfl) ?_
 intro m G K0
 have K : Cx l ({ frames := 1, cells := 0, slots := 0, locals := 18 } : Room) Z n0 _ "java/util/DualPivotQuicksort" "sort" B16 25 none m G := K0
 have hw95 := tb hw (i:=95) rfl
 have hw100 := tb hw (i:=100) rfl
 have hw101 := tb hw (i:=101) rfl
 have hw102 := tb hw (i:=102) rfl
 refine K.iload d16_0 (w':=2) rfl rfl ?_
 refine K.iconst d16_2 (w':=3) rfl (z := 1) rfl ?_
 refine K.isub d16_3 (w':=4) rfl (z := (4 : Int32)) (by decide) ?_
 refine K.istore d16_4 (w':=6) rfl (L' := #[vn, vr a, vi 0, vi 0, vi 5, vi 4, un, un, un, un, un, un, un, un, un, un, un, un, un, un, un, un, un, un, un]) rfl ?_
 refine K.iload d16_6 (w':=8) rfl rfl ?_
 refine K.iloadN d16_8 (w':=9) rfl rfl ?_
 refine K.isub d16_9 (w':=10) rfl (z := (5 : Int32)) (by decide) ?_
 refine K.istore d16_10 (w':=12) rfl (L' := #[vn, vr a, vi 0, vi 0, vi 5, vi 4, vi 5, un, un, un, un, un, un, un, un, un, un, un, un, un, un, un, un, un, un]) rfl ?_
 refine K.iload d16_12 (w':=14) rfl rfl ?_
 refine K.bipush d16_14 (w':=16) rfl (z := 65) rfl ?_
 refine K.iloadN d16_16 (w':=17) rfl rfl ?_
 refine K.iadd d16_17 (w':=18) rfl (z := (65 : Int32)) (by decide) ?_
 refine K.icmp_ge d16_18 (pc1 := 21) rfl (by decide) (pc2 := 46) (by decide) (a := 5) (b := 65) rfl rfl (fun c18 => ?_) (fun c18 => ?_)
 ·exfalso; omega
 ·refine K.iloadN d16_21 (w':=22) rfl rfl ?_
  refine K.iconst d16_22 (w':=23) rfl (z := 1) rfl ?_
  refine K.iand d16_23 (w':=24) rfl (z := (0 : Int32)) (by decide) ?_
  refine K.if_le d16_24 (pc1 := 27) rfl (by decide) (pc2 := 46) (by decide) (a := 0) rfl (fun c24 => ?_) (fun c24 => ?_)
  ·refine K.iload d16_46 (w':=48) rfl rfl ?_
   refine K.bipush d16_48 (w':=50) rfl (z := 44) rfl ?_
   refine K.icmp_ge d16_50 (pc1 := 53) rfl (by decide) (pc2 := 61) (by decide) (a := 5) (b := 44) rfl rfl (fun c50 => ?_) (fun c50 => ?_)
   ·exfalso; omega
   ·refine K.aloadN d16_53 (w':=54) rfl rfl rfl ?_
    refine K.iloadN d16_54 (w':=55) rfl rfl ?_
    refine K.iload d16_55 (w':=57) rfl rfl ?_
    refine K.calls (argsL := [(.ref a), (.int 0), (.int 5)]) (rest := []) d16_57 (w':=60) rfl (c_is5 l Z a0 hw n0 h (a := a) (x0 := x0) (x1 := x1) (x2 := x2) (x3 := x3) (x4 := x4) P1 P2) hw100 hw101 hw95 hw102 (by decide) pd_4 rfl rfl (W := 0) (Nat.le_refl _) (by decide) (by decide) (by decide) (by decide) (fun v_3 h_1 q_2 => ?_)
    obtain ⟨y0_5, y1_6, y2_7, y3_8, y4_9, rfl, K_10, f_11, hst_w_4⟩ := q_2
    show G h_1 0 0 (mkF m 60 #[vn, vr a, vi 0, vi 0, vi 5, vi 4, vi 5, un, un, un, un, un, un, un, un, un, un, un, un, un, un, un, un, un, un] [])
    exact K.ret0 d16_60 (by decide) (by decide) ⟨y0_5, y1_6, y2_7, y3_8, y4_9, rfl, ((Keep.refl h [a]).trans K_10 (allS (Or.inl (by simp)) all0)), f_11, by assumption⟩
  ·exfalso; omega
theorem c_dq5 (l : Launch) (Z : State) (a0 : Array Value) (hw : HW a0 Z) (n0 : Nat) (h : Heap) (a : Addr) (x0 : Int64) (x1 : Int64) (x2 : Int64) (x3 : Int64) (x4 : Int64) (P1 : Ary Z h a .long [(.long x0), (.long x1), (.long x2), (.long x3), (.long x4)]) (P2 : n0 ≤ a) : MeetsW l Z n0 (⟨"java/util/DualPivotQuicksort", "sort", "([JIII)V"⟩ : MethodName) B15 7 none ({ frames := 2, cells := 0, slots := 0, locals := 54 } : Room) #[(.ref a), (.int 0), (.int 0), (.int 5)] h (fun v h' => ∃ (y0 : Int64) (y1 : Int64) (y2 : Int64) (y3 : Int64) (y4 : Int64), v = none ∧ Keep h h' [a] ∧ Ary Z h' a .long [(.long y0), (.long y1), (.long y2), (.long y3), (.long y4)] ∧ ((y0.toInt ≤ y1.toInt ∧ y1.toInt ≤ y2.toInt ∧ y2.toInt ≤ y3.toInt ∧ y3.toInt ≤ y4.toInt) ∧ ∀ v : Int, (v = y0.toInt ∨ v = y1.toInt ∨ v = y2.toInt ∨ v = y3.toInt ∨ v = y4.toInt) ↔ (v = x0.toInt ∨ v = x1.toInt ∨ v = x2.toInt ∨ v = x3.toInt ∨ v = x4.toInt))) := by
 refine MeetsW.intro (plainFor_of_name pn_java_util_DualPivotQuicksort) (L0 := #[vr a, vi 0, vi 0, vi 5, un, un, un]) (fun m => rfl) ?_
 intro m G K0
 have K : Cx l ({ frames := 2, cells := 0, slots := 0, locals := 54 } : Room) Z n0 _ "java/util/DualPivotQuicksort" "sort" B15 7 none m G := K0
 have hw95 := tb hw (i:=95) rfl
 have hw97 := tb hw (i:=97) rfl
 have hw98 := tb hw (i:=98) rfl
 have hw99 := tb hw (i:=99) rfl
 refine K.iloadN d15_0 (w':=1) rfl rfl ?_
 refine K.iloadN d15_1 (w':=2) rfl rfl ?_
 refine K.isub d15_2 (w':=3) rfl (z := (5 : Int32)) (by decide) ?_
 refine K.istore d15_3 (w':=5) rfl (L' := #[vr a, vi 0, vi 0, vi 5, vi 5, un, un]) rfl ?_
 refine K.iloadN d15_5 (w':=6) rfl rfl ?_
 refine K.iconst d15_6 (w':=7) rfl (z := 1) rfl ?_
 refine K.icmp_le d15_7 (pc1 := 10) rfl (by decide) (pc2 := 68) (by decide) (a := 0) (b := 1) rfl rfl (fun c7 => ?_) (fun c7 => ?_)
 ·refine K.anull d15_68 (w':=69) rfl ?_
  refine K.aloadN d15_69 (w':=70) rfl rfl rfl ?_
  refine K.iconst d15_70 (w':=71) rfl (z := 0) rfl ?_
  refine K.iloadN d15_71 (w':=72) rfl rfl ?_
  refine K.iloadN d15_72 (w':=73) rfl rfl ?_
  refine K.calls (argsL := [.null, (.ref a), (.int 0), (.int 0), (.int 5)]) (rest := []) d15_73 (w':=76) rfl (c_ds5 l Z a0 hw n0 h (a := a) (x0 := x0) (x1 := x1) (x2 := x2) (x3 := x3) (x4 := x4) P1 P2) hw97 hw98 hw95 hw99 (by decide) pd_5 rfl rfl (W := 0) (Nat.le_refl _) (by decide) (by decide) (by decide) (by decide) (fun v_3 h_1 q_2 => ?_)
  obtain ⟨y0_5, y1_6, y2_7, y3_8, y4_9, rfl, K_10, f_11, hst_w_4⟩ := q_2
  show G h_1 0 0 (mkF m 76 #[vr a, vi 0, vi 0, vi 5, vi 5, un, un] [])
  exact K.ret0 d15_76 (by decide) (by decide) ⟨y0_5, y1_6, y2_7, y3_8, y4_9, rfl, ((Keep.refl h [a]).trans K_10 (allS (Or.inl (by simp)) all0)), f_11, by assumption⟩
 ·exfalso; omega
theorem c_so5 (l : Launch) (Z : State) (a0 : Array Value) (hw : HW a0 Z) (n0 : Nat) (h : Heap) (a : Addr) (x0 : Int64) (x1 : Int64) (x2 : Int64) (x3 : Int64) (x4 : Int64) (P1 : Ary Z h a .long [(.long x0), (.long x1), (.long x2), (.long x3), (.long x4)]) (P2 : n0 ≤ a) : MeetsW l Z n0 (⟨"java/util/Arrays", "sort", "([JII)V"⟩ : MethodName) B13 3 none ({ frames := 3, cells := 0, slots := 0, locals := 72 } : Room) #[(.ref a), (.int 0), (.int 5)] h (fun v h' => ∃ (y0 : Int64) (y1 : Int64) (y2 : Int64) (y3 : Int64) (y4 : Int64), v = none ∧ Keep h h' [a] ∧ Ary Z h' a .long [(.long y0), (.long y1), (.long y2), (.long y3), (.long y4)] ∧ ((y0.toInt ≤ y1.toInt ∧ y1.toInt ≤ y2.toInt ∧ y2.toInt ≤ y3.toInt ∧ y3.toInt ≤ y4.toInt) ∧ ∀ v : Int, (v = y0.toInt ∨ v = y1.toInt ∨ v = y2.toInt ∨ v = y3.toInt ∨ v = y4.toInt) ↔ (v = x0.toInt ∨ v = x1.toInt ∨ v = x2.toInt ∨ v = x3.toInt ∨ v = x4.toInt))) := by
 refine MeetsW.intro (plainFor_of_name pn_java_util_Arrays) (L0 := #[vr a, vi 0, vi 5]) (fun m => rfl) ?_
 intro m G K0
 have K : Cx l ({ frames := 3, cells := 0, slots := 0, locals := 72 } : Room) Z n0 _ "java/util/Arrays" "sort" B13 3 none m G := K0
 have hw88 := tb hw (i:=88) rfl
 have hw90 := tb hw (i:=90) rfl
 have hw91 := tb hw (i:=91) rfl
 have hw92 := tb hw (i:=92) rfl
 have hw93 := tb hw (i:=93) rfl
 have hw94 := tb hw (i:=94) rfl
 have hw95 := tb hw (i:=95) rfl
 have hw96 := tb hw (i:=96) rfl
 refine K.aloadN d13_0 (w':=1) rfl rfl rfl ?_
 refine K.alen d13_1 (w':=2) rfl P1 (fun n e_n => ?_)
 have t_n : n.toInt = 5 := e_n
 have cs_n : n = 5 := by
  have q : n.toInt = 5 := by omega
  rcases q with q
  ·exact eqI q
 rcases cs_n with rfl
 ·refine K.iloadN d13_2 (w':=3) rfl rfl ?_
  refine K.iloadN d13_3 (w':=4) rfl rfl ?_
  refine K.calls (argsL := [(.int 5), (.int 0), (.int 5)]) (rest := []) d13_4 (w':=7) rfl (c_rc l Z a0 hw n0 h (n := (5 : Int32)) (f := (0 : Int32)) (t := (5 : Int32)) (by decide)) hw90 hw91 hw88 hw92 (by decide) pd_6 rfl rfl (W := 0) (Nat.le_refl _) (by decide) (by decide) (by decide) (by decide) (fun v_3 h_1 q_2 => ?_)
  obtain ⟨rfl, rfl⟩ := q_2
  show G h 0 0 (mkF m 7 #[vr a, vi 0, vi 5] [])
  refine K.aloadN d13_7 (w':=8) rfl rfl rfl ?_
  refine K.iconst d13_8 (w':=9) rfl (z := 0) rfl ?_
  refine K.iloadN d13_9 (w':=10) rfl rfl ?_
  refine K.iloadN d13_10 (w':=11) rfl rfl ?_
  refine K.calls (argsL := [(.ref a), (.int 0), (.int 0), (.int 5)]) (rest := []) d13_11 (w':=14) rfl (c_dq5 l Z a0 hw n0 h (a := a) (x0 := x0) (x1 := x1) (x2 := x2) (x3 := x3) (x4 := x4) P1 P2) hw93 hw94 hw95 hw96 (by decide) pd_7 rfl rfl (W := 0) (Nat.le_refl _) (by decide) (by decide) (by decide) (by decide) (fun v_7 h_5 q_6 => ?_)
  obtain ⟨y0_9, y1_10, y2_11, y3_12, y4_13, rfl, K_14, f_15, hst_w_8⟩ := q_6
  show G h_5 0 0 (mkF m 14 #[vr a, vi 0, vi 5] [])
  exact K.ret0 d13_14 (by decide) (by decide) ⟨y0_9, y1_10, y2_11, y3_12, y4_13, rfl, ((Keep.refl h [a]).trans K_14 (allS (Or.inl (by simp)) all0)), f_15, by assumption⟩
theorem c_ts5 (l : Launch) (Z : State) (a0 : Array Value) (hw : HW a0 Z) (n0 : Nat) (h : Heap) (a : Addr) (x0 : Int64) (x1 : Int64) (x2 : Int64) (x3 : Int64) (x4 : Int64) (P1 : Ary Z h a .long [(.long x0), (.long x1), (.long x2), (.long x3), (.long x4)]) (P2 : n0 ≤ a) : MeetsW l Z n0 (⟨sR, "toSet", "([JII)I"⟩ : MethodName) B12 5 (some .int) ({ frames := 4, cells := 0, slots := 0, locals := 86 } : Room) #[(.ref a), (.int 0), (.int 5)] h (fun v h' => ∃ (z : Int32) (ds : List Int64) (js : List Int64), v = some (.int z) ∧ (z.toInt = (ds.length : Nat) ∧ ds.length + js.length = 5 ∧ SD ds (fun v => v = x0.toInt ∨ v = x1.toInt ∨ v = x2.toInt ∨ v = x3.toInt ∨ v = x4.toInt)) ∧ Keep h h' [a] ∧ Ary Z h' a .long ((ds ++ js).map Value.long)) := by
 refine MeetsW.intro (plainFor_of_name pn_com_example_odograph_odograph_model_Requests) (L0 := #[vr a, vi 0, vi 5, un, un]) (fun m => rfl) ?_
 intro m G K0
 have K : Cx l ({ frames := 4, cells := 0, slots := 0, locals := 86 } : Room) Z n0 _ sR "toSet" B12 5 (some .int) m G := K0
 have hw86 := tb hw (i:=86) rfl
 have hw87 := tb hw (i:=87) rfl
 have hw88 := tb hw (i:=88) rfl
 have hw89 := tb hw (i:=89) rfl
 refine K.iloadN d12_0 (w':=1) rfl rfl ?_
 refine K.iloadN d12_1 (w':=2) rfl rfl ?_
 refine K.isub d12_2 (w':=3) rfl (z := (5 : Int32)) (by decide) ?_
 refine K.iconst d12_3 (w':=4) rfl (z := 1) rfl ?_
 refine K.icmp_le d12_4 (pc1 := 7) rfl (by decide) (pc2 := 13) (by decide) (a := 5) (b := 1) rfl rfl (fun c4 => ?_) (fun c4 => ?_)
 ·exfalso; omega
 ·refine K.aloadN d12_7 (w':=8) rfl rfl rfl ?_
  refine K.iloadN d12_8 (w':=9) rfl rfl ?_
  refine K.iloadN d12_9 (w':=10) rfl rfl ?_
  refine K.calls (argsL := [(.ref a), (.int 0), (.int 5)]) (rest := []) d12_10 (w':=13) rfl (c_so5 l Z a0 hw n0 h (a := a) (x0 := x0) (x1 := x1) (x2 := x2) (x3 := x3) (x4 := x4) P1 P2) hw86 hw87 hw88 hw89 (by decide) pd_4 rfl rfl (W := 0) (Nat.le_refl _) (by decide) (by decide) (by decide) (by decide) (fun v_3 h_1 q_2 => ?_)
  obtain ⟨y0_4, y1_5, y2_6, y3_7, y4_8, rfl, K_9, f_10, hst_S⟩ := q_2
  obtain ⟨hs_S, hm_S⟩ := hst_S
  show G h_1 0 0 (mkF m 13 #[vr a, vi 0, vi 5, un, un] [])
  refine K.iloadN d12_13 (w':=14) rfl rfl ?_
  refine K.istoreN d12_14 (w':=15) rfl (L' := #[vr a, vi 0, vi 5, vi 0, un]) rfl ?_
  refine K.iloadN d12_15 (w':=16) rfl rfl ?_
  refine K.istore d12_16 (w':=18) rfl (L' := #[vr a, vi 0, vi 5, vi 0, vi 0]) rfl ?_
  refine K.iload d12_18 (w':=20) rfl rfl ?_
  refine K.iloadN d12_20 (w':=21) rfl rfl ?_
  refine K.icmp_ge d12_21 (pc1 := 24) rfl (by decide) (pc2 := 58) (by decide) (a := 0) (b := 5) rfl rfl (fun c21 => ?_) (fun c21 => ?_)
  ·exfalso; omega
  ·refine K.iloadN d12_24 (w':=25) rfl rfl ?_
   refine K.iloadN d12_25 (w':=26) rfl rfl ?_
   refine K.icmp_eq d12_26 (pc1 := 29) rfl (by decide) (pc2 := 42) (by decide) (a := 0) (b := 0) rfl rfl (fun c26 => ?_) (fun c26 => ?_)
   ·refine K.aloadN d12_42 (w':=43) rfl rfl rfl ?_
    refine K.iloadN d12_43 (w':=44) rfl rfl ?_
    refine K.aloadN d12_44 (w':=45) rfl rfl rfl ?_
    refine K.iload d12_45 (w':=47) rfl rfl ?_
    refine K.lald d12_47 (w':=48) rfl f_10 (i := 0) rfl rfl ?_
    refine K.last d12_48 (w':=49) rfl f_10 (i := 0) rfl (show 0 < 5 by decide) P2 (fun h_11 W_12 A_13 => ?_)
    have A_14 : Ary Z h_11 a .long [(.long y0_4), (.long y1_5), (.long y2_6), (.long y3_7), (.long y4_8)] := A_13
    refine K.iinc d12_49 (w':=52) rfl rfl (z := (1 : Int32)) rfl (L' := #[vr a, vi 0, vi 5, vi 1, vi 0]) rfl ?_
    refine K.iinc d12_52 (w':=55) rfl rfl (z := (1 : Int32)) rfl (L' := #[vr a, vi 0, vi 5, vi 1, vi 1]) rfl ?_
    refine K.goto d12_55 (by decide) (w':=18) (by decide) ?_
    refine K.iload d12_18 (w':=20) rfl rfl ?_
    refine K.iloadN d12_20 (w':=21) rfl rfl ?_
    refine K.icmp_ge d12_21 (pc1 := 24) rfl (by decide) (pc2 := 58) (by decide) (a := 1) (b := 5) rfl rfl (fun c21_1 => ?_) (fun c21_1 => ?_)
    ·exfalso; omega
    ·refine K.iloadN d12_24 (w':=25) rfl rfl ?_
     refine K.iloadN d12_25 (w':=26) rfl rfl ?_
     refine K.icmp_eq d12_26 (pc1 := 29) rfl (by decide) (pc2 := 42) (by decide) (a := 1) (b := 0) rfl rfl (fun c26_1 => ?_) (fun c26_1 => ?_)
     ·exfalso; omega
     ·refine K.aloadN d12_29 (w':=30) rfl rfl rfl ?_
      refine K.iloadN d12_30 (w':=31) rfl rfl ?_
      refine K.iconst d12_31 (w':=32) rfl (z := 1) rfl ?_
      refine K.isub d12_32 (w':=33) rfl (z := (0 : Int32)) (by decide) ?_
      refine K.lald d12_33 (w':=34) rfl A_14 (i := 0) rfl rfl ?_
      refine K.aloadN d12_34 (w':=35) rfl rfl rfl ?_
      refine K.iload d12_35 (w':=37) rfl rfl ?_
      refine K.lald d12_37 (w':=38) rfl A_14 (i := 1) rfl rfl ?_
      refine K.lcmp_eq d12_38 d12_39 (pc1 := 42) rfl (by decide) (pc2 := 52) (by decide) (a := y0_4.toInt) (b := y1_5.toInt) rfl rfl (fun c38 => ?_) (fun c38 => ?_)
      ·refine K.iinc d12_52 (w':=55) rfl rfl (z := (2 : Int32)) rfl (L' := #[vr a, vi 0, vi 5, vi 1, vi 2]) rfl ?_
       refine K.goto d12_55 (by decide) (w':=18) (by decide) ?_
       refine K.iload d12_18 (w':=20) rfl rfl ?_
       refine K.iloadN d12_20 (w':=21) rfl rfl ?_
       refine K.icmp_ge d12_21 (pc1 := 24) rfl (by decide) (pc2 := 58) (by decide) (a := 2) (b := 5) rfl rfl (fun c21_2 => ?_) (fun c21_2 => ?_)
       ·exfalso; omega
       ·refine K.iloadN d12_24 (w':=25) rfl rfl ?_
        refine K.iloadN d12_25 (w':=26) rfl rfl ?_
        refine K.icmp_eq d12_26 (pc1 := 29) rfl (by decide) (pc2 := 42) (by decide) (a := 1) (b := 0) rfl rfl (fun c26_2 => ?_) (fun c26_2 => ?_)
        ·exfalso; omega
        ·refine K.aloadN d12_29 (w':=30) rfl rfl rfl ?_
         refine K.iloadN d12_30 (w':=31) rfl rfl ?_
         refine K.iconst d12_31 (w':=32) rfl (z := 1) rfl ?_
         refine K.isub d12_32 (w':=33) rfl (z := (0 : Int32)) (by decide) ?_
         refine K.lald d12_33 (w':=34) rfl A_14 (i := 0) rfl rfl ?_
         refine K.aloadN d12_34 (w':=35) rfl rfl rfl ?_
         refine K.iload d12_35 (w':=37) rfl rfl ?_
         refine K.lald d12_37 (w':=38) rfl A_14 (i := 2) rfl rfl ?_
         refine K.lcmp_eq d12_38 d12_39 (pc1 := 42) rfl (by decide) (pc2 := 52) (by decide) (a := y0_4.toInt) (b := y2_6.toInt) rfl rfl (fun c38_1 => ?_) (fun c38_1 => ?_)
         ·refine K.iinc d12_52 (w':=55) rfl rfl (z := (3 : Int32)) rfl (L' := #[vr a, vi 0, vi 5, vi 1, vi 3]) rfl ?_
          refine K.goto d12_55 (by decide) (w':=18) (by decide) ?_
          refine K.iload d12_18 (w':=20) rfl rfl ?_
          refine K.iloadN d12_20 (w':=21) rfl rfl ?_
          refine K.icmp_ge d12_21 (pc1 := 24) rfl (by decide) (pc2 := 58) (by decide) (a := 3) (b := 5) rfl rfl (fun c21_3 => ?_) (fun c21_3 => ?_)
          ·exfalso; omega
          ·refine K.iloadN d12_24 (w':=25) rfl rfl ?_
           refine K.iloadN d12_25 (w':=26) rfl rfl ?_
           refine K.icmp_eq d12_26 (pc1 := 29) rfl (by decide) (pc2 := 42) (by decide) (a := 1) (b := 0) rfl rfl (fun c26_3 => ?_) (fun c26_3 => ?_)
           ·exfalso; omega
           ·refine K.aloadN d12_29 (w':=30) rfl rfl rfl ?_
            refine K.iloadN d12_30 (w':=31) rfl rfl ?_
            refine K.iconst d12_31 (w':=32) rfl (z := 1) rfl ?_
            refine K.isub d12_32 (w':=33) rfl (z := (0 : Int32)) (by decide) ?_
            refine K.lald d12_33 (w':=34) rfl A_14 (i := 0) rfl rfl ?_
            refine K.aloadN d12_34 (w':=35) rfl rfl rfl ?_
            refine K.iload d12_35 (w':=37) rfl rfl ?_
            refine K.lald d12_37 (w':=38) rfl A_14 (i := 3) rfl rfl ?_
            refine K.lcmp_eq d12_38 d12_39 (pc1 := 42) rfl (by decide) (pc2 := 52) (by decide) (a := y0_4.toInt) (b := y3_7.toInt) rfl rfl (fun c38_2 => ?_) (fun c38_2 => ?_)
            ·refine K.iinc d12_52 (w':=55) rfl rfl (z := (4 : Int32)) rfl (L' := #[vr a, vi 0, vi 5, vi 1, vi 4]) rfl ?_
             refine K.goto d12_55 (by decide) (w':=18) (by decide) ?_
             refine K.iload d12_18 (w':=20) rfl rfl ?_
             refine K.iloadN d12_20 (w':=21) rfl rfl ?_
             refine K.icmp_ge d12_21 (pc1 := 24) rfl (by decide) (pc2 := 58) (by decide) (a := 4) (b := 5) rfl rfl (fun c21_4 => ?_) (fun c21_4 => ?_)
             ·exfalso; omega
             ·refine K.iloadN d12_24 (w':=25) rfl rfl ?_
              refine K.iloadN d12_25 (w':=26) rfl rfl ?_
              refine K.icmp_eq d12_26 (pc1 := 29) rfl (by decide) (pc2 := 42) (by decide) (a := 1) (b := 0) rfl rfl (fun c26_4 => ?_) (fun c26_4 => ?_)
              ·exfalso; omega
              ·refine K.aloadN d12_29 (w':=30) rfl rfl rfl ?_
               refine K.iloadN d12_30 (w':=31) rfl rfl ?_
               refine K.iconst d12_31 (w':=32) rfl (z := 1) rfl ?_
               refine K.isub d12_32 (w':=33) rfl (z := (0 : Int32)) (by decide) ?_
               refine K.lald d12_33 (w':=34) rfl A_14 (i := 0) rfl rfl ?_
               refine K.aloadN d12_34 (w':=35) rfl rfl rfl ?_
               refine K.iload d12_35 (w':=37) rfl rfl ?_
               refine K.lald d12_37 (w':=38) rfl A_14 (i := 4) rfl rfl ?_
               refine K.lcmp_eq d12_38 d12_39 (pc1 := 42) rfl (by decide) (pc2 := 52) (by decide) (a := y0_4.toInt) (b := y4_8.toInt) rfl rfl (fun c38_3 => ?_) (fun c38_3 => ?_)
               ·refine K.iinc d12_52 (w':=55) rfl rfl (z := (5 : Int32)) rfl (L' := #[vr a, vi 0, vi 5, vi 1, vi 5]) rfl ?_
                refine K.goto d12_55 (by decide) (w':=18) (by decide) ?_
                refine K.iload d12_18 (w':=20) rfl rfl ?_
                refine K.iloadN d12_20 (w':=21) rfl rfl ?_
                refine K.icmp_ge d12_21 (pc1 := 24) rfl (by decide) (pc2 := 58) (by decide) (a := 5) (b := 5) rfl rfl (fun c21_5 => ?_) (fun c21_5 => ?_)
                ·refine K.iloadN d12_58 (w':=59) rfl rfl ?_
                 exact K.reti d12_59 (by decide) (by decide) ⟨(1 : Int32), [y0_4], [y1_5, y2_6, y3_7, y4_8], rfl, by have ev : (1 : Int32).toInt = 1 := rfl; first | omega | (exact ⟨rfl, rfl, (by simp [List.pairwise_cons] <;> omega), fun v => by refine Iff.trans ?_ (hm_S v); simp <;> omega⟩), (((Keep.refl h [a]).trans K_9 (allS (Or.inl (by simp)) all0)).wr W_12 (Or.inl (by simp))), A_14⟩
                ·exfalso; omega
               ·refine K.aloadN d12_42 (w':=43) rfl rfl rfl ?_
                refine K.iloadN d12_43 (w':=44) rfl rfl ?_
                refine K.aloadN d12_44 (w':=45) rfl rfl rfl ?_
                refine K.iload d12_45 (w':=47) rfl rfl ?_
                refine K.lald d12_47 (w':=48) rfl A_14 (i := 4) rfl rfl ?_
                refine K.last d12_48 (w':=49) rfl A_14 (i := 1) rfl (show 1 < 5 by decide) P2 (fun h_15 W_16 A_17 => ?_)
                have A_18 : Ary Z h_15 a .long [(.long y0_4), (.long y4_8), (.long y2_6), (.long y3_7), (.long y4_8)] := A_17
                refine K.iinc d12_49 (w':=52) rfl rfl (z := (2 : Int32)) rfl (L' := #[vr a, vi 0, vi 5, vi 2, vi 4]) rfl ?_
                refine K.iinc d12_52 (w':=55) rfl rfl (z := (5 : Int32)) rfl (L' := #[vr a, vi 0, vi 5, vi 2, vi 5]) rfl ?_
                refine K.goto d12_55 (by decide) (w':=18) (by decide) ?_
                refine K.iload d12_18 (w':=20) rfl rfl ?_
                refine K.iloadN d12_20 (w':=21) rfl rfl ?_
                refine K.icmp_ge d12_21 (pc1 := 24) rfl (by decide) (pc2 := 58) (by decide) (a := 5) (b := 5) rfl rfl (fun c21_5 => ?_) (fun c21_5 => ?_)
                ·refine K.iloadN d12_58 (w':=59) rfl rfl ?_
                 exact K.reti d12_59 (by decide) (by decide) ⟨(2 : Int32), [y0_4, y4_8], [y2_6, y3_7, y4_8], rfl, by have ev : (2 : Int32).toInt = 2 := rfl; first | omega | (exact ⟨rfl, rfl, (by simp [List.pairwise_cons] <;> omega), fun v => by refine Iff.trans ?_ (hm_S v); simp <;> omega⟩), ((((Keep.refl h [a]).trans K_9 (allS (Or.inl (by simp)) all0)).wr W_12 (Or.inl (by simp))).wr W_16 (Or.inl (by simp))), A_18⟩
                ·exfalso; omega
            ·refine K.aloadN d12_42 (w':=43) rfl rfl rfl ?_
             refine K.iloadN d12_43 (w':=44) rfl rfl ?_
             refine K.aloadN d12_44 (w':=45) rfl rfl rfl ?_
             refine K.iload d12_45 (w':=47) rfl rfl ?_
             refine K.lald d12_47 (w':=48) rfl A_14 (i := 3) rfl rfl ?_
             refine K.last d12_48 (w':=49) rfl A_14 (i := 1) rfl (show 1 < 5 by decide) P2 (fun h_19 W_20 A_21 => ?_)
             have A_22 : Ary Z h_19 a .long [(.long y0_4), (.long y3_7), (.long y2_6), (.long y3_7), (.long y4_8)] := A_21
             refine K.iinc d12_49 (w':=52) rfl rfl (z := (2 : Int32)) rfl (L' := #[vr a, vi 0, vi 5, vi 2, vi 3]) rfl ?_
             refine K.iinc d12_52 (w':=55) rfl rfl (z := (4 : Int32)) rfl (L' := #[vr a, vi 0, vi 5, vi 2, vi 4]) rfl ?_
             refine K.goto d12_55 (by decide) (w':=18) (by decide) ?_
             refine K.iload d12_18 (w':=20) rfl rfl ?_
             refine K.iloadN d12_20 (w':=21) rfl rfl ?_
             refine K.icmp_ge d12_21 (pc1 := 24) rfl (by decide) (pc2 := 58) (by decide) (a := 4) (b := 5) rfl rfl (fun c21_4 => ?_) (fun c21_4 => ?_)
             ·exfalso; omega
             ·refine K.iloadN d12_24 (w':=25) rfl rfl ?_
              refine K.iloadN d12_25 (w':=26) rfl rfl ?_
              refine K.icmp_eq d12_26 (pc1 := 29) rfl (by decide) (pc2 := 42) (by decide) (a := 2) (b := 0) rfl rfl (fun c26_4 => ?_) (fun c26_4 => ?_)
              ·exfalso; omega
              ·refine K.aloadN d12_29 (w':=30) rfl rfl rfl ?_
               refine K.iloadN d12_30 (w':=31) rfl rfl ?_
               refine K.iconst d12_31 (w':=32) rfl (z := 1) rfl ?_
               refine K.isub d12_32 (w':=33) rfl (z := (1 : Int32)) (by decide) ?_
               refine K.lald d12_33 (w':=34) rfl A_22 (i := 1) rfl rfl ?_
               refine K.aloadN d12_34 (w':=35) rfl rfl rfl ?_
               refine K.iload d12_35 (w':=37) rfl rfl ?_
               refine K.lald d12_37 (w':=38) rfl A_22 (i := 4) rfl rfl ?_
               refine K.lcmp_eq d12_38 d12_39 (pc1 := 42) rfl (by decide) (pc2 := 52) (by decide) (a := y3_7.toInt) (b := y4_8.toInt) rfl rfl (fun c38_3 => ?_) (fun c38_3 => ?_)
               ·refine K.iinc d12_52 (w':=55) rfl rfl (z := (5 : Int32)) rfl (L' := #[vr a, vi 0, vi 5, vi 2, vi 5]) rfl ?_
                refine K.goto d12_55 (by decide) (w':=18) (by decide) ?_
                refine K.iload d12_18 (w':=20) rfl rfl ?_
                refine K.iloadN d12_20 (w':=21) rfl rfl ?_
                refine K.icmp_ge d12_21 (pc1 := 24) rfl (by decide) (pc2 := 58) (by decide) (a := 5) (b := 5) rfl rfl (fun c21_5 => ?_) (fun c21_5 => ?_)
                ·refine K.iloadN d12_58 (w':=59) rfl rfl ?_
                 exact K.reti d12_59 (by decide) (by decide) ⟨(2 : Int32), [y0_4, y3_7], [y2_6, y3_7, y4_8], rfl, by have ev : (2 : Int32).toInt = 2 := rfl; first | omega | (exact ⟨rfl, rfl, (by simp [List.pairwise_cons] <;> omega), fun v => by refine Iff.trans ?_ (hm_S v); simp <;> omega⟩), ((((Keep.refl h [a]).trans K_9 (allS (Or.inl (by simp)) all0)).wr W_12 (Or.inl (by simp))).wr W_20 (Or.inl (by simp))), A_22⟩
                ·exfalso; omega
               ·refine K.aloadN d12_42 (w':=43) rfl rfl rfl ?_
                refine K.iloadN d12_43 (w':=44) rfl rfl ?_
                refine K.aloadN d12_44 (w':=45) rfl rfl rfl ?_
                refine K.iload d12_45 (w':=47) rfl rfl ?_
                refine K.lald d12_47 (w':=48) rfl A_22 (i := 4) rfl rfl ?_
                refine K.last d12_48 (w':=49) rfl A_22 (i := 2) rfl (show 2 < 5 by decide) P2 (fun h_23 W_24 A_25 => ?_)
                have A_26 : Ary Z h_23 a .long [(.long y0_4), (.long y3_7), (.long y4_8), (.long y3_7), (.long y4_8)] := A_25
                refine K.iinc d12_49 (w':=52) rfl rfl (z := (3 : Int32)) rfl (L' := #[vr a, vi 0, vi 5, vi 3, vi 4]) rfl ?_
                refine K.iinc d12_52 (w':=55) rfl rfl (z := (5 : Int32)) rfl (L' := #[vr a, vi 0, vi 5, vi 3, vi 5]) rfl ?_
                refine K.goto d12_55 (by decide) (w':=18) (by decide) ?_
                refine K.iload d12_18 (w':=20) rfl rfl ?_
                refine K.iloadN d12_20 (w':=21) rfl rfl ?_
                refine K.icmp_ge d12_21 (pc1 := 24) rfl (by decide) (pc2 := 58) (by decide) (a := 5) (b := 5) rfl rfl (fun c21_5 => ?_) (fun c21_5 => ?_)
                ·refine K.iloadN d12_58 (w':=59) rfl rfl ?_
                 exact K.reti d12_59 (by decide) (by decide) ⟨(3 : Int32), [y0_4, y3_7, y4_8], [y3_7, y4_8], rfl, by have ev : (3 : Int32).toInt = 3 := rfl; first | omega | (exact ⟨rfl, rfl, (by simp [List.pairwise_cons] <;> omega), fun v => by refine Iff.trans ?_ (hm_S v); simp <;> omega⟩), (((((Keep.refl h [a]).trans K_9 (allS (Or.inl (by simp)) all0)).wr W_12 (Or.inl (by simp))).wr W_20 (Or.inl (by simp))).wr W_24 (Or.inl (by simp))), A_26⟩
                ·exfalso; omega
         ·refine K.aloadN d12_42 (w':=43) rfl rfl rfl ?_
          refine K.iloadN d12_43 (w':=44) rfl rfl ?_
          refine K.aloadN d12_44 (w':=45) rfl rfl rfl ?_
          refine K.iload d12_45 (w':=47) rfl rfl ?_
          refine K.lald d12_47 (w':=48) rfl A_14 (i := 2) rfl rfl ?_
          refine K.last d12_48 (w':=49) rfl A_14 (i := 1) rfl (show 1 < 5 by decide) P2 (fun h_27 W_28 A_29 => ?_)
          have A_30 : Ary Z h_27 a .long [(.long y0_4), (.long y2_6), (.long y2_6), (.long y3_7), (.long y4_8)] := A_29
          refine K.iinc d12_49 (w':=52) rfl rfl (z := (2 : Int32)) rfl (L' := #[vr a, vi 0, vi 5, vi 2, vi 2]) rfl ?_
          refine K.iinc d12_52 (w':=55) rfl rfl (z := (3 : Int32)) rfl (L' := #[vr a, vi 0, vi 5, vi 2, vi 3]) rfl ?_
          refine K.goto d12_55 (by decide) (w':=18) (by decide) ?_
          refine K.iload d12_18 (w':=20) rfl rfl ?_
          refine K.iloadN d12_20 (w':=21) rfl rfl ?_
          refine K.icmp_ge d12_21 (pc1 := 24) rfl (by decide) (pc2 := 58) (by decide) (a := 3) (b := 5) rfl rfl (fun c21_3 => ?_) (fun c21_3 => ?_)
          ·exfalso; omega
          ·refine K.iloadN d12_24 (w':=25) rfl rfl ?_
           refine K.iloadN d12_25 (w':=26) rfl rfl ?_
           refine K.icmp_eq d12_26 (pc1 := 29) rfl (by decide) (pc2 := 42) (by decide) (a := 2) (b := 0) rfl rfl (fun c26_3 => ?_) (fun c26_3 => ?_)
           ·exfalso; omega
           ·refine K.aloadN d12_29 (w':=30) rfl rfl rfl ?_
            refine K.iloadN d12_30 (w':=31) rfl rfl ?_
            refine K.iconst d12_31 (w':=32) rfl (z := 1) rfl ?_
            refine K.isub d12_32 (w':=33) rfl (z := (1 : Int32)) (by decide) ?_
            refine K.lald d12_33 (w':=34) rfl A_30 (i := 1) rfl rfl ?_
            refine K.aloadN d12_34 (w':=35) rfl rfl rfl ?_
            refine K.iload d12_35 (w':=37) rfl rfl ?_
            refine K.lald d12_37 (w':=38) rfl A_30 (i := 3) rfl rfl ?_
            refine K.lcmp_eq d12_38 d12_39 (pc1 := 42) rfl (by decide) (pc2 := 52) (by decide) (a := y2_6.toInt) (b := y3_7.toInt) rfl rfl (fun c38_2 => ?_) (fun c38_2 => ?_)
            ·refine K.iinc d12_52 (w':=55) rfl rfl (z := (4 : Int32)) rfl (L' := #[vr a, vi 0, vi 5, vi 2, vi 4]) rfl ?_
             refine K.goto d12_55 (by decide) (w':=18) (by decide) ?_
             refine K.iload d12_18 (w':=20) rfl rfl ?_
             refine K.iloadN d12_20 (w':=21) rfl rfl ?_
             refine K.icmp_ge d12_21 (pc1 := 24) rfl (by decide) (pc2 := 58) (by decide) (a := 4) (b := 5) rfl rfl (fun c21_4 => ?_) (fun c21_4 => ?_)
             ·exfalso; omega
             ·refine K.iloadN d12_24 (w':=25) rfl rfl ?_
              refine K.iloadN d12_25 (w':=26) rfl rfl ?_
              refine K.icmp_eq d12_26 (pc1 := 29) rfl (by decide) (pc2 := 42) (by decide) (a := 2) (b := 0) rfl rfl (fun c26_4 => ?_) (fun c26_4 => ?_)
              ·exfalso; omega
              ·refine K.aloadN d12_29 (w':=30) rfl rfl rfl ?_
               refine K.iloadN d12_30 (w':=31) rfl rfl ?_
               refine K.iconst d12_31 (w':=32) rfl (z := 1) rfl ?_
               refine K.isub d12_32 (w':=33) rfl (z := (1 : Int32)) (by decide) ?_
               refine K.lald d12_33 (w':=34) rfl A_30 (i := 1) rfl rfl ?_
               refine K.aloadN d12_34 (w':=35) rfl rfl rfl ?_
               refine K.iload d12_35 (w':=37) rfl rfl ?_
               refine K.lald d12_37 (w':=38) rfl A_30 (i := 4) rfl rfl ?_
               refine K.lcmp_eq d12_38 d12_39 (pc1 := 42) rfl (by decide) (pc2 := 52) (by decide) (a := y2_6.toInt) (b := y4_8.toInt) rfl rfl (fun c38_3 => ?_) (fun c38_3 => ?_)
               ·refine K.iinc d12_52 (w':=55) rfl rfl (z := (5 : Int32)) rfl (L' := #[vr a, vi 0, vi 5, vi 2, vi 5]) rfl ?_
                refine K.goto d12_55 (by decide) (w':=18) (by decide) ?_
                refine K.iload d12_18 (w':=20) rfl rfl ?_
                refine K.iloadN d12_20 (w':=21) rfl rfl ?_
                refine K.icmp_ge d12_21 (pc1 := 24) rfl (by decide) (pc2 := 58) (by decide) (a := 5) (b := 5) rfl rfl (fun c21_5 => ?_) (fun c21_5 => ?_)
                ·refine K.iloadN d12_58 (w':=59) rfl rfl ?_
                 exact K.reti d12_59 (by decide) (by decide) ⟨(2 : Int32), [y0_4, y2_6], [y2_6, y3_7, y4_8], rfl, by have ev : (2 : Int32).toInt = 2 := rfl; first | omega | (exact ⟨rfl, rfl, (by simp [List.pairwise_cons] <;> omega), fun v => by refine Iff.trans ?_ (hm_S v); simp <;> omega⟩), ((((Keep.refl h [a]).trans K_9 (allS (Or.inl (by simp)) all0)).wr W_12 (Or.inl (by simp))).wr W_28 (Or.inl (by simp))), A_30⟩
                ·exfalso; omega
               ·refine K.aloadN d12_42 (w':=43) rfl rfl rfl ?_
                refine K.iloadN d12_43 (w':=44) rfl rfl ?_
                refine K.aloadN d12_44 (w':=45) rfl rfl rfl ?_
                refine K.iload d12_45 (w':=47) rfl rfl ?_
                refine K.lald d12_47 (w':=48) rfl A_30 (i := 4) rfl rfl ?_
                refine K.last d12_48 (w':=49) rfl A_30 (i := 2) rfl (show 2 < 5 by decide) P2 (fun h_31 W_32 A_33 => ?_)
                have A_34 : Ary Z h_31 a .long [(.long y0_4), (.long y2_6), (.long y4_8), (.long y3_7), (.long y4_8)] := A_33
                refine K.iinc d12_49 (w':=52) rfl rfl (z := (3 : Int32)) rfl (L' := #[vr a, vi 0, vi 5, vi 3, vi 4]) rfl ?_
                refine K.iinc d12_52 (w':=55) rfl rfl (z := (5 : Int32)) rfl (L' := #[vr a, vi 0, vi 5, vi 3, vi 5]) rfl ?_
                refine K.goto d12_55 (by decide) (w':=18) (by decide) ?_
                refine K.iload d12_18 (w':=20) rfl rfl ?_
                refine K.iloadN d12_20 (w':=21) rfl rfl ?_
                refine K.icmp_ge d12_21 (pc1 := 24) rfl (by decide) (pc2 := 58) (by decide) (a := 5) (b := 5) rfl rfl (fun c21_5 => ?_) (fun c21_5 => ?_)
                ·refine K.iloadN d12_58 (w':=59) rfl rfl ?_
                 exact K.reti d12_59 (by decide) (by decide) ⟨(3 : Int32), [y0_4, y2_6, y4_8], [y3_7, y4_8], rfl, by have ev : (3 : Int32).toInt = 3 := rfl; first | omega | (exact ⟨rfl, rfl, (by simp [List.pairwise_cons] <;> omega), fun v => by refine Iff.trans ?_ (hm_S v); simp <;> omega⟩), (((((Keep.refl h [a]).trans K_9 (allS (Or.inl (by simp)) all0)).wr W_12 (Or.inl (by simp))).wr W_28 (Or.inl (by simp))).wr W_32 (Or.inl (by simp))), A_34⟩
                ·exfalso; omega
            ·refine K.aloadN d12_42 (w':=43) rfl rfl rfl ?_
             refine K.iloadN d12_43 (w':=44) rfl rfl ?_
             refine K.aloadN d12_44 (w':=45) rfl rfl rfl ?_
             refine K.iload d12_45 (w':=47) rfl rfl ?_
             refine K.lald d12_47 (w':=48) rfl A_30 (i := 3) rfl rfl ?_
             refine K.last d12_48 (w':=49) rfl A_30 (i := 2) rfl (show 2 < 5 by decide) P2 (fun h_35 W_36 A_37 => ?_)
             have A_38 : Ary Z h_35 a .long [(.long y0_4), (.long y2_6), (.long y3_7), (.long y3_7), (.long y4_8)] := A_37
             refine K.iinc d12_49 (w':=52) rfl rfl (z := (3 : Int32)) rfl (L' := #[vr a, vi 0, vi 5, vi 3, vi 3]) rfl ?_
             refine K.iinc d12_52 (w':=55) rfl rfl (z := (4 : Int32)) rfl (L' := #[vr a, vi 0, vi 5, vi 3, vi 4]) rfl ?_
             refine K.goto d12_55 (by decide) (w':=18) (by decide) ?_
             refine K.iload d12_18 (w':=20) rfl rfl ?_
             refine K.iloadN d12_20 (w':=21) rfl rfl ?_
             refine K.icmp_ge d12_21 (pc1 := 24) rfl (by decide) (pc2 := 58) (by decide) (a := 4) (b := 5) rfl rfl (fun c21_4 => ?_) (fun c21_4 => ?_)
             ·exfalso; omega
             ·refine K.iloadN d12_24 (w':=25) rfl rfl ?_
              refine K.iloadN d12_25 (w':=26) rfl rfl ?_
              refine K.icmp_eq d12_26 (pc1 := 29) rfl (by decide) (pc2 := 42) (by decide) (a := 3) (b := 0) rfl rfl (fun c26_4 => ?_) (fun c26_4 => ?_)
              ·exfalso; omega
              ·refine K.aloadN d12_29 (w':=30) rfl rfl rfl ?_
               refine K.iloadN d12_30 (w':=31) rfl rfl ?_
               refine K.iconst d12_31 (w':=32) rfl (z := 1) rfl ?_
               refine K.isub d12_32 (w':=33) rfl (z := (2 : Int32)) (by decide) ?_
               refine K.lald d12_33 (w':=34) rfl A_38 (i := 2) rfl rfl ?_
               refine K.aloadN d12_34 (w':=35) rfl rfl rfl ?_
               refine K.iload d12_35 (w':=37) rfl rfl ?_
               refine K.lald d12_37 (w':=38) rfl A_38 (i := 4) rfl rfl ?_
               refine K.lcmp_eq d12_38 d12_39 (pc1 := 42) rfl (by decide) (pc2 := 52) (by decide) (a := y3_7.toInt) (b := y4_8.toInt) rfl rfl (fun c38_3 => ?_) (fun c38_3 => ?_)
               ·refine K.iinc d12_52 (w':=55) rfl rfl (z := (5 : Int32)) rfl (L' := #[vr a, vi 0, vi 5, vi 3, vi 5]) rfl ?_
                refine K.goto d12_55 (by decide) (w':=18) (by decide) ?_
                refine K.iload d12_18 (w':=20) rfl rfl ?_
                refine K.iloadN d12_20 (w':=21) rfl rfl ?_
                refine K.icmp_ge d12_21 (pc1 := 24) rfl (by decide) (pc2 := 58) (by decide) (a := 5) (b := 5) rfl rfl (fun c21_5 => ?_) (fun c21_5 => ?_)
                ·refine K.iloadN d12_58 (w':=59) rfl rfl ?_
                 exact K.reti d12_59 (by decide) (by decide) ⟨(3 : Int32), [y0_4, y2_6, y3_7], [y3_7, y4_8], rfl, by have ev : (3 : Int32).toInt = 3 := rfl; first | omega | (exact ⟨rfl, rfl, (by simp [List.pairwise_cons] <;> omega), fun v => by refine Iff.trans ?_ (hm_S v); simp <;> omega⟩), (((((Keep.refl h [a]).trans K_9 (allS (Or.inl (by simp)) all0)).wr W_12 (Or.inl (by simp))).wr W_28 (Or.inl (by simp))).wr W_36 (Or.inl (by simp))), A_38⟩
                ·exfalso; omega
               ·refine K.aloadN d12_42 (w':=43) rfl rfl rfl ?_
                refine K.iloadN d12_43 (w':=44) rfl rfl ?_
                refine K.aloadN d12_44 (w':=45) rfl rfl rfl ?_
                refine K.iload d12_45 (w':=47) rfl rfl ?_
                refine K.lald d12_47 (w':=48) rfl A_38 (i := 4) rfl rfl ?_
                refine K.last d12_48 (w':=49) rfl A_38 (i := 3) rfl (show 3 < 5 by decide) P2 (fun h_39 W_40 A_41 => ?_)
                have A_42 : Ary Z h_39 a .long [(.long y0_4), (.long y2_6), (.long y3_7), (.long y4_8), (.long y4_8)] := A_41
                refine K.iinc d12_49 (w':=52) rfl rfl (z := (4 : Int32)) rfl (L' := #[vr a, vi 0, vi 5, vi 4, vi 4]) rfl ?_
                refine K.iinc d12_52 (w':=55) rfl rfl (z := (5 : Int32)) rfl (L' := #[vr a, vi 0, vi 5, vi 4, vi 5]) rfl ?_
                refine K.goto d12_55 (by decide) (w':=18) (by decide) ?_
                refine K.iload d12_18 (w':=20) rfl rfl ?_
                refine K.iloadN d12_20 (w':=21) rfl rfl ?_
                refine K.icmp_ge d12_21 (pc1 := 24) rfl (by decide) (pc2 := 58) (by decide) (a := 5) (b := 5) rfl rfl (fun c21_5 => ?_) (fun c21_5 => ?_)
                ·refine K.iloadN d12_58 (w':=59) rfl rfl ?_
                 exact K.reti d12_59 (by decide) (by decide) ⟨(4 : Int32), [y0_4, y2_6, y3_7, y4_8], [y4_8], rfl, by have ev : (4 : Int32).toInt = 4 := rfl; first | omega | (exact ⟨rfl, rfl, (by simp [List.pairwise_cons] <;> omega), fun v => by refine Iff.trans ?_ (hm_S v); simp <;> omega⟩), ((((((Keep.refl h [a]).trans K_9 (allS (Or.inl (by simp)) all0)).wr W_12 (Or.inl (by simp))).wr W_28 (Or.inl (by simp))).wr W_36 (Or.inl (by simp))).wr W_40 (Or.inl (by simp))), A_42⟩
                ·exfalso; omega
      ·refine K.aloadN d12_42 (w':=43) rfl rfl rfl ?_
       refine K.iloadN d12_43 (w':=44) rfl rfl ?_
       refine K.aloadN d12_44 (w':=45) rfl rfl rfl ?_
       refine K.iload d12_45 (w':=47) rfl rfl ?_
       refine K.lald d12_47 (w':=48) rfl A_14 (i := 1) rfl rfl ?_
       refine K.last d12_48 (w':=49) rfl A_14 (i := 1) rfl (show 1 < 5 by decide) P2 (fun h_43 W_44 A_45 => ?_)
       have A_46 : Ary Z h_43 a .long [(.long y0_4), (.long y1_5), (.long y2_6), (.long y3_7), (.long y4_8)] := A_45
       refine K.iinc d12_49 (w':=52) rfl rfl (z := (2 : Int32)) rfl (L' := #[vr a, vi 0, vi 5, vi 2, vi 1]) rfl ?_
       refine K.iinc d12_52 (w':=55) rfl rfl (z := (2 : Int32)) rfl (L' := #[vr a, vi 0, vi 5, vi 2, vi 2]) rfl ?_
       refine K.goto d12_55 (by decide) (w':=18) (by decide) ?_
       refine K.iload d12_18 (w':=20) rfl rfl ?_
       refine K.iloadN d12_20 (w':=21) rfl rfl ?_
       refine K.icmp_ge d12_21 (pc1 := 24) rfl (by decide) (pc2 := 58) (by decide) (a := 2) (b := 5) rfl rfl (fun c21_2 => ?_) (fun c21_2 => ?_)
       ·exfalso; omega
       ·refine K.iloadN d12_24 (w':=25) rfl rfl ?_
        refine K.iloadN d12_25 (w':=26) rfl rfl ?_
        refine K.icmp_eq d12_26 (pc1 := 29) rfl (by decide) (pc2 := 42) (by decide) (a := 2) (b := 0) rfl rfl (fun c26_2 => ?_) (fun c26_2 => ?_)
        ·exfalso; omega
        ·refine K.aloadN d12_29 (w':=30) rfl rfl rfl ?_
         refine K.iloadN d12_30 (w':=31) rfl rfl ?_
         refine K.iconst d12_31 (w':=32) rfl (z := 1) rfl ?_
         refine K.isub d12_32 (w':=33) rfl (z := (1 : Int32)) (by decide) ?_
         refine K.lald d12_33 (w':=34) rfl A_46 (i := 1) rfl rfl ?_
         refine K.aloadN d12_34 (w':=35) rfl rfl rfl ?_
         refine K.iload d12_35 (w':=37) rfl rfl ?_
         refine K.lald d12_37 (w':=38) rfl A_46 (i := 2) rfl rfl ?_
         refine K.lcmp_eq d12_38 d12_39 (pc1 := 42) rfl (by decide) (pc2 := 52) (by decide) (a := y1_5.toInt) (b := y2_6.toInt) rfl rfl (fun c38_1 => ?_) (fun c38_1 => ?_)
         ·refine K.iinc d12_52 (w':=55) rfl rfl (z := (3 : Int32)) rfl (L' := #[vr a, vi 0, vi 5, vi 2, vi 3]) rfl ?_
          refine K.goto d12_55 (by decide) (w':=18) (by decide) ?_
          refine K.iload d12_18 (w':=20) rfl rfl ?_
          refine K.iloadN d12_20 (w':=21) rfl rfl ?_
          refine K.icmp_ge d12_21 (pc1 := 24) rfl (by decide) (pc2 := 58) (by decide) (a := 3) (b := 5) rfl rfl (fun c21_3 => ?_) (fun c21_3 => ?_)
          ·exfalso; omega
          ·refine K.iloadN d12_24 (w':=25) rfl rfl ?_
           refine K.iloadN d12_25 (w':=26) rfl rfl ?_
           refine K.icmp_eq d12_26 (pc1 := 29) rfl (by decide) (pc2 := 42) (by decide) (a := 2) (b := 0) rfl rfl (fun c26_3 => ?_) (fun c26_3 => ?_)
           ·exfalso; omega
           ·refine K.aloadN d12_29 (w':=30) rfl rfl rfl ?_
            refine K.iloadN d12_30 (w':=31) rfl rfl ?_
            refine K.iconst d12_31 (w':=32) rfl (z := 1) rfl ?_
            refine K.isub d12_32 (w':=33) rfl (z := (1 : Int32)) (by decide) ?_
            refine K.lald d12_33 (w':=34) rfl A_46 (i := 1) rfl rfl ?_
            refine K.aloadN d12_34 (w':=35) rfl rfl rfl ?_
            refine K.iload d12_35 (w':=37) rfl rfl ?_
            refine K.lald d12_37 (w':=38) rfl A_46 (i := 3) rfl rfl ?_
            refine K.lcmp_eq d12_38 d12_39 (pc1 := 42) rfl (by decide) (pc2 := 52) (by decide) (a := y1_5.toInt) (b := y3_7.toInt) rfl rfl (fun c38_2 => ?_) (fun c38_2 => ?_)
            ·refine K.iinc d12_52 (w':=55) rfl rfl (z := (4 : Int32)) rfl (L' := #[vr a, vi 0, vi 5, vi 2, vi 4]) rfl ?_
             refine K.goto d12_55 (by decide) (w':=18) (by decide) ?_
             refine K.iload d12_18 (w':=20) rfl rfl ?_
             refine K.iloadN d12_20 (w':=21) rfl rfl ?_
             refine K.icmp_ge d12_21 (pc1 := 24) rfl (by decide) (pc2 := 58) (by decide) (a := 4) (b := 5) rfl rfl (fun c21_4 => ?_) (fun c21_4 => ?_)
             ·exfalso; omega
             ·refine K.iloadN d12_24 (w':=25) rfl rfl ?_
              refine K.iloadN d12_25 (w':=26) rfl rfl ?_
              refine K.icmp_eq d12_26 (pc1 := 29) rfl (by decide) (pc2 := 42) (by decide) (a := 2) (b := 0) rfl rfl (fun c26_4 => ?_) (fun c26_4 => ?_)
              ·exfalso; omega
              ·refine K.aloadN d12_29 (w':=30) rfl rfl rfl ?_
               refine K.iloadN d12_30 (w':=31) rfl rfl ?_
               refine K.iconst d12_31 (w':=32) rfl (z := 1) rfl ?_
               refine K.isub d12_32 (w':=33) rfl (z := (1 : Int32)) (by decide) ?_
               refine K.lald d12_33 (w':=34) rfl A_46 (i := 1) rfl rfl ?_
               refine K.aloadN d12_34 (w':=35) rfl rfl rfl ?_
               refine K.iload d12_35 (w':=37) rfl rfl ?_
               refine K.lald d12_37 (w':=38) rfl A_46 (i := 4) rfl rfl ?_
               refine K.lcmp_eq d12_38 d12_39 (pc1 := 42) rfl (by decide) (pc2 := 52) (by decide) (a := y1_5.toInt) (b := y4_8.toInt) rfl rfl (fun c38_3 => ?_) (fun c38_3 => ?_)
               ·refine K.iinc d12_52 (w':=55) rfl rfl (z := (5 : Int32)) rfl (L' := #[vr a, vi 0, vi 5, vi 2, vi 5]) rfl ?_
                refine K.goto d12_55 (by decide) (w':=18) (by decide) ?_
                refine K.iload d12_18 (w':=20) rfl rfl ?_
                refine K.iloadN d12_20 (w':=21) rfl rfl ?_
                refine K.icmp_ge d12_21 (pc1 := 24) rfl (by decide) (pc2 := 58) (by decide) (a := 5) (b := 5) rfl rfl (fun c21_5 => ?_) (fun c21_5 => ?_)
                ·refine K.iloadN d12_58 (w':=59) rfl rfl ?_
                 exact K.reti d12_59 (by decide) (by decide) ⟨(2 : Int32), [y0_4, y1_5], [y2_6, y3_7, y4_8], rfl, by have ev : (2 : Int32).toInt = 2 := rfl; first | omega | (exact ⟨rfl, rfl, (by simp [List.pairwise_cons] <;> omega), fun v => by refine Iff.trans ?_ (hm_S v); simp <;> omega⟩), ((((Keep.refl h [a]).trans K_9 (allS (Or.inl (by simp)) all0)).wr W_12 (Or.inl (by simp))).wr W_44 (Or.inl (by simp))), A_46⟩
                ·exfalso; omega
               ·refine K.aloadN d12_42 (w':=43) rfl rfl rfl ?_
                refine K.iloadN d12_43 (w':=44) rfl rfl ?_
                refine K.aloadN d12_44 (w':=45) rfl rfl rfl ?_
                refine K.iload d12_45 (w':=47) rfl rfl ?_
                refine K.lald d12_47 (w':=48) rfl A_46 (i := 4) rfl rfl ?_
                refine K.last d12_48 (w':=49) rfl A_46 (i := 2) rfl (show 2 < 5 by decide) P2 (fun h_47 W_48 A_49 => ?_)
                have A_50 : Ary Z h_47 a .long [(.long y0_4), (.long y1_5), (.long y4_8), (.long y3_7), (.long y4_8)] := A_49
                refine K.iinc d12_49 (w':=52) rfl rfl (z := (3 : Int32)) rfl (L' := #[vr a, vi 0, vi 5, vi 3, vi 4]) rfl ?_
                refine K.iinc d12_52 (w':=55) rfl rfl (z := (5 : Int32)) rfl (L' := #[vr a, vi 0, vi 5, vi 3, vi 5]) rfl ?_
                refine K.goto d12_55 (by decide) (w':=18) (by decide) ?_
                refine K.iload d12_18 (w':=20) rfl rfl ?_
                refine K.iloadN d12_20 (w':=21) rfl rfl ?_
                refine K.icmp_ge d12_21 (pc1 := 24) rfl (by decide) (pc2 := 58) (by decide) (a := 5) (b := 5) rfl rfl (fun c21_5 => ?_) (fun c21_5 => ?_)
                ·refine K.iloadN d12_58 (w':=59) rfl rfl ?_
                 exact K.reti d12_59 (by decide) (by decide) ⟨(3 : Int32), [y0_4, y1_5, y4_8], [y3_7, y4_8], rfl, by have ev : (3 : Int32).toInt = 3 := rfl; first | omega | (exact ⟨rfl, rfl, (by simp [List.pairwise_cons] <;> omega), fun v => by refine Iff.trans ?_ (hm_S v); simp <;> omega⟩), (((((Keep.refl h [a]).trans K_9 (allS (Or.inl (by simp)) all0)).wr W_12 (Or.inl (by simp))).wr W_44 (Or.inl (by simp))).wr W_48 (Or.inl (by simp))), A_50⟩
                ·exfalso; omega
            ·refine K.aloadN d12_42 (w':=43) rfl rfl rfl ?_
             refine K.iloadN d12_43 (w':=44) rfl rfl ?_
             refine K.aloadN d12_44 (w':=45) rfl rfl rfl ?_
             refine K.iload d12_45 (w':=47) rfl rfl ?_
             refine K.lald d12_47 (w':=48) rfl A_46 (i := 3) rfl rfl ?_
             refine K.last d12_48 (w':=49) rfl A_46 (i := 2) rfl (show 2 < 5 by decide) P2 (fun h_51 W_52 A_53 => ?_)
             have A_54 : Ary Z h_51 a .long [(.long y0_4), (.long y1_5), (.long y3_7), (.long y3_7), (.long y4_8)] := A_53
             refine K.iinc d12_49 (w':=52) rfl rfl (z := (3 : Int32)) rfl (L' := #[vr a, vi 0, vi 5, vi 3, vi 3]) rfl ?_
             refine K.iinc d12_52 (w':=55) rfl rfl (z := (4 : Int32)) rfl (L' := #[vr a, vi 0, vi 5, vi 3, vi 4]) rfl ?_
             refine K.goto d12_55 (by decide) (w':=18) (by decide) ?_
             refine K.iload d12_18 (w':=20) rfl rfl ?_
             refine K.iloadN d12_20 (w':=21) rfl rfl ?_
             refine K.icmp_ge d12_21 (pc1 := 24) rfl (by decide) (pc2 := 58) (by decide) (a := 4) (b := 5) rfl rfl (fun c21_4 => ?_) (fun c21_4 => ?_)
             ·exfalso; omega
             ·refine K.iloadN d12_24 (w':=25) rfl rfl ?_
              refine K.iloadN d12_25 (w':=26) rfl rfl ?_
              refine K.icmp_eq d12_26 (pc1 := 29) rfl (by decide) (pc2 := 42) (by decide) (a := 3) (b := 0) rfl rfl (fun c26_4 => ?_) (fun c26_4 => ?_)
              ·exfalso; omega
              ·refine K.aloadN d12_29 (w':=30) rfl rfl rfl ?_
               refine K.iloadN d12_30 (w':=31) rfl rfl ?_
               refine K.iconst d12_31 (w':=32) rfl (z := 1) rfl ?_
               refine K.isub d12_32 (w':=33) rfl (z := (2 : Int32)) (by decide) ?_
               refine K.lald d12_33 (w':=34) rfl A_54 (i := 2) rfl rfl ?_
               refine K.aloadN d12_34 (w':=35) rfl rfl rfl ?_
               refine K.iload d12_35 (w':=37) rfl rfl ?_
               refine K.lald d12_37 (w':=38) rfl A_54 (i := 4) rfl rfl ?_
               refine K.lcmp_eq d12_38 d12_39 (pc1 := 42) rfl (by decide) (pc2 := 52) (by decide) (a := y3_7.toInt) (b := y4_8.toInt) rfl rfl (fun c38_3 => ?_) (fun c38_3 => ?_)
               ·refine K.iinc d12_52 (w':=55) rfl rfl (z := (5 : Int32)) rfl (L' := #[vr a, vi 0, vi 5, vi 3, vi 5]) rfl ?_
                refine K.goto d12_55 (by decide) (w':=18) (by decide) ?_
                refine K.iload d12_18 (w':=20) rfl rfl ?_
                refine K.iloadN d12_20 (w':=21) rfl rfl ?_
                refine K.icmp_ge d12_21 (pc1 := 24) rfl (by decide) (pc2 := 58) (by decide) (a := 5) (b := 5) rfl rfl (fun c21_5 => ?_) (fun c21_5 => ?_)
                ·refine K.iloadN d12_58 (w':=59) rfl rfl ?_
                 exact K.reti d12_59 (by decide) (by decide) ⟨(3 : Int32), [y0_4, y1_5, y3_7], [y3_7, y4_8], rfl, by have ev : (3 : Int32).toInt = 3 := rfl; first | omega | (exact ⟨rfl, rfl, (by simp [List.pairwise_cons] <;> omega), fun v => by refine Iff.trans ?_ (hm_S v); simp <;> omega⟩), (((((Keep.refl h [a]).trans K_9 (allS (Or.inl (by simp)) all0)).wr W_12 (Or.inl (by simp))).wr W_44 (Or.inl (by simp))).wr W_52 (Or.inl (by simp))), A_54⟩
                ·exfalso; omega
               ·refine K.aloadN d12_42 (w':=43) rfl rfl rfl ?_
                refine K.iloadN d12_43 (w':=44) rfl rfl ?_
                refine K.aloadN d12_44 (w':=45) rfl rfl rfl ?_
                refine K.iload d12_45 (w':=47) rfl rfl ?_
                refine K.lald d12_47 (w':=48) rfl A_54 (i := 4) rfl rfl ?_
                refine K.last d12_48 (w':=49) rfl A_54 (i := 3) rfl (show 3 < 5 by decide) P2 (fun h_55 W_56 A_57 => ?_)
                have A_58 : Ary Z h_55 a .long [(.long y0_4), (.long y1_5), (.long y3_7), (.long y4_8), (.long y4_8)] := A_57
                refine K.iinc d12_49 (w':=52) rfl rfl (z := (4 : Int32)) rfl (L' := #[vr a, vi 0, vi 5, vi 4, vi 4]) rfl ?_
                refine K.iinc d12_52 (w':=55) rfl rfl (z := (5 : Int32)) rfl (L' := #[vr a, vi 0, vi 5, vi 4, vi 5]) rfl ?_
                refine K.goto d12_55 (by decide) (w':=18) (by decide) ?_
                refine K.iload d12_18 (w':=20) rfl rfl ?_
                refine K.iloadN d12_20 (w':=21) rfl rfl ?_
                refine K.icmp_ge d12_21 (pc1 := 24) rfl (by decide) (pc2 := 58) (by decide) (a := 5) (b := 5) rfl rfl (fun c21_5 => ?_) (fun c21_5 => ?_)
                ·refine K.iloadN d12_58 (w':=59) rfl rfl ?_
                 exact K.reti d12_59 (by decide) (by decide) ⟨(4 : Int32), [y0_4, y1_5, y3_7, y4_8], [y4_8], rfl, by have ev : (4 : Int32).toInt = 4 := rfl; first | omega | (exact ⟨rfl, rfl, (by simp [List.pairwise_cons] <;> omega), fun v => by refine Iff.trans ?_ (hm_S v); simp <;> omega⟩), ((((((Keep.refl h [a]).trans K_9 (allS (Or.inl (by simp)) all0)).wr W_12 (Or.inl (by simp))).wr W_44 (Or.inl (by simp))).wr W_52 (Or.inl (by simp))).wr W_56 (Or.inl (by simp))), A_58⟩
                ·exfalso; omega
         ·refine K.aloadN d12_42 (w':=43) rfl rfl rfl ?_
          refine K.iloadN d12_43 (w':=44) rfl rfl ?_
          refine K.aloadN d12_44 (w':=45) rfl rfl rfl ?_
          refine K.iload d12_45 (w':=47) rfl rfl ?_
          refine K.lald d12_47 (w':=48) rfl A_46 (i := 2) rfl rfl ?_
          refine K.last d12_48 (w':=49) rfl A_46 (i := 2) rfl (show 2 < 5 by decide) P2 (fun h_59 W_60 A_61 => ?_)
          have A_62 : Ary Z h_59 a .long [(.long y0_4), (.long y1_5), (.long y2_6), (.long y3_7), (.long y4_8)] := A_61
          refine K.iinc d12_49 (w':=52) rfl rfl (z := (3 : Int32)) rfl (L' := #[vr a, vi 0, vi 5, vi 3, vi 2]) rfl ?_
          refine K.iinc d12_52 (w':=55) rfl rfl (z := (3 : Int32)) rfl (L' := #[vr a, vi 0, vi 5, vi 3, vi 3]) rfl ?_
          refine K.goto d12_55 (by decide) (w':=18) (by decide) ?_
          refine K.iload d12_18 (w':=20) rfl rfl ?_
          refine K.iloadN d12_20 (w':=21) rfl rfl ?_
          refine K.icmp_ge d12_21 (pc1 := 24) rfl (by decide) (pc2 := 58) (by decide) (a := 3) (b := 5) rfl rfl (fun c21_3 => ?_) (fun c21_3 => ?_)
          ·exfalso; omega
          ·refine K.iloadN d12_24 (w':=25) rfl rfl ?_
           refine K.iloadN d12_25 (w':=26) rfl rfl ?_
           refine K.icmp_eq d12_26 (pc1 := 29) rfl (by decide) (pc2 := 42) (by decide) (a := 3) (b := 0) rfl rfl (fun c26_3 => ?_) (fun c26_3 => ?_)
           ·exfalso; omega
           ·refine K.aloadN d12_29 (w':=30) rfl rfl rfl ?_
            refine K.iloadN d12_30 (w':=31) rfl rfl ?_
            refine K.iconst d12_31 (w':=32) rfl (z := 1) rfl ?_
            refine K.isub d12_32 (w':=33) rfl (z := (2 : Int32)) (by decide) ?_
            refine K.lald d12_33 (w':=34) rfl A_62 (i := 2) rfl rfl ?_
            refine K.aloadN d12_34 (w':=35) rfl rfl rfl ?_
            refine K.iload d12_35 (w':=37) rfl rfl ?_
            refine K.lald d12_37 (w':=38) rfl A_62 (i := 3) rfl rfl ?_
            refine K.lcmp_eq d12_38 d12_39 (pc1 := 42) rfl (by decide) (pc2 := 52) (by decide) (a := y2_6.toInt) (b := y3_7.toInt) rfl rfl (fun c38_2 => ?_) (fun c38_2 => ?_)
            ·refine K.iinc d12_52 (w':=55) rfl rfl (z := (4 : Int32)) rfl (L' := #[vr a, vi 0, vi 5, vi 3, vi 4]) rfl ?_
             refine K.goto d12_55 (by decide) (w':=18) (by decide) ?_
             refine K.iload d12_18 (w':=20) rfl rfl ?_
             refine K.iloadN d12_20 (w':=21) rfl rfl ?_
             refine K.icmp_ge d12_21 (pc1 := 24) rfl (by decide) (pc2 := 58) (by decide) (a := 4) (b := 5) rfl rfl (fun c21_4 => ?_) (fun c21_4 => ?_)
             ·exfalso; omega
             ·refine K.iloadN d12_24 (w':=25) rfl rfl ?_
              refine K.iloadN d12_25 (w':=26) rfl rfl ?_
              refine K.icmp_eq d12_26 (pc1 := 29) rfl (by decide) (pc2 := 42) (by decide) (a := 3) (b := 0) rfl rfl (fun c26_4 => ?_) (fun c26_4 => ?_)
              ·exfalso; omega
              ·refine K.aloadN d12_29 (w':=30) rfl rfl rfl ?_
               refine K.iloadN d12_30 (w':=31) rfl rfl ?_
               refine K.iconst d12_31 (w':=32) rfl (z := 1) rfl ?_
               refine K.isub d12_32 (w':=33) rfl (z := (2 : Int32)) (by decide) ?_
               refine K.lald d12_33 (w':=34) rfl A_62 (i := 2) rfl rfl ?_
               refine K.aloadN d12_34 (w':=35) rfl rfl rfl ?_
               refine K.iload d12_35 (w':=37) rfl rfl ?_
               refine K.lald d12_37 (w':=38) rfl A_62 (i := 4) rfl rfl ?_
               refine K.lcmp_eq d12_38 d12_39 (pc1 := 42) rfl (by decide) (pc2 := 52) (by decide) (a := y2_6.toInt) (b := y4_8.toInt) rfl rfl (fun c38_3 => ?_) (fun c38_3 => ?_)
               ·refine K.iinc d12_52 (w':=55) rfl rfl (z := (5 : Int32)) rfl (L' := #[vr a, vi 0, vi 5, vi 3, vi 5]) rfl ?_
                refine K.goto d12_55 (by decide) (w':=18) (by decide) ?_
                refine K.iload d12_18 (w':=20) rfl rfl ?_
                refine K.iloadN d12_20 (w':=21) rfl rfl ?_
                refine K.icmp_ge d12_21 (pc1 := 24) rfl (by decide) (pc2 := 58) (by decide) (a := 5) (b := 5) rfl rfl (fun c21_5 => ?_) (fun c21_5 => ?_)
                ·refine K.iloadN d12_58 (w':=59) rfl rfl ?_
                 exact K.reti d12_59 (by decide) (by decide) ⟨(3 : Int32), [y0_4, y1_5, y2_6], [y3_7, y4_8], rfl, by have ev : (3 : Int32).toInt = 3 := rfl; first | omega | (exact ⟨rfl, rfl, (by simp [List.pairwise_cons] <;> omega), fun v => by refine Iff.trans ?_ (hm_S v); simp <;> omega⟩), (((((Keep.refl h [a]).trans K_9 (allS (Or.inl (by simp)) all0)).wr W_12 (Or.inl (by simp))).wr W_44 (Or.inl (by simp))).wr W_60 (Or.inl (by simp))), A_62⟩
                ·exfalso; omega
               ·refine K.aloadN d12_42 (w':=43) rfl rfl rfl ?_
                refine K.iloadN d12_43 (w':=44) rfl rfl ?_
                refine K.aloadN d12_44 (w':=45) rfl rfl rfl ?_
                refine K.iload d12_45 (w':=47) rfl rfl ?_
                refine K.lald d12_47 (w':=48) rfl A_62 (i := 4) rfl rfl ?_
                refine K.last d12_48 (w':=49) rfl A_62 (i := 3) rfl (show 3 < 5 by decide) P2 (fun h_63 W_64 A_65 => ?_)
                have A_66 : Ary Z h_63 a .long [(.long y0_4), (.long y1_5), (.long y2_6), (.long y4_8), (.long y4_8)] := A_65
                refine K.iinc d12_49 (w':=52) rfl rfl (z := (4 : Int32)) rfl (L' := #[vr a, vi 0, vi 5, vi 4, vi 4]) rfl ?_
                refine K.iinc d12_52 (w':=55) rfl rfl (z := (5 : Int32)) rfl (L' := #[vr a, vi 0, vi 5, vi 4, vi 5]) rfl ?_
                refine K.goto d12_55 (by decide) (w':=18) (by decide) ?_
                refine K.iload d12_18 (w':=20) rfl rfl ?_
                refine K.iloadN d12_20 (w':=21) rfl rfl ?_
                refine K.icmp_ge d12_21 (pc1 := 24) rfl (by decide) (pc2 := 58) (by decide) (a := 5) (b := 5) rfl rfl (fun c21_5 => ?_) (fun c21_5 => ?_)
                ·refine K.iloadN d12_58 (w':=59) rfl rfl ?_
                 exact K.reti d12_59 (by decide) (by decide) ⟨(4 : Int32), [y0_4, y1_5, y2_6, y4_8], [y4_8], rfl, by have ev : (4 : Int32).toInt = 4 := rfl; first | omega | (exact ⟨rfl, rfl, (by simp [List.pairwise_cons] <;> omega), fun v => by refine Iff.trans ?_ (hm_S v); simp <;> omega⟩), ((((((Keep.refl h [a]).trans K_9 (allS (Or.inl (by simp)) all0)).wr W_12 (Or.inl (by simp))).wr W_44 (Or.inl (by simp))).wr W_60 (Or.inl (by simp))).wr W_64 (Or.inl (by simp))), A_66⟩
                ·exfalso; omega
            ·refine K.aloadN d12_42 (w':=43) rfl rfl rfl ?_
             refine K.iloadN d12_43 (w':=44) rfl rfl ?_
             refine K.aloadN d12_44 (w':=45) rfl rfl rfl ?_
             refine K.iload d12_45 (w':=47) rfl rfl ?_
             refine K.lald d12_47 (w':=48) rfl A_62 (i := 3) rfl rfl ?_
             refine K.last d12_48 (w':=49) rfl A_62 (i := 3) rfl (show 3 < 5 by decide) P2 (fun h_67 W_68 A_69 => ?_)
             have A_70 : Ary Z h_67 a .long [(.long y0_4), (.long y1_5), (.long y2_6), (.long y3_7), (.long y4_8)] := A_69
             refine K.iinc d12_49 (w':=52) rfl rfl (z := (4 : Int32)) rfl (L' := #[vr a, vi 0, vi 5, vi 4, vi 3]) rfl ?_
             refine K.iinc d12_52 (w':=55) rfl rfl (z := (4 : Int32)) rfl (L' := #[vr a, vi 0, vi 5, vi 4, vi 4]) rfl ?_
             refine K.goto d12_55 (by decide) (w':=18) (by decide) ?_
             refine K.iload d12_18 (w':=20) rfl rfl ?_
             refine K.iloadN d12_20 (w':=21) rfl rfl ?_
             refine K.icmp_ge d12_21 (pc1 := 24) rfl (by decide) (pc2 := 58) (by decide) (a := 4) (b := 5) rfl rfl (fun c21_4 => ?_) (fun c21_4 => ?_)
             ·exfalso; omega
             ·refine K.iloadN d12_24 (w':=25) rfl rfl ?_
              refine K.iloadN d12_25 (w':=26) rfl rfl ?_
              refine K.icmp_eq d12_26 (pc1 := 29) rfl (by decide) (pc2 := 42) (by decide) (a := 4) (b := 0) rfl rfl (fun c26_4 => ?_) (fun c26_4 => ?_)
              ·exfalso; omega
              ·refine K.aloadN d12_29 (w':=30) rfl rfl rfl ?_
               refine K.iloadN d12_30 (w':=31) rfl rfl ?_
               refine K.iconst d12_31 (w':=32) rfl (z := 1) rfl ?_
               refine K.isub d12_32 (w':=33) rfl (z := (3 : Int32)) (by decide) ?_
               refine K.lald d12_33 (w':=34) rfl A_70 (i := 3) rfl rfl ?_
               refine K.aloadN d12_34 (w':=35) rfl rfl rfl ?_
               refine K.iload d12_35 (w':=37) rfl rfl ?_
               refine K.lald d12_37 (w':=38) rfl A_70 (i := 4) rfl rfl ?_
               refine K.lcmp_eq d12_38 d12_39 (pc1 := 42) rfl (by decide) (pc2 := 52) (by decide) (a := y3_7.toInt) (b := y4_8.toInt) rfl rfl (fun c38_3 => ?_) (fun c38_3 => ?_)
               ·refine K.iinc d12_52 (w':=55) rfl rfl (z := (5 : Int32)) rfl (L' := #[vr a, vi 0, vi 5, vi 4, vi 5]) rfl ?_
                refine K.goto d12_55 (by decide) (w':=18) (by decide) ?_
                refine K.iload d12_18 (w':=20) rfl rfl ?_
                refine K.iloadN d12_20 (w':=21) rfl rfl ?_
                refine K.icmp_ge d12_21 (pc1 := 24) rfl (by decide) (pc2 := 58) (by decide) (a := 5) (b := 5) rfl rfl (fun c21_5 => ?_) (fun c21_5 => ?_)
                ·refine K.iloadN d12_58 (w':=59) rfl rfl ?_
                 exact K.reti d12_59 (by decide) (by decide) ⟨(4 : Int32), [y0_4, y1_5, y2_6, y3_7], [y4_8], rfl, by have ev : (4 : Int32).toInt = 4 := rfl; first | omega | (exact ⟨rfl, rfl, (by simp [List.pairwise_cons] <;> omega), fun v => by refine Iff.trans ?_ (hm_S v); simp <;> omega⟩), ((((((Keep.refl h [a]).trans K_9 (allS (Or.inl (by simp)) all0)).wr W_12 (Or.inl (by simp))).wr W_44 (Or.inl (by simp))).wr W_60 (Or.inl (by simp))).wr W_68 (Or.inl (by simp))), A_70⟩
                ·exfalso; omega
               ·refine K.aloadN d12_42 (w':=43) rfl rfl rfl ?_
                refine K.iloadN d12_43 (w':=44) rfl rfl ?_
                refine K.aloadN d12_44 (w':=45) rfl rfl rfl ?_
                refine K.iload d12_45 (w':=47) rfl rfl ?_
                refine K.lald d12_47 (w':=48) rfl A_70 (i := 4) rfl rfl ?_
                refine K.last d12_48 (w':=49) rfl A_70 (i := 4) rfl (show 4 < 5 by decide) P2 (fun h_71 W_72 A_73 => ?_)
                have A_74 : Ary Z h_71 a .long [(.long y0_4), (.long y1_5), (.long y2_6), (.long y3_7), (.long y4_8)] := A_73
                refine K.iinc d12_49 (w':=52) rfl rfl (z := (5 : Int32)) rfl (L' := #[vr a, vi 0, vi 5, vi 5, vi 4]) rfl ?_
                refine K.iinc d12_52 (w':=55) rfl rfl (z := (5 : Int32)) rfl (L' := #[vr a, vi 0, vi 5, vi 5, vi 5]) rfl ?_
                refine K.goto d12_55 (by decide) (w':=18) (by decide) ?_
                refine K.iload d12_18 (w':=20) rfl rfl ?_
                refine K.iloadN d12_20 (w':=21) rfl rfl ?_
                refine K.icmp_ge d12_21 (pc1 := 24) rfl (by decide) (pc2 := 58) (by decide) (a := 5) (b := 5) rfl rfl (fun c21_5 => ?_) (fun c21_5 => ?_)
                ·refine K.iloadN d12_58 (w':=59) rfl rfl ?_
                 exact K.reti d12_59 (by decide) (by decide) ⟨(5 : Int32), [y0_4, y1_5, y2_6, y3_7, y4_8], [], rfl, by have ev : (5 : Int32).toInt = 5 := rfl; first | omega | (exact ⟨rfl, rfl, (by simp [List.pairwise_cons] <;> omega), fun v => by refine Iff.trans ?_ (hm_S v); simp <;> omega⟩), (((((((Keep.refl h [a]).trans K_9 (allS (Or.inl (by simp)) all0)).wr W_12 (Or.inl (by simp))).wr W_44 (Or.inl (by simp))).wr W_60 (Or.inl (by simp))).wr W_68 (Or.inl (by simp))).wr W_72 (Or.inl (by simp))), A_74⟩
                ·exfalso; omega
   ·exfalso; omega
theorem cpl_map {ds js : List Int64} {m : Nat} (hm : m = ds.length) : cpl ((ds ++ js).map Value.long) m = ds.map Value.long := by
 subst hm
 unfold cpl
 have h : ds.length - ((ds ++ js).map Value.long).length = 0 := by simp
 rw [h]
 simp
theorem len2 {ds : List Int64} {x y : Int} (h : SD ds (fun v => v = x ∨ v = y)) (h2 : ds.length ≤ 2) : (∃ d0, ds = [d0]) ∨ ∃ d0 d1, ds = [d0, d1] := by
 match ds, h, h2 with
 | [], h, _ => exact absurd ((h.2 x).mpr (Or.inl rfl)) (by simp)
 | [d0], _, _ => exact Or.inl ⟨d0, rfl⟩
 | [d0, d1], _, _ => exact Or.inr ⟨d0, d1, rfl⟩
 | _ :: _ :: _ :: _, _, h2 => simp at h2
theorem fits_map (ds : List Int64) : ∀ v ∈ ds.map Value.long, fits .long v = true := by
 intro v hv
 obtain ⟨d, -, rfl⟩ := List.mem_map.mp hv
 rfl
theorem d19_0 : decode B19 0 = .ok (.iload_n 0, 1) := by decide +kernel
theorem d19_1 : decode B19 1 = .ok (.iload_n 1, 1) := by decide +kernel
theorem d19_2 : decode B19 2 = .ok (.if_icmp .gt 7, 3) := by decide +kernel
theorem d19_9 : decode B19 9 = .ok (.iload_n 1, 1) := by decide +kernel
theorem d19_10 : decode B19 10 = .ok (.ireturn, 1) := by decide +kernel
theorem d19_5 : decode B19 5 = .ok (.iload_n 0, 1) := by decide +kernel
theorem d19_6 : decode B19 6 = .ok (.goto 4, 3) := by decide +kernel
theorem c_min (l : Launch) (Z : State) (a0 : Array Value) (hw : HW a0 Z) (n0 : Nat) (h : Heap) (p : Int32) (q : Int32)  : MeetsW l Z n0 (⟨"java/lang/Math", "min", "(II)I"⟩ : MethodName) B19 2 (some .int) ({ frames := 0, cells := 0, slots := 0, locals := 0 } : Room) #[(.int p), (.int q)] h (fun v h' => ∃ (z : Int32), v = some (.int z) ∧ ((p.toInt ≤ q.toInt → z.toInt = p.toInt) ∧ (q.toInt < p.toInt → z.toInt = q.toInt)) ∧ h = h') := by
 refine MeetsW.intro (by decide +kernel) (L0 := #[vi p, vi q]) (fun m => rfl) ?_
 intro m G K0
 have K : Cx l ({ frames := 0, cells := 0, slots := 0, locals := 0 } : Room) Z n0 _ "java/lang/Math" "min" B19 2 (some .int) m G := K0
 refine K.iloadN d19_0 (w':=1) rfl rfl ?_
 refine K.iloadN d19_1 (w':=2) rfl rfl ?_
 refine K.icmp_gt d19_2 (pc1 := 5) rfl (by decide) (pc2 := 9) (by decide) (a := p.toInt) (b := q.toInt) rfl rfl (fun c2 => ?_) (fun c2 => ?_)
 ·refine K.iloadN d19_9 (w':=10) rfl rfl ?_
  exact K.reti d19_10 (by decide) (by decide) ⟨q, rfl, by omega, rfl⟩
 ·refine K.iloadN d19_5 (w':=6) rfl rfl ?_
  refine K.goto d19_6 (by decide) (w':=10) (by decide) ?_
  exact K.reti d19_10 (by decide) (by decide) ⟨p, rfl, by omega, rfl⟩
theorem d18_0 : decode B18 0 = .ok (.iload_n 1, 1) := by decide +kernel
theorem d18_1 : decode B18 1 = .ok (.aload_n 0, 1) := by decide +kernel
theorem d18_2 : decode B18 2 = .ok (.arraylength, 1) := by decide +kernel
theorem d18_3 : decode B18 3 = .ok (.if_icmp .ne 11, 3) := by decide +kernel
theorem d18_14 : decode B18 14 = .ok (.iload_n 1, 1) := by decide +kernel
theorem d18_15 : decode B18 15 = .ok (.newarray .long, 2) := by decide +kernel
theorem d18_17 : decode B18 17 = .ok (.astore_n 2, 1) := by decide +kernel
theorem d18_18 : decode B18 18 = .ok (.aload_n 0, 1) := by decide +kernel
theorem d18_19 : decode B18 19 = .ok (.iconst 0, 1) := by decide +kernel
theorem d18_20 : decode B18 20 = .ok (.aload_n 2, 1) := by decide +kernel
theorem d18_21 : decode B18 21 = .ok (.iconst 0, 1) := by decide +kernel
theorem d18_22 : decode B18 22 = .ok (.aload_n 0, 1) := by decide +kernel
theorem d18_23 : decode B18 23 = .ok (.arraylength, 1) := by decide +kernel
theorem d18_24 : decode B18 24 = .ok (.iload_n 1, 1) := by decide +kernel
theorem d18_25 : decode B18 25 = .ok (.invokestatic 304, 3) := by decide +kernel
theorem pd_8 : parseMethodDescriptor "(II)I" = some ⟨[.int, .int], some .int⟩ := by decide +kernel
theorem d18_28 : decode B18 28 = .ok (.invokestatic 150, 3) := by decide +kernel
theorem d18_31 : decode B18 31 = .ok (.aload_n 2, 1) := by decide +kernel
theorem d18_32 : decode B18 32 = .ok (.areturn, 1) := by decide +kernel
theorem c_cpy (l : Launch) (Z : State) (a0 : Array Value) (hw : HW a0 Z) (n0 : Nat) (h : Heap) (a : Addr) (mc : Int32) (us : List Value) (mm : Nat) (Z0 : n0 ≤ h.size) (P2 : Ary Z h a .long us) (hm : mc.toInt = (mm : Nat) ∧ mm ≤ 8 ∧ mm ≠ us.length ∧ us.length ≤ 8) (hfa : ∀ v ∈ us, fits .long v = true) : MeetsW l Z n0 (⟨"java/util/Arrays", "copyOf", "([JI)[J"⟩ : MethodName) B18 3 (some (.array .long)) ({ frames := 1, cells := 1, slots := 8, locals := 56 } : Room) #[(.ref a), (.int mc)] h (fun v h' => ∃ o : Addr, v = some (.ref o) ∧ Keep h h' [] ∧ h.size ≤ o ∧ n0 ≤ o ∧ Exa Z h' o "[J" ∧ Ary Z h' o .long (cpl us mm)) := by
 refine MeetsW.intro (plainFor_of_name pn_java_util_Arrays) (L0 := #[vr a, vi mc, un]) (fun m => rfl) ?_
 intro m G K0
 have K : Cx l ({ frames := 1, cells := 1, slots := 8, locals := 56 } : Room) Z n0 _ "java/util/Arrays" "copyOf" B18 3 (some (.array .long)) m G := K0
 have hw6 := tb hw (i:=6) rfl
 have hw106 := tb hw (i:=106) rfl
 have hw107 := tb hw (i:=107) rfl
 have hw108 := tb hw (i:=108) rfl
 have hw109 := tb hw (i:=109) rfl
 have hw110 := tb hw (i:=110) rfl
 have hw111 := tb hw (i:=111) rfl
 have hw112 := tb hw (i:=112) rfl
 have hw113 := tb hw (i:=113) rfl
 refine K.iloadN d18_0 (w':=1) rfl rfl ?_
 refine K.aloadN d18_1 (w':=2) rfl rfl rfl ?_
 refine K.alen d18_2 (w':=3) rfl P2 (fun z2 e_z2 => ?_)
 refine K.icmp_ne d18_3 (pc1 := 6) rfl (by decide) (pc2 := 14) (by decide) (a := mc.toInt) (b := z2.toInt) rfl rfl (fun c3 => ?_) (fun c3 => ?_)
 ·refine K.iloadN d18_14 (w':=15) rfl rfl ?_
  refine K.newa d18_15 (w':=17) rfl hw6 (k := mm) (cap := 8) (by omega) (by omega) (by decide) (by decide) (by decide) (ad := "[J") (by decide) (fun h_1 o1 g_o1 E_2 A_3 x_o1 => ?_)
  have ge_o1 : n0 ≤ o1 := g_o1 ▸ Z0
  have sb_o1 : h.size ≤ o1 := g_o1 ▸ (Nat.le_refl _)
  have A_4 : Ary Z h_1 o1 .long (List.replicate mm (.long 0)) := A_3
  refine K.astoreN d18_17 (w':=18) rfl rfl (L' := #[vr a, vi mc, vr o1]) rfl ?_
  refine K.aloadN d18_18 (w':=19) rfl rfl rfl ?_
  refine K.iconst d18_19 (w':=20) rfl (z := 0) rfl ?_
  refine K.aloadN d18_20 (w':=21) rfl rfl rfl ?_
  refine K.iconst d18_21 (w':=22) rfl (z := 0) rfl ?_
  refine K.aloadN d18_22 (w':=23) rfl rfl rfl ?_
  have f_5 := (P2.ext E_2)
  refine K.alen d18_23 (w':=24) rfl f_5 (fun z23 e_z23 => ?_)
  refine K.iloadN d18_24 (w':=25) rfl rfl ?_
  refine K.calls (argsL := [(.int z23), (.int mc)]) (rest := [(.int 0), (.ref o1), (.int 0), (.ref a)]) d18_25 (w':=28) rfl (c_min l Z a0 hw n0 h_1 (p := z23) (q := mc) ) hw106 hw107 hw108 hw109 (by decide) pd_8 rfl rfl (W := 4) (Nat.le_refl _) (by decide) (by decide) (by decide) (by decide) (fun v_8 h_6 q_7 => ?_)
  obtain ⟨kk, rfl, t_kk, rfl⟩ := q_7
  show G h_1 1 8 (mkF m 28 #[vr a, vi mc, vr o1] [(.int kk), (.int 0), (.ref o1), (.int 0), (.ref a)])
  refine K.acopy (.long 0) d18_28 (w':=31) rfl hw110 hw113 hw111 hw112 f_5 A_4 rfl hfa (by simp [fits]) rfl (i := 0) rfl (j := 0) rfl (k := kk.toInt.toNat) (by omega) (by omega) (by simp [-Int32.toNat_toInt]; omega) ge_o1 rfl (by decide) (W := 0) (Nat.le_refl _) (by decide) (fun h_9 K_10 A_11 => ?_)
  have A_12 : Ary Z h_9 o1 .long (cpl us mm) := (by have q := A_11; rw [cpl_eq (by omega)] at q; exact q)
  refine K.aloadN d18_31 (w':=32) rfl rfl rfl ?_
  have f_13 := (x_o1.keep K_10)
  exact K.reta d18_32 rfl rfl rfl (by decide) (by decide) ⟨o1, rfl, (((Keep.refl h []).ext E_2).trans K_10 (allS (Or.inr sb_o1) all0)), sb_o1, ge_o1, f_13, A_12⟩
 ·exfalso; omega
theorem d11_0 : decode B11 0 = .ok (.aload_n 0, 1) := by decide +kernel
theorem d11_1 : decode B11 1 = .ok (.invokevirtual 40, 3) := by decide +kernel
theorem d11_4 : decode B11 4 = .ok (.checkcast 41, 3) := by decide +kernel
theorem d11_7 : decode B11 7 = .ok (.astore_n 1, 1) := by decide +kernel
theorem d11_8 : decode B11 8 = .ok (.aload_n 1, 1) := by decide +kernel
theorem d11_9 : decode B11 9 = .ok (.iconst 0, 1) := by decide +kernel
theorem d11_10 : decode B11 10 = .ok (.aload_n 1, 1) := by decide +kernel
theorem d11_11 : decode B11 11 = .ok (.arraylength, 1) := by decide +kernel
theorem d11_12 : decode B11 12 = .ok (.invokestatic 74, 3) := by decide +kernel
theorem pd_9 : parseMethodDescriptor "([JII)I" = some ⟨[(.array .long), .int, .int], some .int⟩ := by decide +kernel
theorem d11_15 : decode B11 15 = .ok (.istore_n 2, 1) := by decide +kernel
theorem d11_16 : decode B11 16 = .ok (.iload_n 2, 1) := by decide +kernel
theorem d11_17 : decode B11 17 = .ok (.aload_n 1, 1) := by decide +kernel
theorem d11_18 : decode B11 18 = .ok (.arraylength, 1) := by decide +kernel
theorem d11_19 : decode B11 19 = .ok (.if_icmp .ne 7, 3) := by decide +kernel
theorem d11_26 : decode B11 26 = .ok (.aload_n 1, 1) := by decide +kernel
theorem d11_27 : decode B11 27 = .ok (.iload_n 2, 1) := by decide +kernel
theorem d11_28 : decode B11 28 = .ok (.invokestatic 78, 3) := by decide +kernel
theorem pd_10 : parseMethodDescriptor "([JI)[J" = some ⟨[(.array .long), .int], some (.array .long)⟩ := by decide +kernel
theorem d11_31 : decode B11 31 = .ok (.areturn, 1) := by decide +kernel
theorem d11_22 : decode B11 22 = .ok (.aload_n 1, 1) := by decide +kernel
theorem d11_23 : decode B11 23 = .ok (.goto 8, 3) := by decide +kernel
theorem c_di2 (l : Launch) (Z : State) (a0 : Array Value) (hw : HW a0 Z) (n0 : Nat) (h : Heap) (a : Addr) (x0 : Int64) (x1 : Int64) (Z0 : n0 ≤ h.size) (P2 : Ary Z h a .long [(.long x0), (.long x1)]) (P3 : Exa Z h a "[J") : MeetsW l Z n0 (⟨sR, "distinct", "([J)[J"⟩ : MethodName) B11 3 (some (.array .long)) ({ frames := 5, cells := 2, slots := 10, locals := 102 } : Room) #[(.ref a)] h (fun v h' => ∃ (o : Addr) (ds : List Int64), v = some (.ref o) ∧ Keep h h' [] ∧ h.size ≤ o ∧ Ary Z h' o .long (ds.map Value.long) ∧ (SD ds (fun v => v = x0.toInt ∨ v = x1.toInt) ∧ ds.length ≤ 2)) := by
 refine MeetsW.intro (plainFor_of_name pn_com_example_odograph_odograph_model_Requests) (L0 := #[vr a, un, un]) (fun m => rfl) ?_
 intro m G K0
 have K : Cx l ({ frames := 5, cells := 2, slots := 10, locals := 102 } : Room) Z n0 _ sR "distinct" B11 3 (some (.array .long)) m G := K0
 have hw17 := tb hw (i:=17) rfl
 have hw32 := tb hw (i:=32) rfl
 have hw33 := tb hw (i:=33) rfl
 have hw35 := tb hw (i:=35) rfl
 have hw36 := tb hw (i:=36) rfl
 have hw37 := tb hw (i:=37) rfl
 have hw38 := tb hw (i:=38) rfl
 have hw39 := tb hw (i:=39) rfl
 have hw83 := tb hw (i:=83) rfl
 have hw84 := tb hw (i:=84) rfl
 have hw85 := tb hw (i:=85) rfl
 have hw88 := tb hw (i:=88) rfl
 have hw103 := tb hw (i:=103) rfl
 have hw104 := tb hw (i:=104) rfl
 have hw105 := tb hw (i:=105) rfl
 refine K.aloadN d11_0 (w':=1) rfl rfl rfl ?_
 refine K.clone (.long 0) d11_1 (w':=4) rfl hw32 hw33 hw37 hw35 hw36 hw38 P2 P3 (by simp [fits]) rfl rfl (by decide) (W := 0) (Nat.le_refl _) (by decide) (cap := 2) (by simp) (by decide) (by decide) (fun h_1 c1 g_c1 E_2 A_3 x_c1 => ?_)
 have ge_c1 : n0 ≤ c1 := g_c1 ▸ Z0
 have sb_c1 : h.size ≤ c1 := g_c1 ▸ (Nat.le_refl _)
 refine K.ccast d11_4 (w':=7) rfl hw39 (Ins.self x_c1) ?_
 refine K.astoreN d11_7 (w':=8) rfl rfl (L' := #[vr a, vr c1, un]) rfl ?_
 refine K.aloadN d11_8 (w':=9) rfl rfl rfl ?_
 refine K.iconst d11_9 (w':=10) rfl (z := 0) rfl ?_
 refine K.aloadN d11_10 (w':=11) rfl rfl rfl ?_
 refine K.alen d11_11 (w':=12) rfl A_3 (fun n1 e_n1 => ?_)
 have t_n1 : n1.toInt = 2 := e_n1
 have cs_n1 : n1 = 2 := by
  have q : n1.toInt = 2 := by omega
  rcases q with q
  ·exact eqI q
 rcases cs_n1 with rfl
 ·refine K.calls (argsL := [(.ref c1), (.int 0), (.int 2)]) (rest := []) d11_12 (w':=15) rfl (c_ts2 l Z a0 hw n0 h_1 (a := c1) (x0 := x0) (x1 := x1) A_3 ge_c1) hw83 hw84 hw17 hw85 (by decide) pd_9 rfl rfl (W := 0) (Nat.le_refl _) (by decide) (by decide) (by decide) (by decide) (fun v_6 h_4 q_5 => ?_)
  obtain ⟨e1, ds1, js1, rfl, t_e1, K_7, f_8⟩ := q_5
  show G h_4 1 2 (mkF m 15 #[vr a, vr c1, un] [(.int e1)])
  refine K.istoreN d11_15 (w':=16) rfl (L' := #[vr a, vr c1, vi e1]) rfl ?_
  refine K.iloadN d11_16 (w':=17) rfl rfl ?_
  refine K.aloadN d11_17 (w':=18) rfl rfl rfl ?_
  refine K.alen d11_18 (w':=19) rfl f_8 (fun n2 e_n2 => ?_)
  have t_n2 : n2.toInt = (ds1.length : Int) + js1.length := by simpa using e_n2
  refine K.icmp_ne d11_19 (pc1 := 22) rfl (by decide) (pc2 := 26) (by decide) (a := e1.toInt) (b := n2.toInt) rfl rfl (fun c19 => ?_) (fun c19 => ?_)
  ·refine K.aloadN d11_26 (w':=27) rfl rfl rfl ?_
   refine K.iloadN d11_27 (w':=28) rfl rfl ?_
   have sz_9 := Nat.le_trans Z0 (Nat.le_trans E_2.1 K_7.1)
   refine K.calls (argsL := [(.ref c1), (.int e1)]) (rest := []) d11_28 (w':=31) rfl (c_cpy l Z a0 hw n0 h_4 (a := c1) (mc := e1) (us := ((ds1 ++ js1).map Value.long)) (mm := ds1.length) sz_9 f_8 (by simp only [List.length_map, List.length_append]; omega) (fits_map _)) hw103 hw104 hw88 hw105 (by decide) pd_10 rfl rfl (W := 0) (Nat.le_refl _) (by decide) (by decide) (by decide) (by decide) (fun v_12 h_10 q_11 => ?_)
   obtain ⟨o_cp, rfl, K_13, f_14, f_15, f_16, f_17⟩ := q_11
   have hz_18 : h.size ≤ h_4.size := (Nat.le_trans E_2.1 K_7.1)
   have sb_o_cp : h.size ≤ o_cp := Nat.le_trans hz_18 f_14
   show G h_10 2 10 (mkF m 31 #[vr a, vr c1, vi e1] [(.ref o_cp)])
   have A_19 : Ary Z h_10 o_cp .long (ds1.map Value.long) := by have q := f_17; rw [cpl_map rfl] at q; exact q
   exact K.reta d11_31 rfl rfl rfl (by decide) (by decide) ⟨o_cp, ds1, rfl, ((((Keep.refl h []).ext E_2).trans K_7 (allS (Or.inr sb_c1) all0)).trans K_13 all0), sb_o_cp, A_19, by exact ⟨t_e1.2.2, by omega⟩⟩
  ·obtain rfl : js1 = [] := List.eq_nil_of_length_eq_zero (by omega)
   have A_20 : Ary Z h_4 c1 .long (ds1.map Value.long) := by have q := f_8; simpa using q
   refine K.aloadN d11_22 (w':=23) rfl rfl rfl ?_
   refine K.goto d11_23 (by decide) (w':=31) (by decide) ?_
   exact K.reta d11_31 rfl rfl rfl (by decide) (by decide) ⟨c1, ds1, rfl, (((Keep.refl h []).ext E_2).trans K_7 (allS (Or.inr sb_c1) all0)), sb_c1, A_20, by exact ⟨t_e1.2.2, by omega⟩⟩
theorem c_di4 (l : Launch) (Z : State) (a0 : Array Value) (hw : HW a0 Z) (n0 : Nat) (h : Heap) (a : Addr) (x0 : Int64) (x1 : Int64) (x2 : Int64) (x3 : Int64) (Z0 : n0 ≤ h.size) (P2 : Ary Z h a .long [(.long x0), (.long x1), (.long x2), (.long x3)]) (P3 : Exa Z h a "[J") : MeetsW l Z n0 (⟨sR, "distinct", "([J)[J"⟩ : MethodName) B11 3 (some (.array .long)) ({ frames := 5, cells := 2, slots := 12, locals := 102 } : Room) #[(.ref a)] h (fun v h' => ∃ (o : Addr) (ds : List Int64), v = some (.ref o) ∧ Keep h h' [] ∧ h.size ≤ o ∧ Ary Z h' o .long (ds.map Value.long) ∧ (SD ds (fun v => v = x0.toInt ∨ v = x1.toInt ∨ v = x2.toInt ∨ v = x3.toInt) ∧ ds.length ≤ 4)) := by
 refine MeetsW.intro (plainFor_of_name pn_com_example_odograph_odograph_model_Requests) (L0 := #[vr a, un, un]) (fun m => rfl) ?_
 intro m G K0
 have K : Cx l ({ frames := 5, cells := 2, slots := 12, locals := 102 } : Room) Z n0 _ sR "distinct" B11 3 (some (.array .long)) m G := K0
 have hw17 := tb hw (i:=17) rfl
 have hw32 := tb hw (i:=32) rfl
 have hw33 := tb hw (i:=33) rfl
 have hw35 := tb hw (i:=35) rfl
 have hw36 := tb hw (i:=36) rfl
 have hw37 := tb hw (i:=37) rfl
 have hw38 := tb hw (i:=38) rfl
 have hw39 := tb hw (i:=39) rfl
 have hw83 := tb hw (i:=83) rfl
 have hw84 := tb hw (i:=84) rfl
 have hw85 := tb hw (i:=85) rfl
 have hw88 := tb hw (i:=88) rfl
 have hw103 := tb hw (i:=103) rfl
 have hw104 := tb hw (i:=104) rfl
 have hw105 := tb hw (i:=105) rfl
 refine K.aloadN d11_0 (w':=1) rfl rfl rfl ?_
 refine K.clone (.long 0) d11_1 (w':=4) rfl hw32 hw33 hw37 hw35 hw36 hw38 P2 P3 (by simp [fits]) rfl rfl (by decide) (W := 0) (Nat.le_refl _) (by decide) (cap := 4) (by simp) (by decide) (by decide) (fun h_1 c1 g_c1 E_2 A_3 x_c1 => ?_)
 have ge_c1 : n0 ≤ c1 := g_c1 ▸ Z0
 have sb_c1 : h.size ≤ c1 := g_c1 ▸ (Nat.le_refl _)
 refine K.ccast d11_4 (w':=7) rfl hw39 (Ins.self x_c1) ?_
 refine K.astoreN d11_7 (w':=8) rfl rfl (L' := #[vr a, vr c1, un]) rfl ?_
 refine K.aloadN d11_8 (w':=9) rfl rfl rfl ?_
 refine K.iconst d11_9 (w':=10) rfl (z := 0) rfl ?_
 refine K.aloadN d11_10 (w':=11) rfl rfl rfl ?_
 refine K.alen d11_11 (w':=12) rfl A_3 (fun n1 e_n1 => ?_)
 have t_n1 : n1.toInt = 4 := e_n1
 have cs_n1 : n1 = 4 := by
  have q : n1.toInt = 4 := by omega
  rcases q with q
  ·exact eqI q
 rcases cs_n1 with rfl
 ·refine K.calls (argsL := [(.ref c1), (.int 0), (.int 4)]) (rest := []) d11_12 (w':=15) rfl (c_ts4 l Z a0 hw n0 h_1 (a := c1) (x0 := x0) (x1 := x1) (x2 := x2) (x3 := x3) A_3 ge_c1) hw83 hw84 hw17 hw85 (by decide) pd_9 rfl rfl (W := 0) (Nat.le_refl _) (by decide) (by decide) (by decide) (by decide) (fun v_6 h_4 q_5 => ?_)
  obtain ⟨e1, ds1, js1, rfl, t_e1, K_7, f_8⟩ := q_5
  show G h_4 1 4 (mkF m 15 #[vr a, vr c1, un] [(.int e1)])
  refine K.istoreN d11_15 (w':=16) rfl (L' := #[vr a, vr c1, vi e1]) rfl ?_
  refine K.iloadN d11_16 (w':=17) rfl rfl ?_
  refine K.aloadN d11_17 (w':=18) rfl rfl rfl ?_
  refine K.alen d11_18 (w':=19) rfl f_8 (fun n2 e_n2 => ?_)
  have t_n2 : n2.toInt = (ds1.length : Int) + js1.length := by simpa using e_n2
  refine K.icmp_ne d11_19 (pc1 := 22) rfl (by decide) (pc2 := 26) (by decide) (a := e1.toInt) (b := n2.toInt) rfl rfl (fun c19 => ?_) (fun c19 => ?_)
  ·refine K.aloadN d11_26 (w':=27) rfl rfl rfl ?_
   refine K.iloadN d11_27 (w':=28) rfl rfl ?_
   have sz_9 := Nat.le_trans Z0 (Nat.le_trans E_2.1 K_7.1)
   refine K.calls (argsL := [(.ref c1), (.int e1)]) (rest := []) d11_28 (w':=31) rfl (c_cpy l Z a0 hw n0 h_4 (a := c1) (mc := e1) (us := ((ds1 ++ js1).map Value.long)) (mm := ds1.length) sz_9 f_8 (by simp only [List.length_map, List.length_append]; omega) (fits_map _)) hw103 hw104 hw88 hw105 (by decide) pd_10 rfl rfl (W := 0) (Nat.le_refl _) (by decide) (by decide) (by decide) (by decide) (fun v_12 h_10 q_11 => ?_)
   obtain ⟨o_cp, rfl, K_13, f_14, f_15, f_16, f_17⟩ := q_11
   have hz_18 : h.size ≤ h_4.size := (Nat.le_trans E_2.1 K_7.1)
   have sb_o_cp : h.size ≤ o_cp := Nat.le_trans hz_18 f_14
   show G h_10 2 12 (mkF m 31 #[vr a, vr c1, vi e1] [(.ref o_cp)])
   have A_19 : Ary Z h_10 o_cp .long (ds1.map Value.long) := by have q := f_17; rw [cpl_map rfl] at q; exact q
   exact K.reta d11_31 rfl rfl rfl (by decide) (by decide) ⟨o_cp, ds1, rfl, ((((Keep.refl h []).ext E_2).trans K_7 (allS (Or.inr sb_c1) all0)).trans K_13 all0), sb_o_cp, A_19, by exact ⟨t_e1.2.2, by omega⟩⟩
  ·obtain rfl : js1 = [] := List.eq_nil_of_length_eq_zero (by omega)
   have A_20 : Ary Z h_4 c1 .long (ds1.map Value.long) := by have q := f_8; simpa using q
   refine K.aloadN d11_22 (w':=23) rfl rfl rfl ?_
   refine K.goto d11_23 (by decide) (w':=31) (by decide) ?_
   exact K.reta d11_31 rfl rfl rfl (by decide) (by decide) ⟨c1, ds1, rfl, (((Keep.refl h []).ext E_2).trans K_7 (allS (Or.inr sb_c1) all0)), sb_c1, A_20, by exact ⟨t_e1.2.2, by omega⟩⟩
theorem c_di5 (l : Launch) (Z : State) (a0 : Array Value) (hw : HW a0 Z) (n0 : Nat) (h : Heap) (a : Addr) (x0 : Int64) (x1 : Int64) (x2 : Int64) (x3 : Int64) (x4 : Int64) (Z0 : n0 ≤ h.size) (P2 : Ary Z h a .long [(.long x0), (.long x1), (.long x2), (.long x3), (.long x4)]) (P3 : Exa Z h a "[J") : MeetsW l Z n0 (⟨sR, "distinct", "([J)[J"⟩ : MethodName) B11 3 (some (.array .long)) ({ frames := 5, cells := 2, slots := 13, locals := 102 } : Room) #[(.ref a)] h (fun v h' => ∃ (o : Addr) (ds : List Int64), v = some (.ref o) ∧ Keep h h' [] ∧ h.size ≤ o ∧ Ary Z h' o .long (ds.map Value.long) ∧ (SD ds (fun v => v = x0.toInt ∨ v = x1.toInt ∨ v = x2.toInt ∨ v = x3.toInt ∨ v = x4.toInt) ∧ ds.length ≤ 5)) := by
 refine MeetsW.intro (plainFor_of_name pn_com_example_odograph_odograph_model_Requests) (L0 := #[vr a, un, un]) (fun m => rfl) ?_
 intro m G K0
 have K : Cx l ({ frames := 5, cells := 2, slots := 13, locals := 102 } : Room) Z n0 _ sR "distinct" B11 3 (some (.array .long)) m G := K0
 have hw17 := tb hw (i:=17) rfl
 have hw32 := tb hw (i:=32) rfl
 have hw33 := tb hw (i:=33) rfl
 have hw35 := tb hw (i:=35) rfl
 have hw36 := tb hw (i:=36) rfl
 have hw37 := tb hw (i:=37) rfl
 have hw38 := tb hw (i:=38) rfl
 have hw39 := tb hw (i:=39) rfl
 have hw83 := tb hw (i:=83) rfl
 have hw84 := tb hw (i:=84) rfl
 have hw85 := tb hw (i:=85) rfl
 have hw88 := tb hw (i:=88) rfl
 have hw103 := tb hw (i:=103) rfl
 have hw104 := tb hw (i:=104) rfl
 have hw105 := tb hw (i:=105) rfl
 refine K.aloadN d11_0 (w':=1) rfl rfl rfl ?_
 refine K.clone (.long 0) d11_1 (w':=4) rfl hw32 hw33 hw37 hw35 hw36 hw38 P2 P3 (by simp [fits]) rfl rfl (by decide) (W := 0) (Nat.le_refl _) (by decide) (cap := 5) (by simp) (by decide) (by decide) (fun h_1 c1 g_c1 E_2 A_3 x_c1 => ?_)
 have ge_c1 : n0 ≤ c1 := g_c1 ▸ Z0
 have sb_c1 : h.size ≤ c1 := g_c1 ▸ (Nat.le_refl _)
 refine K.ccast d11_4 (w':=7) rfl hw39 (Ins.self x_c1) ?_
 refine K.astoreN d11_7 (w':=8) rfl rfl (L' := #[vr a, vr c1, un]) rfl ?_
 refine K.aloadN d11_8 (w':=9) rfl rfl rfl ?_
 refine K.iconst d11_9 (w':=10) rfl (z := 0) rfl ?_
 refine K.aloadN d11_10 (w':=11) rfl rfl rfl ?_
 refine K.alen d11_11 (w':=12) rfl A_3 (fun n1 e_n1 => ?_)
 have t_n1 : n1.toInt = 5 := e_n1
 have cs_n1 : n1 = 5 := by
  have q : n1.toInt = 5 := by omega
  rcases q with q
  ·exact eqI q
 rcases cs_n1 with rfl
 ·refine K.calls (argsL := [(.ref c1), (.int 0), (.int 5)]) (rest := []) d11_12 (w':=15) rfl (c_ts5 l Z a0 hw n0 h_1 (a := c1) (x0 := x0) (x1 := x1) (x2 := x2) (x3 := x3) (x4 := x4) A_3 ge_c1) hw83 hw84 hw17 hw85 (by decide) pd_9 rfl rfl (W := 0) (Nat.le_refl _) (by decide) (by decide) (by decide) (by decide) (fun v_6 h_4 q_5 => ?_)
  obtain ⟨e1, ds1, js1, rfl, t_e1, K_7, f_8⟩ := q_5
  show G h_4 1 5 (mkF m 15 #[vr a, vr c1, un] [(.int e1)])
  refine K.istoreN d11_15 (w':=16) rfl (L' := #[vr a, vr c1, vi e1]) rfl ?_
  refine K.iloadN d11_16 (w':=17) rfl rfl ?_
  refine K.aloadN d11_17 (w':=18) rfl rfl rfl ?_
  refine K.alen d11_18 (w':=19) rfl f_8 (fun n2 e_n2 => ?_)
  have t_n2 : n2.toInt = (ds1.length : Int) + js1.length := by simpa using e_n2
  refine K.icmp_ne d11_19 (pc1 := 22) rfl (by decide) (pc2 := 26) (by decide) (a := e1.toInt) (b := n2.toInt) rfl rfl (fun c19 => ?_) (fun c19 => ?_)
  ·refine K.aloadN d11_26 (w':=27) rfl rfl rfl ?_
   refine K.iloadN d11_27 (w':=28) rfl rfl ?_
   have sz_9 := Nat.le_trans Z0 (Nat.le_trans E_2.1 K_7.1)
   refine K.calls (argsL := [(.ref c1), (.int e1)]) (rest := []) d11_28 (w':=31) rfl (c_cpy l Z a0 hw n0 h_4 (a := c1) (mc := e1) (us := ((ds1 ++ js1).map Value.long)) (mm := ds1.length) sz_9 f_8 (by simp only [List.length_map, List.length_append]; omega) (fits_map _)) hw103 hw104 hw88 hw105 (by decide) pd_10 rfl rfl (W := 0) (Nat.le_refl _) (by decide) (by decide) (by decide) (by decide) (fun v_12 h_10 q_11 => ?_)
   obtain ⟨o_cp, rfl, K_13, f_14, f_15, f_16, f_17⟩ := q_11
   have hz_18 : h.size ≤ h_4.size := (Nat.le_trans E_2.1 K_7.1)
   have sb_o_cp : h.size ≤ o_cp := Nat.le_trans hz_18 f_14
   show G h_10 2 13 (mkF m 31 #[vr a, vr c1, vi e1] [(.ref o_cp)])
   have A_19 : Ary Z h_10 o_cp .long (ds1.map Value.long) := by have q := f_17; rw [cpl_map rfl] at q; exact q
   exact K.reta d11_31 rfl rfl rfl (by decide) (by decide) ⟨o_cp, ds1, rfl, ((((Keep.refl h []).ext E_2).trans K_7 (allS (Or.inr sb_c1) all0)).trans K_13 all0), sb_o_cp, A_19, by exact ⟨t_e1.2.2, by omega⟩⟩
  ·obtain rfl : js1 = [] := List.eq_nil_of_length_eq_zero (by omega)
   have A_20 : Ary Z h_4 c1 .long (ds1.map Value.long) := by have q := f_8; simpa using q
   refine K.aloadN d11_22 (w':=23) rfl rfl rfl ?_
   refine K.goto d11_23 (by decide) (w':=31) (by decide) ?_
   exact K.reta d11_31 rfl rfl rfl (by decide) (by decide) ⟨c1, ds1, rfl, (((Keep.refl h []).ext E_2).trans K_7 (allS (Or.inr sb_c1) all0)), sb_c1, A_20, by exact ⟨t_e1.2.2, by omega⟩⟩
theorem d10_0 : decode B10 0 = .ok (.aload_n 0, 1) := by decide +kernel
theorem d10_1 : decode B10 1 = .ok (.getfield 9, 3) := by decide +kernel
theorem d10_4 : decode B10 4 = .ok (.invokestatic 63, 3) := by decide +kernel
theorem pd_11 : parseMethodDescriptor "([J)[J" = some ⟨[(.array .long)], some (.array .long)⟩ := by decide +kernel
theorem d10_7 : decode B10 7 = .ok (.areturn, 1) := by decide +kernel
theorem c_pts (l : Launch) (Z : State) (a0 : Array Value) (hw : HW a0 Z) (n0 : Nat) (h : Heap) (q : Addr) (d : Addr) (r0 : Int64) (r1 : Int64) (Z0 : n0 ≤ h.size) (P2 : Exa Z h q sR) (P3 : Fld Z h q sR "points" "[J" (.ref d)) (P4 : Ary Z h d .long [(.long r0), (.long r1)]) (P5 : Exa Z h d "[J") : MeetsW l Z n0 (⟨sR, "points", "()[J"⟩ : MethodName) B10 1 (some (.array .long)) ({ frames := 6, cells := 2, slots := 10, locals := 116 } : Room) #[(.ref q)] h (fun v h' => ∃ (o : Addr) (ds : List Int64), v = some (.ref o) ∧ Keep h h' [] ∧ h.size ≤ o ∧ Ary Z h' o .long (ds.map Value.long) ∧ (SD ds (fun v => v = r0.toInt ∨ v = r1.toInt) ∧ ds.length ≤ 2)) := by
 refine MeetsW.intro (plainFor_of_name pn_com_example_odograph_odograph_model_Requests) (L0 := #[vr q]) (fun m => rfl) ?_
 intro m G K0
 have K : Cx l ({ frames := 6, cells := 2, slots := 10, locals := 116 } : Room) Z n0 _ sR "points" B10 1 (some (.array .long)) m G := K0
 have hw17 := tb hw (i:=17) rfl
 have hw47 := tb hw (i:=47) rfl
 have hw80 := tb hw (i:=80) rfl
 have hw81 := tb hw (i:=81) rfl
 have hw82 := tb hw (i:=82) rfl
 refine K.aloadN d10_0 (w':=1) rfl rfl rfl ?_
 refine K.getL d10_1 (w':=4) rfl hw47 P3 ?_
 refine K.calls (argsL := [(.ref d)]) (rest := []) d10_4 (w':=7) rfl (c_di2 l Z a0 hw n0 h (a := d) (x0 := r0) (x1 := r1) Z0 P4 P5) hw80 hw81 hw17 hw82 (by decide) pd_11 rfl rfl (W := 0) (Nat.le_refl _) (by decide) (by decide) (by decide) (by decide) (fun v_3 h_1 q_2 => ?_)
 obtain ⟨w_4, ds1, rfl, K_5, f_6, f_7, hsd_w_4⟩ := q_2
 have sb_w_4 : h.size ≤ w_4 := Nat.le_trans (Nat.le_refl _) f_6
 show G h_1 2 10 (mkF m 7 #[vr q] [(.ref w_4)])
 exact K.reta d10_7 rfl rfl rfl (by decide) (by decide) ⟨w_4, ds1, rfl, ((Keep.refl h []).trans K_5 all0), sb_w_4, f_7, by assumption⟩
theorem d9_0 : decode B9 0 = .ok (.aload_n 0, 1) := by decide +kernel
theorem d9_1 : decode B9 1 = .ok (.getfield 64, 3) := by decide +kernel
theorem d9_4 : decode B9 4 = .ok (.invokevirtual 95, 3) := by decide +kernel
theorem pd_12 : parseMethodDescriptor "()[J" = some ⟨[], some (.array .long)⟩ := by decide +kernel
theorem d9_7 : decode B9 7 = .ok (.areturn, 1) := by decide +kernel
theorem c_rpt (l : Launch) (Z : State) (a0 : Array Value) (hw : HW a0 Z) (n0 : Nat) (h : Heap) (a : Addr) (q : Addr) (d : Addr) (r0 : Int64) (r1 : Int64) (Z0 : n0 ≤ h.size) (P2 : Exa Z h a sI) (P3 : Fld Z h a sI "requests" "Lcom/example/odograph/odograph/model/Requests;" (.ref q)) (P4 : Exa Z h q sR) (P5 : Fld Z h q sR "points" "[J" (.ref d)) (P6 : Ary Z h d .long [(.long r0), (.long r1)]) (P7 : Exa Z h d "[J") : MeetsW l Z n0 (⟨sI, "requestedPoints", "()[J"⟩ : MethodName) B9 1 (some (.array .long)) ({ frames := 7, cells := 2, slots := 10, locals := 128 } : Room) #[(.ref a)] h (fun v h' => ∃ (o : Addr) (ds : List Int64), v = some (.ref o) ∧ Keep h h' [] ∧ h.size ≤ o ∧ Ary Z h' o .long (ds.map Value.long) ∧ (SD ds (fun v => v = r0.toInt ∨ v = r1.toInt) ∧ ds.length ≤ 2)) := by
 refine MeetsW.intro (plainFor_of_name pn_com_example_odograph_odograph_model_Instance) (L0 := #[vr a]) (fun m => rfl) ?_
 intro m G K0
 have K : Cx l ({ frames := 7, cells := 2, slots := 10, locals := 128 } : Room) Z n0 _ sI "requestedPoints" B9 1 (some (.array .long)) m G := K0
 have hw17 := tb hw (i:=17) rfl
 have hw63 := tb hw (i:=63) rfl
 have hw75 := tb hw (i:=75) rfl
 have hw76 := tb hw (i:=76) rfl
 have hw77 := tb hw (i:=77) rfl
 have hw78 := tb hw (i:=78) rfl
 have hw79 := tb hw (i:=79) rfl
 refine K.aloadN d9_0 (w':=1) rfl rfl rfl ?_
 refine K.getL d9_1 (w':=4) rfl hw63 P3 ?_
 refine K.callv (z := (⟨sR, "points", "()[J"⟩ : MethodName)) (argsL := []) (rest := []) d9_4 (w':=7) rfl (c_pts l Z a0 hw n0 h (q := q) (d := d) (r0 := r0) (r1 := r1) Z0 P4 P5 P6 P7) P4 hw75 hw76 (nf_sel hw78 rfl) hw78 hw77 hw17 hw79 (by decide) pd_12 rfl rfl (W := 0) (Nat.le_refl _) (by decide) (by decide) (by decide) (by decide) (fun v_3 h_1 q_2 => ?_)
 obtain ⟨w_4, ds1, rfl, K_5, f_6, f_7, hsd_w_4⟩ := q_2
 have sb_w_4 : h.size ≤ w_4 := Nat.le_trans (Nat.le_refl _) f_6
 show G h_1 2 10 (mkF m 7 #[vr a] [(.ref w_4)])
 exact K.reta d9_7 rfl rfl rfl (by decide) (by decide) ⟨w_4, ds1, rfl, ((Keep.refl h []).trans K_5 all0), sb_w_4, f_7, by assumption⟩
theorem d8_0 : decode B8 0 = .ok (.aload_n 0, 1) := by decide +kernel
theorem d8_1 : decode B8 1 = .ok (.invokevirtual 99, 3) := by decide +kernel
theorem d8_4 : decode B8 4 = .ok (.astore_n 1, 1) := by decide +kernel
theorem d8_5 : decode B8 5 = .ok (.aload_n 0, 1) := by decide +kernel
theorem d8_6 : decode B8 6 = .ok (.getfield 61, 3) := by decide +kernel
theorem d8_9 : decode B8 9 = .ok (.ifnull 37, 3) := by decide +kernel
theorem d8_46 : decode B8 46 = .ok (.aload_n 1, 1) := by decide +kernel
theorem d8_47 : decode B8 47 = .ok (.areturn, 1) := by decide +kernel
theorem c_npc (l : Launch) (Z : State) (a0 : Array Value) (hw : HW a0 Z) (n0 : Nat) (h : Heap) (a : Addr) (q : Addr) (d : Addr) (r0 : Int64) (r1 : Int64) (Z0 : n0 ≤ h.size) (P2 : Exa Z h a sI) (P3 : Fld Z h a sI "requests" "Lcom/example/odograph/odograph/model/Requests;" (.ref q)) (P4 : Exa Z h q sR) (P5 : Fld Z h q sR "points" "[J" (.ref d)) (P6 : Ary Z h d .long [(.long r0), (.long r1)]) (P7 : Exa Z h d "[J") (P8 : Fld Z h a sI "start" "[J" .null) : MeetsW l Z n0 (⟨sI, "namedPoints", "()[J"⟩ : MethodName) B8 3 (some (.array .long)) ({ frames := 8, cells := 2, slots := 10, locals := 140 } : Room) #[(.ref a)] h (fun v h' => ∃ (o : Addr) (ds : List Int64), v = some (.ref o) ∧ Keep h h' [] ∧ h.size ≤ o ∧ Ary Z h' o .long (ds.map Value.long) ∧ (SD ds (fun v => v = r0.toInt ∨ v = r1.toInt) ∧ ds.length ≤ 2)) := by
 refine MeetsW.intro (plainFor_of_name pn_com_example_odograph_odograph_model_Instance) (L0 := #[vr a, un, un]) (fun m => rfl) ?_
 intro m G K0
 have K : Cx l ({ frames := 8, cells := 2, slots := 10, locals := 140 } : Room) Z n0 _ sI "namedPoints" B8 3 (some (.array .long)) m G := K0
 have hw11 := tb hw (i:=11) rfl
 have hw61 := tb hw (i:=61) rfl
 have hw70 := tb hw (i:=70) rfl
 have hw71 := tb hw (i:=71) rfl
 have hw72 := tb hw (i:=72) rfl
 have hw73 := tb hw (i:=73) rfl
 have hw74 := tb hw (i:=74) rfl
 refine K.aloadN d8_0 (w':=1) rfl rfl rfl ?_
 refine K.callv (z := (⟨sI, "requestedPoints", "()[J"⟩ : MethodName)) (argsL := []) (rest := []) d8_1 (w':=4) rfl (c_rpt l Z a0 hw n0 h (a := a) (q := q) (d := d) (r0 := r0) (r1 := r1) Z0 P2 P3 P4 P5 P6 P7) P2 hw70 hw71 (nf_sel hw73 rfl) hw73 hw72 hw11 hw74 (by decide) pd_12 rfl rfl (W := 0) (Nat.le_refl _) (by decide) (by decide) (by decide) (by decide) (fun v_3 h_1 q_2 => ?_)
 obtain ⟨w_4, ds1, rfl, K_5, f_6, f_7, hsd_w_4⟩ := q_2
 have sb_w_4 : h.size ≤ w_4 := Nat.le_trans (Nat.le_refl _) f_6
 show G h_1 2 10 (mkF m 4 #[vr a, un, un] [(.ref w_4)])
 refine K.astoreN d8_4 (w':=5) rfl rfl (L' := #[vr a, vr w_4, un]) rfl ?_
 refine K.aloadN d8_5 (w':=6) rfl rfl rfl ?_
 have f_8 := (P8.keep K_5 nin0)
 refine K.getL d8_6 (w':=9) rfl hw61 f_8 ?_
 refine K.ifnull0 d8_9 (by decide) (pc2 := 46) (by decide) ?_
 refine K.aloadN d8_46 (w':=47) rfl rfl rfl ?_
 exact K.reta d8_47 rfl rfl rfl (by decide) (by decide) ⟨w_4, ds1, rfl, ((Keep.refl h []).trans K_5 all0), sb_w_4, f_7, by assumption⟩
theorem SD_in {ds es : List Int64} {P : Int → Prop} {R : Int → Prop} {T : Int → Prop} (h : SD ds R) (he : SD es P) (hR : ∀ v, R v ↔ ((∃ d ∈ es, d.toInt = v) ∨ T v)) : SD ds (fun v => P v ∨ T v) := ⟨h.1, fun v => (h.2 v).trans ((hR v).trans (or_congr_left (he.2 v)))⟩
theorem d8_12 : decode B8 12 = .ok (.aload_n 1, 1) := by decide +kernel
theorem d8_13 : decode B8 13 = .ok (.aload_n 1, 1) := by decide +kernel
theorem d8_14 : decode B8 14 = .ok (.arraylength, 1) := by decide +kernel
theorem d8_15 : decode B8 15 = .ok (.aload_n 0, 1) := by decide +kernel
theorem d8_16 : decode B8 16 = .ok (.getfield 61, 3) := by decide +kernel
theorem d8_19 : decode B8 19 = .ok (.arraylength, 1) := by decide +kernel
theorem d8_20 : decode B8 20 = .ok (.iadd, 1) := by decide +kernel
theorem d8_21 : decode B8 21 = .ok (.invokestatic 102, 3) := by decide +kernel
theorem d8_24 : decode B8 24 = .ok (.astore_n 2, 1) := by decide +kernel
theorem d8_25 : decode B8 25 = .ok (.aload_n 0, 1) := by decide +kernel
theorem d8_26 : decode B8 26 = .ok (.getfield 61, 3) := by decide +kernel
theorem d8_29 : decode B8 29 = .ok (.iconst 0, 1) := by decide +kernel
theorem d8_30 : decode B8 30 = .ok (.aload_n 2, 1) := by decide +kernel
theorem d8_31 : decode B8 31 = .ok (.aload_n 1, 1) := by decide +kernel
theorem d8_32 : decode B8 32 = .ok (.arraylength, 1) := by decide +kernel
theorem d8_33 : decode B8 33 = .ok (.aload_n 0, 1) := by decide +kernel
theorem d8_34 : decode B8 34 = .ok (.getfield 61, 3) := by decide +kernel
theorem d8_37 : decode B8 37 = .ok (.arraylength, 1) := by decide +kernel
theorem d8_38 : decode B8 38 = .ok (.invokestatic 108, 3) := by decide +kernel
theorem d8_41 : decode B8 41 = .ok (.aload_n 2, 1) := by decide +kernel
theorem d8_42 : decode B8 42 = .ok (.invokestatic 114, 3) := by decide +kernel
theorem d8_45 : decode B8 45 = .ok (.astore_n 1, 1) := by decide +kernel
theorem c_npw (l : Launch) (Z : State) (a0 : Array Value) (hw : HW a0 Z) (n0 : Nat) (h : Heap) (a : Addr) (q : Addr) (d : Addr) (s : Addr) (r0 : Int64) (r1 : Int64) (s0 : Int64) (s1 : Int64) (s2 : Int64) (Z0 : n0 ≤ h.size) (P2 : Exa Z h a sI) (P3 : Fld Z h a sI "requests" "Lcom/example/odograph/odograph/model/Requests;" (.ref q)) (P4 : Exa Z h q sR) (P5 : Fld Z h q sR "points" "[J" (.ref d)) (P6 : Ary Z h d .long [(.long r0), (.long r1)]) (P7 : Exa Z h d "[J") (P8 : Fld Z h a sI "start" "[J" (.ref s)) (P9 : Ary Z h s .long [(.long s0), (.long s1), (.long s2)]) : MeetsW l Z n0 (⟨sI, "namedPoints", "()[J"⟩ : MethodName) B8 3 (some (.array .long)) ({ frames := 8, cells := 5, slots := 31, locals := 140 } : Room) #[(.ref a)] h (fun v h' => ∃ (o : Addr) (ds : List Int64), v = some (.ref o) ∧ Keep h h' [] ∧ h.size ≤ o ∧ Ary Z h' o .long (ds.map Value.long) ∧ (SD ds (fun v => (v = r0.toInt ∨ v = r1.toInt) ∨ (v = s0.toInt ∨ v = s1.toInt ∨ v = s2.toInt)))) := by
 refine MeetsW.intro (plainFor_of_name pn_com_example_odograph_odograph_model_Instance) (L0 := #[vr a, un, un]) (fun m => rfl) ?_
 intro m G K0
 have K : Cx l ({ frames := 8, cells := 5, slots := 31, locals := 140 } : Room) Z n0 _ sI "namedPoints" B8 3 (some (.array .long)) m G := K0
 have hw11 := tb hw (i:=11) rfl
 have hw17 := tb hw (i:=17) rfl
 have hw61 := tb hw (i:=61) rfl
 have hw70 := tb hw (i:=70) rfl
 have hw71 := tb hw (i:=71) rfl
 have hw72 := tb hw (i:=72) rfl
 have hw73 := tb hw (i:=73) rfl
 have hw74 := tb hw (i:=74) rfl
 have hw81 := tb hw (i:=81) rfl
 have hw82 := tb hw (i:=82) rfl
 have hw88 := tb hw (i:=88) rfl
 have hw104 := tb hw (i:=104) rfl
 have hw105 := tb hw (i:=105) rfl
 have hw111 := tb hw (i:=111) rfl
 have hw112 := tb hw (i:=112) rfl
 have hw113 := tb hw (i:=113) rfl
 have hw114 := tb hw (i:=114) rfl
 have hw115 := tb hw (i:=115) rfl
 have hw116 := tb hw (i:=116) rfl
 refine K.aloadN d8_0 (w':=1) rfl rfl rfl ?_
 refine K.callv (z := (⟨sI, "requestedPoints", "()[J"⟩ : MethodName)) (argsL := []) (rest := []) d8_1 (w':=4) rfl (c_rpt l Z a0 hw n0 h (a := a) (q := q) (d := d) (r0 := r0) (r1 := r1) Z0 P2 P3 P4 P5 P6 P7) P2 hw70 hw71 (nf_sel hw73 rfl) hw73 hw72 hw11 hw74 (by decide) pd_12 rfl rfl (W := 0) (Nat.le_refl _) (by decide) (by decide) (by decide) (by decide) (fun v_3 h_1 q_2 => ?_)
 obtain ⟨N, ds1, rfl, K_4, f_5, f_6, hsd_N⟩ := q_2
 have sb_N : h.size ≤ N := Nat.le_trans (Nat.le_refl _) f_5
 show G h_1 2 10 (mkF m 4 #[vr a, un, un] [(.ref N)])
 refine K.astoreN d8_4 (w':=5) rfl rfl (L' := #[vr a, vr N, un]) rfl ?_
 refine K.aloadN d8_5 (w':=6) rfl rfl rfl ?_
 have f_7 := (P8.keep K_4 nin0)
 refine K.getL d8_6 (w':=9) rfl hw61 f_7 ?_
 refine K.ifnull1 d8_9 (w':=12) rfl ?_
 rcases len2 hsd_N.1 hsd_N.2 with ⟨d0, rfl⟩ | ⟨d0, d1, rfl⟩
 ·have A_8 : Ary Z h_1 N .long [.long d0] := f_6
  refine K.aloadN d8_12 (w':=13) rfl rfl rfl ?_
  refine K.aloadN d8_13 (w':=14) rfl rfl rfl ?_
  refine K.alen d8_14 (w':=15) rfl A_8 (fun z14 e_z14 => ?_)
  have t_z14 : z14.toInt = 1 := e_z14
  refine K.aloadN d8_15 (w':=16) rfl rfl rfl ?_
  refine K.getL d8_16 (w':=19) rfl hw61 f_7 ?_
  have f_9 := (P9.keep K_4 nin0)
  refine K.alen d8_19 (w':=20) rfl f_9 (fun z19 e_z19 => ?_)
  have t_z19 : z19.toInt = 3 := e_z19
  obtain ⟨n5, e_n5⟩ : ∃ z, z14 + z19 = z := ⟨_, rfl⟩
  have r_n5 : (n5.toInt - (z14.toInt + z19.toInt)) % 4294967296 = 0 := by have q := c_iadd z14 z19; rw [e_n5] at q; exact q
  have g_n5 := rng32 n5
  have t_n5 : n5.toInt = 4 := by omega
  clear r_n5
  clear g_n5
  refine K.iadd d8_20 (w':=21) rfl e_n5 ?_
  have cs_n5 : n5 = 4 := by
   have q : n5.toInt = 4 := by omega
   rcases q with q
   ·exact eqI q
  rcases cs_n5 with rfl
  ·have sz_10 := Nat.le_trans Z0 K_4.1
   refine K.calls (argsL := [(.ref N), (.int 4)]) (rest := []) d8_21 (w':=24) rfl (c_cpy l Z a0 hw n0 h_1 (a := N) (mc := (4 : Int32)) (us := [(.long d0)]) (mm := 4) sz_10 A_8 (by simp <;> decide) (by simp [fits])) hw114 hw104 hw88 hw105 (by decide) pd_10 rfl rfl (W := 0) (Nat.le_refl _) (by decide) (by decide) (by decide) (by decide) (fun v_13 h_11 q_12 => ?_)
   obtain ⟨bo, rfl, K_14, f_15, f_16, f_17, f_18⟩ := q_12
   have hz_19 : h.size ≤ h_1.size := K_4.1
   have sb_bo : h.size ≤ bo := Nat.le_trans hz_19 f_15
   show G h_11 3 18 (mkF m 24 #[vr a, vr N, un] [(.ref bo)])
   have A_20 : Ary Z h_11 bo .long [.long d0, .long 0, .long 0, .long 0] := f_18
   refine K.astoreN d8_24 (w':=25) rfl rfl (L' := #[vr a, vr N, vr bo]) rfl ?_
   refine K.aloadN d8_25 (w':=26) rfl rfl rfl ?_
   have f_21 := (f_7.keep K_14 nin0)
   refine K.getL d8_26 (w':=29) rfl hw61 f_21 ?_
   refine K.iconst d8_29 (w':=30) rfl (z := 0) rfl ?_
   refine K.aloadN d8_30 (w':=31) rfl rfl rfl ?_
   refine K.aloadN d8_31 (w':=32) rfl rfl rfl ?_
   have f_22 := (A_8.keep K_14 nin0)
   refine K.alen d8_32 (w':=33) rfl f_22 (fun n6 e_n6 => ?_)
   have t_n6 : n6.toInt = 1 := e_n6
   refine K.aloadN d8_33 (w':=34) rfl rfl rfl ?_
   refine K.getL d8_34 (w':=37) rfl hw61 f_21 ?_
   have f_23 := (f_9.keep K_14 nin0)
   refine K.alen d8_37 (w':=38) rfl f_23 (fun n7 e_n7 => ?_)
   have t_n7 : n7.toInt = 3 := e_n7
   have cs_n6 : n6 = 1 := by
    have q : n6.toInt = 1 := by omega
    rcases q with q
    ·exact eqI q
   rcases cs_n6 with rfl
   ·have cs_n7 : n7 = 3 := by
     have q : n7.toInt = 3 := by omega
     rcases q with q
     ·exact eqI q
    rcases cs_n7 with rfl
    ·refine K.acopy (.long 0) d8_38 (w':=41) rfl hw115 hw113 hw111 hw112 f_23 A_20 rfl (by simp [fits]) (by simp [fits]) rfl (i := 0) rfl (j := 1) rfl (k := 3) rfl (by simp) (by simp) f_16 rfl (by decide) (W := 0) (Nat.le_refl _) (by decide) (fun h_24 K_25 A_26 => ?_)
     have A_27 : Ary Z h_24 bo .long [(.long d0), (.long s0), (.long s1), (.long s2)] := A_26
     refine K.aloadN d8_41 (w':=42) rfl rfl rfl ?_
     have sz_28 := Nat.le_trans sz_10 (Nat.le_trans K_14.1 K_25.1)
     have f_29 := (f_17.keep K_25)
     refine K.calls (argsL := [(.ref bo)]) (rest := []) d8_42 (w':=45) rfl (c_di4 l Z a0 hw n0 h_24 (a := bo) (x0 := d0) (x1 := s0) (x2 := s1) (x3 := s2) sz_28 A_27 f_29) hw116 hw81 hw17 hw82 (by decide) pd_11 rfl rfl (W := 0) (Nat.le_refl _) (by decide) (by decide) (by decide) (by decide) (fun v_32 h_30 q_31 => ?_)
     obtain ⟨D, ds2, rfl, K_33, f_34, f_35, hsd_D⟩ := q_31
     have hz_36 : h.size ≤ h_24.size := Nat.le_trans hz_19 (Nat.le_trans K_14.1 K_25.1)
     have sb_D : h.size ≤ D := Nat.le_trans hz_36 f_34
     show G h_30 5 30 (mkF m 45 #[vr a, vr N, vr bo] [(.ref D)])
     refine K.astoreN d8_45 (w':=46) rfl rfl (L' := #[vr a, vr D, vr bo]) rfl ?_
     refine K.aloadN d8_46 (w':=47) rfl rfl rfl ?_
     exact K.reta d8_47 rfl rfl rfl (by decide) (by decide) ⟨D, ds2, rfl, (((((Keep.refl h []).trans K_4 all0).trans K_14 all0).trans K_25 (allS (Or.inr sb_bo) all0)).trans K_33 all0), sb_D, f_35, by exact SD_in hsd_D.1 hsd_N.1 (fun v => by simp only [List.mem_cons, List.not_mem_nil, or_false, exists_eq_or_imp, exists_eq_left]; constructor <;> (intro q; omega))⟩
 ·have A_37 : Ary Z h_1 N .long [.long d0, .long d1] := f_6
  refine K.aloadN d8_12 (w':=13) rfl rfl rfl ?_
  refine K.aloadN d8_13 (w':=14) rfl rfl rfl ?_
  refine K.alen d8_14 (w':=15) rfl A_37 (fun z14 e_z14 => ?_)
  have t_z14 : z14.toInt = 2 := e_z14
  refine K.aloadN d8_15 (w':=16) rfl rfl rfl ?_
  refine K.getL d8_16 (w':=19) rfl hw61 f_7 ?_
  have f_38 := (P9.keep K_4 nin0)
  refine K.alen d8_19 (w':=20) rfl f_38 (fun z19 e_z19 => ?_)
  have t_z19 : z19.toInt = 3 := e_z19
  obtain ⟨n5, e_n5⟩ : ∃ z, z14 + z19 = z := ⟨_, rfl⟩
  have r_n5 : (n5.toInt - (z14.toInt + z19.toInt)) % 4294967296 = 0 := by have q := c_iadd z14 z19; rw [e_n5] at q; exact q
  have g_n5 := rng32 n5
  have t_n5 : n5.toInt = 5 := by omega
  clear r_n5
  clear g_n5
  refine K.iadd d8_20 (w':=21) rfl e_n5 ?_
  have cs_n5 : n5 = 5 := by
   have q : n5.toInt = 5 := by omega
   rcases q with q
   ·exact eqI q
  rcases cs_n5 with rfl
  ·have sz_39 := Nat.le_trans Z0 K_4.1
   refine K.calls (argsL := [(.ref N), (.int 5)]) (rest := []) d8_21 (w':=24) rfl (c_cpy l Z a0 hw n0 h_1 (a := N) (mc := (5 : Int32)) (us := [(.long d0), (.long d1)]) (mm := 5) sz_39 A_37 (by simp <;> decide) (by simp [fits])) hw114 hw104 hw88 hw105 (by decide) pd_10 rfl rfl (W := 0) (Nat.le_refl _) (by decide) (by decide) (by decide) (by decide) (fun v_42 h_40 q_41 => ?_)
   obtain ⟨bo, rfl, K_43, f_44, f_45, f_46, f_47⟩ := q_41
   have hz_48 : h.size ≤ h_1.size := K_4.1
   have sb_bo : h.size ≤ bo := Nat.le_trans hz_48 f_44
   show G h_40 3 18 (mkF m 24 #[vr a, vr N, un] [(.ref bo)])
   have A_49 : Ary Z h_40 bo .long [.long d0, .long d1, .long 0, .long 0, .long 0] := f_47
   refine K.astoreN d8_24 (w':=25) rfl rfl (L' := #[vr a, vr N, vr bo]) rfl ?_
   refine K.aloadN d8_25 (w':=26) rfl rfl rfl ?_
   have f_50 := (f_7.keep K_43 nin0)
   refine K.getL d8_26 (w':=29) rfl hw61 f_50 ?_
   refine K.iconst d8_29 (w':=30) rfl (z := 0) rfl ?_
   refine K.aloadN d8_30 (w':=31) rfl rfl rfl ?_
   refine K.aloadN d8_31 (w':=32) rfl rfl rfl ?_
   have f_51 := (A_37.keep K_43 nin0)
   refine K.alen d8_32 (w':=33) rfl f_51 (fun n6 e_n6 => ?_)
   have t_n6 : n6.toInt = 2 := e_n6
   refine K.aloadN d8_33 (w':=34) rfl rfl rfl ?_
   refine K.getL d8_34 (w':=37) rfl hw61 f_50 ?_
   have f_52 := (f_38.keep K_43 nin0)
   refine K.alen d8_37 (w':=38) rfl f_52 (fun n7 e_n7 => ?_)
   have t_n7 : n7.toInt = 3 := e_n7
   have cs_n6 : n6 = 2 := by
    have q : n6.toInt = 2 := by omega
    rcases q with q
    ·exact eqI q
   rcases cs_n6 with rfl
   ·have cs_n7 : n7 = 3 := by
     have q : n7.toInt = 3 := by omega
     rcases q with q
     ·exact eqI q
    rcases cs_n7 with rfl
    ·refine K.acopy (.long 0) d8_38 (w':=41) rfl hw115 hw113 hw111 hw112 f_52 A_49 rfl (by simp [fits]) (by simp [fits]) rfl (i := 0) rfl (j := 2) rfl (k := 3) rfl (by simp) (by simp) f_45 rfl (by decide) (W := 0) (Nat.le_refl _) (by decide) (fun h_53 K_54 A_55 => ?_)
     have A_56 : Ary Z h_53 bo .long [(.long d0), (.long d1), (.long s0), (.long s1), (.long s2)] := A_55
     refine K.aloadN d8_41 (w':=42) rfl rfl rfl ?_
     have sz_57 := Nat.le_trans sz_39 (Nat.le_trans K_43.1 K_54.1)
     have f_58 := (f_46.keep K_54)
     refine K.calls (argsL := [(.ref bo)]) (rest := []) d8_42 (w':=45) rfl (c_di5 l Z a0 hw n0 h_53 (a := bo) (x0 := d0) (x1 := d1) (x2 := s0) (x3 := s1) (x4 := s2) sz_57 A_56 f_58) hw116 hw81 hw17 hw82 (by decide) pd_11 rfl rfl (W := 0) (Nat.le_refl _) (by decide) (by decide) (by decide) (by decide) (fun v_61 h_59 q_60 => ?_)
     obtain ⟨D, ds2, rfl, K_62, f_63, f_64, hsd_D⟩ := q_60
     have hz_65 : h.size ≤ h_53.size := Nat.le_trans hz_48 (Nat.le_trans K_43.1 K_54.1)
     have sb_D : h.size ≤ D := Nat.le_trans hz_65 f_63
     show G h_59 5 31 (mkF m 45 #[vr a, vr N, vr bo] [(.ref D)])
     refine K.astoreN d8_45 (w':=46) rfl rfl (L' := #[vr a, vr D, vr bo]) rfl ?_
     refine K.aloadN d8_46 (w':=47) rfl rfl rfl ?_
     exact K.reta d8_47 rfl rfl rfl (by decide) (by decide) ⟨D, ds2, rfl, (((((Keep.refl h []).trans K_4 all0).trans K_43 all0).trans K_54 (allS (Or.inr sb_bo) all0)).trans K_62 all0), sb_D, f_64, by exact SD_in hsd_D.1 hsd_N.1 (fun v => by simp only [List.mem_cons, List.not_mem_nil, or_false, exists_eq_or_imp, exists_eq_left]; constructor <;> (intro q; omega))⟩
theorem d24_0 : decode B24 0 = .ok (.iload_n 1, 1) := by decide +kernel
theorem d24_1 : decode B24 1 = .ok (.istore 5, 2) := by decide +kernel
theorem d24_3 : decode B24 3 = .ok (.iload_n 2, 1) := by decide +kernel
theorem d24_4 : decode B24 4 = .ok (.iconst 1, 1) := by decide +kernel
theorem d24_5 : decode B24 5 = .ok (.isub, 1) := by decide +kernel
theorem d24_6 : decode B24 6 = .ok (.istore 6, 2) := by decide +kernel
theorem d24_8 : decode B24 8 = .ok (.iload 5, 2) := by decide +kernel
theorem d24_10 : decode B24 10 = .ok (.iload 6, 2) := by decide +kernel
theorem d24_12 : decode B24 12 = .ok (.if_icmp .gt 56, 3) := by decide +kernel
theorem d24_15 : decode B24 15 = .ok (.iload 5, 2) := by decide +kernel
theorem d24_17 : decode B24 17 = .ok (.iload 6, 2) := by decide +kernel
theorem d24_19 : decode B24 19 = .ok (.iadd, 1) := by decide +kernel
theorem d24_20 : decode B24 20 = .ok (.iconst 1, 1) := by decide +kernel
theorem d24_21 : decode B24 21 = .ok (.iushr, 1) := by decide +kernel
theorem d24_22 : decode B24 22 = .ok (.istore 7, 2) := by decide +kernel
theorem d24_24 : decode B24 24 = .ok (.aload_n 0, 1) := by decide +kernel
theorem d24_25 : decode B24 25 = .ok (.iload 7, 2) := by decide +kernel
theorem d24_27 : decode B24 27 = .ok (.laload, 1) := by decide +kernel
theorem d24_28 : decode B24 28 = .ok (.lstore 8, 2) := by decide +kernel
theorem d24_30 : decode B24 30 = .ok (.lload 8, 2) := by decide +kernel
theorem d24_32 : decode B24 32 = .ok (.lload_n 3, 1) := by decide +kernel
theorem d24_33 : decode B24 33 = .ok (.lcmp, 1) := by decide +kernel
theorem d24_34 : decode B24 34 = .ok (.ifCond .ge 12, 3) := by decide +kernel
theorem d24_46 : decode B24 46 = .ok (.lload 8, 2) := by decide +kernel
theorem d24_48 : decode B24 48 = .ok (.lload_n 3, 1) := by decide +kernel
theorem d24_49 : decode B24 49 = .ok (.lcmp, 1) := by decide +kernel
theorem d24_50 : decode B24 50 = .ok (.ifCond .le 12, 3) := by decide +kernel
theorem d24_62 : decode B24 62 = .ok (.iload 7, 2) := by decide +kernel
theorem d24_64 : decode B24 64 = .ok (.ireturn, 1) := by decide +kernel
theorem d24_53 : decode B24 53 = .ok (.iload 7, 2) := by decide +kernel
theorem d24_55 : decode B24 55 = .ok (.iconst 1, 1) := by decide +kernel
theorem d24_56 : decode B24 56 = .ok (.isub, 1) := by decide +kernel
theorem d24_57 : decode B24 57 = .ok (.istore 6, 2) := by decide +kernel
theorem d24_59 : decode B24 59 = .ok (.goto 6, 3) := by decide +kernel
theorem d24_65 : decode B24 65 = .ok (.goto (-57), 3) := by decide +kernel
theorem d24_37 : decode B24 37 = .ok (.iload 7, 2) := by decide +kernel
theorem d24_39 : decode B24 39 = .ok (.iconst 1, 1) := by decide +kernel
theorem d24_40 : decode B24 40 = .ok (.iadd, 1) := by decide +kernel
theorem d24_41 : decode B24 41 = .ok (.istore 5, 2) := by decide +kernel
theorem d24_43 : decode B24 43 = .ok (.goto 22, 3) := by decide +kernel
theorem c_b0_1 (l : Launch) (Z : State) (a0 : Array Value) (hw : HW a0 Z) (n0 : Nat) (h : Heap) (a : Addr) (key : Int64) (x0 : Int64) (P1 : Ary Z h a .long [(.long x0)]) (hin : True) (hk : key.toInt = x0.toInt) : MeetsW l Z n0 (⟨"java/util/Arrays", "binarySearch0", "([JIIJ)I"⟩ : MethodName) B24 10 (some .int) ({ frames := 0, cells := 0, slots := 0, locals := 0 } : Room) #[(.ref a), (.int 0), (.int 1), (.long key)] h (fun v h' => ∃ (z : Int32), v = some (.int z) ∧ ((z.toInt = 0 ∧ key.toInt = x0.toInt)) ∧ h = h') := by
 refine MeetsW.intro (plainFor_of_name pn_java_util_Arrays) (L0 := #[vr a, vi 0, vi 1, vj key, se, un, un, un, un, un]) (fun m => by first | (simp [entryFrame, mkF, argsToLocals, Value.category]; done) | rfl) ?_
 intro m G K0
 have K : Cx l ({ frames := 0, cells := 0, slots := 0, locals := 0 } : Room) Z n0 _ "java/util/Arrays" "binarySearch0" B24 10 (some .int) m G := K0
 refine K.iloadN d24_0 (w':=1) rfl rfl ?_
 refine K.istore d24_1 (w':=3) rfl (L' := #[vr a, vi 0, vi 1, vj key, se, vi 0, un, un, un, un]) rfl ?_
 refine K.iloadN d24_3 (w':=4) rfl rfl ?_
 refine K.iconst d24_4 (w':=5) rfl (z := 1) rfl ?_
 refine K.isub d24_5 (w':=6) rfl (z := (0 : Int32)) (by decide) ?_
 refine K.istore d24_6 (w':=8) rfl (L' := #[vr a, vi 0, vi 1, vj key, se, vi 0, vi 0, un, un, un]) rfl ?_
 refine K.iload d24_8 (w':=10) rfl rfl ?_
 refine K.iload d24_10 (w':=12) rfl rfl ?_
 refine K.icmp_gt d24_12 (pc1 := 15) rfl (by decide) (pc2 := 68) (by decide) (a := 0) (b := 0) rfl rfl (fun c12 => ?_) (fun c12 => ?_)
 ·exfalso; omega
 ·refine K.iload d24_15 (w':=17) rfl rfl ?_
  refine K.iload d24_17 (w':=19) rfl rfl ?_
  refine K.iadd d24_19 (w':=20) rfl (z := (0 : Int32)) (by decide) ?_
  refine K.iconst d24_20 (w':=21) rfl (z := 1) rfl ?_
  refine K.iushr d24_21 (w':=22) rfl (z := (0 : Int32)) (by decide) ?_
  refine K.istore d24_22 (w':=24) rfl (L' := #[vr a, vi 0, vi 1, vj key, se, vi 0, vi 0, vi 0, un, un]) rfl ?_
  refine K.aloadN d24_24 (w':=25) rfl rfl rfl ?_
  refine K.iload d24_25 (w':=27) rfl rfl ?_
  refine K.lald d24_27 (w':=28) rfl P1 (i := 0) rfl rfl ?_
  refine K.lstore d24_28 (w':=30) rfl (L' := #[vr a, vi 0, vi 1, vj key, se, vi 0, vi 0, vi 0, vj x0, se]) rfl ?_
  refine K.lload d24_30 (w':=32) rfl rfl ?_
  refine K.lloadN d24_32 (w':=33) rfl rfl ?_
  refine K.lcmp_ge d24_33 d24_34 (pc1 := 37) rfl (by decide) (pc2 := 46) (by decide) (a := x0.toInt) (b := key.toInt) rfl rfl (fun c33 => ?_) (fun c33 => ?_)
  ·refine K.lload d24_46 (w':=48) rfl rfl ?_
   refine K.lloadN d24_48 (w':=49) rfl rfl ?_
   refine K.lcmp_le d24_49 d24_50 (pc1 := 53) rfl (by decide) (pc2 := 62) (by decide) (a := x0.toInt) (b := key.toInt) rfl rfl (fun c49 => ?_) (fun c49 => ?_)
   ·refine K.iload d24_62 (w':=64) rfl rfl ?_
    exact K.reti d24_64 (by decide) (by decide) ⟨(0 : Int32), rfl, by have ev : (0 : Int32).toInt = 0 := rfl; first | omega | (omega), rfl⟩
   ·refine K.iload d24_53 (w':=55) rfl rfl ?_
    refine K.iconst d24_55 (w':=56) rfl (z := 1) rfl ?_
    refine K.isub d24_56 (w':=57) rfl (z := (-1 : Int32)) (by decide) ?_
    refine K.istore d24_57 (w':=59) rfl (L' := #[vr a, vi 0, vi 1, vj key, se, vi 0, vi (-1), vi 0, vj x0, se]) rfl ?_
    refine K.goto d24_59 (by decide) (w':=65) (by decide) ?_
    refine K.goto d24_65 (by decide) (w':=8) (by decide) ?_
    refine K.iload d24_8 (w':=10) rfl rfl ?_
    refine K.iload d24_10 (w':=12) rfl rfl ?_
    refine K.icmp_gt d24_12 (pc1 := 15) rfl (by decide) (pc2 := 68) (by decide) (a := 0) (b := (-1)) rfl rfl (fun c12_1 => ?_) (fun c12_1 => ?_)
    ·exfalso; omega
    ·exfalso; omega
  ·refine K.iload d24_37 (w':=39) rfl rfl ?_
   refine K.iconst d24_39 (w':=40) rfl (z := 1) rfl ?_
   refine K.iadd d24_40 (w':=41) rfl (z := (1 : Int32)) (by decide) ?_
   refine K.istore d24_41 (w':=43) rfl (L' := #[vr a, vi 0, vi 1, vj key, se, vi 1, vi 0, vi 0, vj x0, se]) rfl ?_
   refine K.goto d24_43 (by decide) (w':=65) (by decide) ?_
   refine K.goto d24_65 (by decide) (w':=8) (by decide) ?_
   refine K.iload d24_8 (w':=10) rfl rfl ?_
   refine K.iload d24_10 (w':=12) rfl rfl ?_
   refine K.icmp_gt d24_12 (pc1 := 15) rfl (by decide) (pc2 := 68) (by decide) (a := 1) (b := 0) rfl rfl (fun c12_1 => ?_) (fun c12_1 => ?_)
   ·exfalso; omega
   ·exfalso; omega
theorem d23_0 : decode B23 0 = .ok (.aload_n 0, 1) := by decide +kernel
theorem d23_1 : decode B23 1 = .ok (.iconst 0, 1) := by decide +kernel
theorem d23_2 : decode B23 2 = .ok (.aload_n 0, 1) := by decide +kernel
theorem d23_3 : decode B23 3 = .ok (.arraylength, 1) := by decide +kernel
theorem d23_4 : decode B23 4 = .ok (.lload_n 1, 1) := by decide +kernel
theorem d23_5 : decode B23 5 = .ok (.invokestatic 205, 3) := by decide +kernel
theorem pd_13 : parseMethodDescriptor "([JIIJ)I" = some ⟨[(.array .long), .int, .int, .long], some .int⟩ := by decide +kernel
theorem d23_8 : decode B23 8 = .ok (.ireturn, 1) := by decide +kernel
theorem c_b1 (l : Launch) (Z : State) (a0 : Array Value) (hw : HW a0 Z) (n0 : Nat) (h : Heap) (a : Addr) (key : Int64) (x0 : Int64) (P1 : Ary Z h a .long [(.long x0)]) (hin : True) (hk : key.toInt = x0.toInt) : MeetsW l Z n0 (⟨"java/util/Arrays", "binarySearch", "([JJ)I"⟩ : MethodName) B23 3 (some .int) ({ frames := 1, cells := 0, slots := 0, locals := 21 } : Room) #[(.ref a), (.long key)] h (fun v h' => ∃ (z : Int32), v = some (.int z) ∧ ((z.toInt = 0 ∧ key.toInt = x0.toInt)) ∧ h = h') := by
 refine MeetsW.intro (plainFor_of_name pn_java_util_Arrays) (L0 := #[vr a, vj key, se]) (fun m => rfl) ?_
 intro m G K0
 have K : Cx l ({ frames := 1, cells := 0, slots := 0, locals := 21 } : Room) Z n0 _ "java/util/Arrays" "binarySearch" B23 3 (some .int) m G := K0
 have hw88 := tb hw (i:=88) rfl
 have hw137 := tb hw (i:=137) rfl
 have hw138 := tb hw (i:=138) rfl
 have hw139 := tb hw (i:=139) rfl
 refine K.aloadN d23_0 (w':=1) rfl rfl rfl ?_
 refine K.iconst d23_1 (w':=2) rfl (z := 0) rfl ?_
 refine K.aloadN d23_2 (w':=3) rfl rfl rfl ?_
 refine K.alen d23_3 (w':=4) rfl P1 (fun n1 e_n1 => ?_)
 have t_n1 : n1.toInt = 1 := e_n1
 have cs_n1 : n1 = 1 := by
  have q : n1.toInt = 1 := by omega
  rcases q with q
  ·exact eqI q
 rcases cs_n1 with rfl
 ·refine K.lloadN d23_4 (w':=5) rfl rfl ?_
  refine K.calls (argsL := [(.ref a), (.int 0), (.int 1), (.long key)]) (rest := []) d23_5 (w':=8) rfl (c_b0_1 l Z a0 hw n0 h (a := a) (key := key) (x0 := x0) P1 hin hk) hw137 hw138 hw88 hw139 (by decide) pd_13 rfl rfl (W := 0) (Nat.le_refl _) (by decide) (by decide) (by decide) (by decide) (fun v_3 h_1 q_2 => ?_)
  obtain ⟨w1, rfl, t_w1, rfl⟩ := q_2
  show G h 0 0 (mkF m 8 #[vr a, vj key, se] [(.int w1)])
  exact K.reti d23_8 (by decide) (by decide) ⟨w1, rfl, by exact t_w1, rfl⟩
theorem c_b0_2 (l : Launch) (Z : State) (a0 : Array Value) (hw : HW a0 Z) (n0 : Nat) (h : Heap) (a : Addr) (key : Int64) (x0 : Int64) (x1 : Int64) (P1 : Ary Z h a .long [(.long x0), (.long x1)]) (hin : x0.toInt < x1.toInt) (hk : key.toInt = x0.toInt ∨ key.toInt = x1.toInt) : MeetsW l Z n0 (⟨"java/util/Arrays", "binarySearch0", "([JIIJ)I"⟩ : MethodName) B24 10 (some .int) ({ frames := 0, cells := 0, slots := 0, locals := 0 } : Room) #[(.ref a), (.int 0), (.int 2), (.long key)] h (fun v h' => ∃ (z : Int32), v = some (.int z) ∧ ((z.toInt = 0 ∧ key.toInt = x0.toInt) ∨ (z.toInt = 1 ∧ key.toInt = x1.toInt)) ∧ h = h') := by
 refine MeetsW.intro (plainFor_of_name pn_java_util_Arrays) (L0 := #[vr a, vi 0, vi 2, vj key, se, un, un, un, un, un]) (fun m => by first | (simp [entryFrame, mkF, argsToLocals, Value.category]; done) | rfl) ?_
 intro m G K0
 have K : Cx l ({ frames := 0, cells := 0, slots := 0, locals := 0 } : Room) Z n0 _ "java/util/Arrays" "binarySearch0" B24 10 (some .int) m G := K0
 refine K.iloadN d24_0 (w':=1) rfl rfl ?_
 refine K.istore d24_1 (w':=3) rfl (L' := #[vr a, vi 0, vi 2, vj key, se, vi 0, un, un, un, un]) rfl ?_
 refine K.iloadN d24_3 (w':=4) rfl rfl ?_
 refine K.iconst d24_4 (w':=5) rfl (z := 1) rfl ?_
 refine K.isub d24_5 (w':=6) rfl (z := (1 : Int32)) (by decide) ?_
 refine K.istore d24_6 (w':=8) rfl (L' := #[vr a, vi 0, vi 2, vj key, se, vi 0, vi 1, un, un, un]) rfl ?_
 refine K.iload d24_8 (w':=10) rfl rfl ?_
 refine K.iload d24_10 (w':=12) rfl rfl ?_
 refine K.icmp_gt d24_12 (pc1 := 15) rfl (by decide) (pc2 := 68) (by decide) (a := 0) (b := 1) rfl rfl (fun c12 => ?_) (fun c12 => ?_)
 ·exfalso; omega
 ·refine K.iload d24_15 (w':=17) rfl rfl ?_
  refine K.iload d24_17 (w':=19) rfl rfl ?_
  refine K.iadd d24_19 (w':=20) rfl (z := (1 : Int32)) (by decide) ?_
  refine K.iconst d24_20 (w':=21) rfl (z := 1) rfl ?_
  refine K.iushr d24_21 (w':=22) rfl (z := (0 : Int32)) (by decide) ?_
  refine K.istore d24_22 (w':=24) rfl (L' := #[vr a, vi 0, vi 2, vj key, se, vi 0, vi 1, vi 0, un, un]) rfl ?_
  refine K.aloadN d24_24 (w':=25) rfl rfl rfl ?_
  refine K.iload d24_25 (w':=27) rfl rfl ?_
  refine K.lald d24_27 (w':=28) rfl P1 (i := 0) rfl rfl ?_
  refine K.lstore d24_28 (w':=30) rfl (L' := #[vr a, vi 0, vi 2, vj key, se, vi 0, vi 1, vi 0, vj x0, se]) rfl ?_
  refine K.lload d24_30 (w':=32) rfl rfl ?_
  refine K.lloadN d24_32 (w':=33) rfl rfl ?_
  refine K.lcmp_ge d24_33 d24_34 (pc1 := 37) rfl (by decide) (pc2 := 46) (by decide) (a := x0.toInt) (b := key.toInt) rfl rfl (fun c33 => ?_) (fun c33 => ?_)
  ·refine K.lload d24_46 (w':=48) rfl rfl ?_
   refine K.lloadN d24_48 (w':=49) rfl rfl ?_
   refine K.lcmp_le d24_49 d24_50 (pc1 := 53) rfl (by decide) (pc2 := 62) (by decide) (a := x0.toInt) (b := key.toInt) rfl rfl (fun c49 => ?_) (fun c49 => ?_)
   ·refine K.iload d24_62 (w':=64) rfl rfl ?_
    exact K.reti d24_64 (by decide) (by decide) ⟨(0 : Int32), rfl, by have ev : (0 : Int32).toInt = 0 := rfl; first | omega | (omega), rfl⟩
   ·refine K.iload d24_53 (w':=55) rfl rfl ?_
    refine K.iconst d24_55 (w':=56) rfl (z := 1) rfl ?_
    refine K.isub d24_56 (w':=57) rfl (z := (-1 : Int32)) (by decide) ?_
    refine K.istore d24_57 (w':=59) rfl (L' := #[vr a, vi 0, vi 2, vj key, se, vi 0, vi (-1), vi 0, vj x0, se]) rfl ?_
    refine K.goto d24_59 (by decide) (w':=65) (by decide) ?_
    refine K.goto d24_65 (by decide) (w':=8) (by decide) ?_
    refine K.iload d24_8 (w':=10) rfl rfl ?_
    refine K.iload d24_10 (w':=12) rfl rfl ?_
    refine K.icmp_gt d24_12 (pc1 := 15) rfl (by decide) (pc2 := 68) (by decide) (a := 0) (b := (-1)) rfl rfl (fun c12_1 => ?_) (fun c12_1 => ?_)
    ·exfalso; omega
    ·exfalso; omega
  ·refine K.iload d24_37 (w':=39) rfl rfl ?_
   refine K.iconst d24_39 (w':=40) rfl (z := 1) rfl ?_
   refine K.iadd d24_40 (w':=41) rfl (z := (1 : Int32)) (by decide) ?_
   refine K.istore d24_41 (w':=43) rfl (L' := #[vr a, vi 0, vi 2, vj key, se, vi 1, vi 1, vi 0, vj x0, se]) rfl ?_
   refine K.goto d24_43 (by decide) (w':=65) (by decide) ?_
   refine K.goto d24_65 (by decide) (w':=8) (by decide) ?_
   refine K.iload d24_8 (w':=10) rfl rfl ?_
   refine K.iload d24_10 (w':=12) rfl rfl ?_
   refine K.icmp_gt d24_12 (pc1 := 15) rfl (by decide) (pc2 := 68) (by decide) (a := 1) (b := 1) rfl rfl (fun c12_1 => ?_) (fun c12_1 => ?_)
   ·exfalso; omega
   ·refine K.iload d24_15 (w':=17) rfl rfl ?_
    refine K.iload d24_17 (w':=19) rfl rfl ?_
    refine K.iadd d24_19 (w':=20) rfl (z := (2 : Int32)) (by decide) ?_
    refine K.iconst d24_20 (w':=21) rfl (z := 1) rfl ?_
    refine K.iushr d24_21 (w':=22) rfl (z := (1 : Int32)) (by decide) ?_
    refine K.istore d24_22 (w':=24) rfl (L' := #[vr a, vi 0, vi 2, vj key, se, vi 1, vi 1, vi 1, vj x0, se]) rfl ?_
    refine K.aloadN d24_24 (w':=25) rfl rfl rfl ?_
    refine K.iload d24_25 (w':=27) rfl rfl ?_
    refine K.lald d24_27 (w':=28) rfl P1 (i := 1) rfl rfl ?_
    refine K.lstore d24_28 (w':=30) rfl (L' := #[vr a, vi 0, vi 2, vj key, se, vi 1, vi 1, vi 1, vj x1, se]) rfl ?_
    refine K.lload d24_30 (w':=32) rfl rfl ?_
    refine K.lloadN d24_32 (w':=33) rfl rfl ?_
    refine K.lcmp_ge d24_33 d24_34 (pc1 := 37) rfl (by decide) (pc2 := 46) (by decide) (a := x1.toInt) (b := key.toInt) rfl rfl (fun c33_1 => ?_) (fun c33_1 => ?_)
    ·refine K.lload d24_46 (w':=48) rfl rfl ?_
     refine K.lloadN d24_48 (w':=49) rfl rfl ?_
     refine K.lcmp_le d24_49 d24_50 (pc1 := 53) rfl (by decide) (pc2 := 62) (by decide) (a := x1.toInt) (b := key.toInt) rfl rfl (fun c49 => ?_) (fun c49 => ?_)
     ·refine K.iload d24_62 (w':=64) rfl rfl ?_
      exact K.reti d24_64 (by decide) (by decide) ⟨(1 : Int32), rfl, by have ev : (1 : Int32).toInt = 1 := rfl; first | omega | (omega), rfl⟩
     ·refine K.iload d24_53 (w':=55) rfl rfl ?_
      refine K.iconst d24_55 (w':=56) rfl (z := 1) rfl ?_
      refine K.isub d24_56 (w':=57) rfl (z := (0 : Int32)) (by decide) ?_
      refine K.istore d24_57 (w':=59) rfl (L' := #[vr a, vi 0, vi 2, vj key, se, vi 1, vi 0, vi 1, vj x1, se]) rfl ?_
      refine K.goto d24_59 (by decide) (w':=65) (by decide) ?_
      refine K.goto d24_65 (by decide) (w':=8) (by decide) ?_
      refine K.iload d24_8 (w':=10) rfl rfl ?_
      refine K.iload d24_10 (w':=12) rfl rfl ?_
      refine K.icmp_gt d24_12 (pc1 := 15) rfl (by decide) (pc2 := 68) (by decide) (a := 1) (b := 0) rfl rfl (fun c12_2 => ?_) (fun c12_2 => ?_)
      ·exfalso; omega
      ·exfalso; omega
    ·refine K.iload d24_37 (w':=39) rfl rfl ?_
     refine K.iconst d24_39 (w':=40) rfl (z := 1) rfl ?_
     refine K.iadd d24_40 (w':=41) rfl (z := (2 : Int32)) (by decide) ?_
     refine K.istore d24_41 (w':=43) rfl (L' := #[vr a, vi 0, vi 2, vj key, se, vi 2, vi 1, vi 1, vj x1, se]) rfl ?_
     refine K.goto d24_43 (by decide) (w':=65) (by decide) ?_
     refine K.goto d24_65 (by decide) (w':=8) (by decide) ?_
     refine K.iload d24_8 (w':=10) rfl rfl ?_
     refine K.iload d24_10 (w':=12) rfl rfl ?_
     refine K.icmp_gt d24_12 (pc1 := 15) rfl (by decide) (pc2 := 68) (by decide) (a := 2) (b := 1) rfl rfl (fun c12_2 => ?_) (fun c12_2 => ?_)
     ·exfalso; omega
     ·exfalso; omega
theorem c_b2 (l : Launch) (Z : State) (a0 : Array Value) (hw : HW a0 Z) (n0 : Nat) (h : Heap) (a : Addr) (key : Int64) (x0 : Int64) (x1 : Int64) (P1 : Ary Z h a .long [(.long x0), (.long x1)]) (hin : x0.toInt < x1.toInt) (hk : key.toInt = x0.toInt ∨ key.toInt = x1.toInt) : MeetsW l Z n0 (⟨"java/util/Arrays", "binarySearch", "([JJ)I"⟩ : MethodName) B23 3 (some .int) ({ frames := 1, cells := 0, slots := 0, locals := 21 } : Room) #[(.ref a), (.long key)] h (fun v h' => ∃ (z : Int32), v = some (.int z) ∧ ((z.toInt = 0 ∧ key.toInt = x0.toInt) ∨ (z.toInt = 1 ∧ key.toInt = x1.toInt)) ∧ h = h') := by
 refine MeetsW.intro (plainFor_of_name pn_java_util_Arrays) (L0 := #[vr a, vj key, se]) (fun m => rfl) ?_
 intro m G K0
 have K : Cx l ({ frames := 1, cells := 0, slots := 0, locals := 21 } : Room) Z n0 _ "java/util/Arrays" "binarySearch" B23 3 (some .int) m G := K0
 have hw88 := tb hw (i:=88) rfl
 have hw137 := tb hw (i:=137) rfl
 have hw138 := tb hw (i:=138) rfl
 have hw139 := tb hw (i:=139) rfl
 refine K.aloadN d23_0 (w':=1) rfl rfl rfl ?_
 refine K.iconst d23_1 (w':=2) rfl (z := 0) rfl ?_
 refine K.aloadN d23_2 (w':=3) rfl rfl rfl ?_
 refine K.alen d23_3 (w':=4) rfl P1 (fun n1 e_n1 => ?_)
 have t_n1 : n1.toInt = 2 := e_n1
 have cs_n1 : n1 = 2 := by
  have q : n1.toInt = 2 := by omega
  rcases q with q
  ·exact eqI q
 rcases cs_n1 with rfl
 ·refine K.lloadN d23_4 (w':=5) rfl rfl ?_
  refine K.calls (argsL := [(.ref a), (.int 0), (.int 2), (.long key)]) (rest := []) d23_5 (w':=8) rfl (c_b0_2 l Z a0 hw n0 h (a := a) (key := key) (x0 := x0) (x1 := x1) P1 hin hk) hw137 hw138 hw88 hw139 (by decide) pd_13 rfl rfl (W := 0) (Nat.le_refl _) (by decide) (by decide) (by decide) (by decide) (fun v_3 h_1 q_2 => ?_)
  obtain ⟨w1, rfl, t_w1, rfl⟩ := q_2
  show G h 0 0 (mkF m 8 #[vr a, vj key, se] [(.int w1)])
  exact K.reti d23_8 (by decide) (by decide) ⟨w1, rfl, by exact t_w1, rfl⟩
theorem c_b0_3 (l : Launch) (Z : State) (a0 : Array Value) (hw : HW a0 Z) (n0 : Nat) (h : Heap) (a : Addr) (key : Int64) (x0 : Int64) (x1 : Int64) (x2 : Int64) (P1 : Ary Z h a .long [(.long x0), (.long x1), (.long x2)]) (hin : x0.toInt < x1.toInt ∧ x1.toInt < x2.toInt) (hk : key.toInt = x0.toInt ∨ key.toInt = x1.toInt ∨ key.toInt = x2.toInt) : MeetsW l Z n0 (⟨"java/util/Arrays", "binarySearch0", "([JIIJ)I"⟩ : MethodName) B24 10 (some .int) ({ frames := 0, cells := 0, slots := 0, locals := 0 } : Room) #[(.ref a), (.int 0), (.int 3), (.long key)] h (fun v h' => ∃ (z : Int32), v = some (.int z) ∧ ((z.toInt = 0 ∧ key.toInt = x0.toInt) ∨ (z.toInt = 1 ∧ key.toInt = x1.toInt) ∨ (z.toInt = 2 ∧ key.toInt = x2.toInt)) ∧ h = h') := by
 refine MeetsW.intro (plainFor_of_name pn_java_util_Arrays) (L0 := #[vr a, vi 0, vi 3, vj key, se, un, un, un, un, un]) (fun m => by first | (simp [entryFrame, mkF, argsToLocals, Value.category]; done) | rfl) ?_
 intro m G K0
 have K : Cx l ({ frames := 0, cells := 0, slots := 0, locals := 0 } : Room) Z n0 _ "java/util/Arrays" "binarySearch0" B24 10 (some .int) m G := K0
 refine K.iloadN d24_0 (w':=1) rfl rfl ?_
 refine K.istore d24_1 (w':=3) rfl (L' := #[vr a, vi 0, vi 3, vj key, se, vi 0, un, un, un, un]) rfl ?_
 refine K.iloadN d24_3 (w':=4) rfl rfl ?_
 refine K.iconst d24_4 (w':=5) rfl (z := 1) rfl ?_
 refine K.isub d24_5 (w':=6) rfl (z := (2 : Int32)) (by decide) ?_
 refine K.istore d24_6 (w':=8) rfl (L' := #[vr a, vi 0, vi 3, vj key, se, vi 0, vi 2, un, un, un]) rfl ?_
 refine K.iload d24_8 (w':=10) rfl rfl ?_
 refine K.iload d24_10 (w':=12) rfl rfl ?_
 refine K.icmp_gt d24_12 (pc1 := 15) rfl (by decide) (pc2 := 68) (by decide) (a := 0) (b := 2) rfl rfl (fun c12 => ?_) (fun c12 => ?_)
 ·exfalso; omega
 ·refine K.iload d24_15 (w':=17) rfl rfl ?_
  refine K.iload d24_17 (w':=19) rfl rfl ?_
  refine K.iadd d24_19 (w':=20) rfl (z := (2 : Int32)) (by decide) ?_
  refine K.iconst d24_20 (w':=21) rfl (z := 1) rfl ?_
  refine K.iushr d24_21 (w':=22) rfl (z := (1 : Int32)) (by decide) ?_
  refine K.istore d24_22 (w':=24) rfl (L' := #[vr a, vi 0, vi 3, vj key, se, vi 0, vi 2, vi 1, un, un]) rfl ?_
  refine K.aloadN d24_24 (w':=25) rfl rfl rfl ?_
  refine K.iload d24_25 (w':=27) rfl rfl ?_
  refine K.lald d24_27 (w':=28) rfl P1 (i := 1) rfl rfl ?_
  refine K.lstore d24_28 (w':=30) rfl (L' := #[vr a, vi 0, vi 3, vj key, se, vi 0, vi 2, vi 1, vj x1, se]) rfl ?_
  refine K.lload d24_30 (w':=32) rfl rfl ?_
  refine K.lloadN d24_32 (w':=33) rfl rfl ?_
  refine K.lcmp_ge d24_33 d24_34 (pc1 := 37) rfl (by decide) (pc2 := 46) (by decide) (a := x1.toInt) (b := key.toInt) rfl rfl (fun c33 => ?_) (fun c33 => ?_)
  ·refine K.lload d24_46 (w':=48) rfl rfl ?_
   refine K.lloadN d24_48 (w':=49) rfl rfl ?_
   refine K.lcmp_le d24_49 d24_50 (pc1 := 53) rfl (by decide) (pc2 := 62) (by decide) (a := x1.toInt) (b := key.toInt) rfl rfl (fun c49 => ?_) (fun c49 => ?_)
   ·refine K.iload d24_62 (w':=64) rfl rfl ?_
    exact K.reti d24_64 (by decide) (by decide) ⟨(1 : Int32), rfl, by have ev : (1 : Int32).toInt = 1 := rfl; first | omega | (omega), rfl⟩
   ·refine K.iload d24_53 (w':=55) rfl rfl ?_
    refine K.iconst d24_55 (w':=56) rfl (z := 1) rfl ?_
    refine K.isub d24_56 (w':=57) rfl (z := (0 : Int32)) (by decide) ?_
    refine K.istore d24_57 (w':=59) rfl (L' := #[vr a, vi 0, vi 3, vj key, se, vi 0, vi 0, vi 1, vj x1, se]) rfl ?_
    refine K.goto d24_59 (by decide) (w':=65) (by decide) ?_
    refine K.goto d24_65 (by decide) (w':=8) (by decide) ?_
    refine K.iload d24_8 (w':=10) rfl rfl ?_
    refine K.iload d24_10 (w':=12) rfl rfl ?_
    refine K.icmp_gt d24_12 (pc1 := 15) rfl (by decide) (pc2 := 68) (by decide) (a := 0) (b := 0) rfl rfl (fun c12_1 => ?_) (fun c12_1 => ?_)
    ·exfalso; omega
    ·refine K.iload d24_15 (w':=17) rfl rfl ?_
     refine K.iload d24_17 (w':=19) rfl rfl ?_
     refine K.iadd d24_19 (w':=20) rfl (z := (0 : Int32)) (by decide) ?_
     refine K.iconst d24_20 (w':=21) rfl (z := 1) rfl ?_
     refine K.iushr d24_21 (w':=22) rfl (z := (0 : Int32)) (by decide) ?_
     refine K.istore d24_22 (w':=24) rfl (L' := #[vr a, vi 0, vi 3, vj key, se, vi 0, vi 0, vi 0, vj x1, se]) rfl ?_
     refine K.aloadN d24_24 (w':=25) rfl rfl rfl ?_
     refine K.iload d24_25 (w':=27) rfl rfl ?_
     refine K.lald d24_27 (w':=28) rfl P1 (i := 0) rfl rfl ?_
     refine K.lstore d24_28 (w':=30) rfl (L' := #[vr a, vi 0, vi 3, vj key, se, vi 0, vi 0, vi 0, vj x0, se]) rfl ?_
     refine K.lload d24_30 (w':=32) rfl rfl ?_
     refine K.lloadN d24_32 (w':=33) rfl rfl ?_
     refine K.lcmp_ge d24_33 d24_34 (pc1 := 37) rfl (by decide) (pc2 := 46) (by decide) (a := x0.toInt) (b := key.toInt) rfl rfl (fun c33_1 => ?_) (fun c33_1 => ?_)
     ·refine K.lload d24_46 (w':=48) rfl rfl ?_
      refine K.lloadN d24_48 (w':=49) rfl rfl ?_
      refine K.lcmp_le d24_49 d24_50 (pc1 := 53) rfl (by decide) (pc2 := 62) (by decide) (a := x0.toInt) (b := key.toInt) rfl rfl (fun c49_1 => ?_) (fun c49_1 => ?_)
      ·refine K.iload d24_62 (w':=64) rfl rfl ?_
       exact K.reti d24_64 (by decide) (by decide) ⟨(0 : Int32), rfl, by have ev : (0 : Int32).toInt = 0 := rfl; first | omega | (omega), rfl⟩
      ·refine K.iload d24_53 (w':=55) rfl rfl ?_
       refine K.iconst d24_55 (w':=56) rfl (z := 1) rfl ?_
       refine K.isub d24_56 (w':=57) rfl (z := (-1 : Int32)) (by decide) ?_
       refine K.istore d24_57 (w':=59) rfl (L' := #[vr a, vi 0, vi 3, vj key, se, vi 0, vi (-1), vi 0, vj x0, se]) rfl ?_
       refine K.goto d24_59 (by decide) (w':=65) (by decide) ?_
       refine K.goto d24_65 (by decide) (w':=8) (by decide) ?_
       refine K.iload d24_8 (w':=10) rfl rfl ?_
       refine K.iload d24_10 (w':=12) rfl rfl ?_
       refine K.icmp_gt d24_12 (pc1 := 15) rfl (by decide) (pc2 := 68) (by decide) (a := 0) (b := (-1)) rfl rfl (fun c12_2 => ?_) (fun c12_2 => ?_)
       ·exfalso; omega
       ·exfalso; omega
     ·refine K.iload d24_37 (w':=39) rfl rfl ?_
      refine K.iconst d24_39 (w':=40) rfl (z := 1) rfl ?_
      refine K.iadd d24_40 (w':=41) rfl (z := (1 : Int32)) (by decide) ?_
      refine K.istore d24_41 (w':=43) rfl (L' := #[vr a, vi 0, vi 3, vj key, se, vi 1, vi 0, vi 0, vj x0, se]) rfl ?_
      refine K.goto d24_43 (by decide) (w':=65) (by decide) ?_
      refine K.goto d24_65 (by decide) (w':=8) (by decide) ?_
      refine K.iload d24_8 (w':=10) rfl rfl ?_
      refine K.iload d24_10 (w':=12) rfl rfl ?_
      refine K.icmp_gt d24_12 (pc1 := 15) rfl (by decide) (pc2 := 68) (by decide) (a := 1) (b := 0) rfl rfl (fun c12_2 => ?_) (fun c12_2 => ?_)
      ·exfalso; omega
      ·exfalso; omega
  ·refine K.iload d24_37 (w':=39) rfl rfl ?_
   refine K.iconst d24_39 (w':=40) rfl (z := 1) rfl ?_
   refine K.iadd d24_40 (w':=41) rfl (z := (2 : Int32)) (by decide) ?_
   refine K.istore d24_41 (w':=43) rfl (L' := #[vr a, vi 0, vi 3, vj key, se, vi 2, vi 2, vi 1, vj x1, se]) rfl ?_
   refine K.goto d24_43 (by decide) (w':=65) (by decide) ?_
   refine K.goto d24_65 (by decide) (w':=8) (by decide) ?_
   refine K.iload d24_8 (w':=10) rfl rfl ?_
   refine K.iload d24_10 (w':=12) rfl rfl ?_
   refine K.icmp_gt d24_12 (pc1 := 15) rfl (by decide) (pc2 := 68) (by decide) (a := 2) (b := 2) rfl rfl (fun c12_1 => ?_) (fun c12_1 => ?_)
   ·exfalso; omega
   ·refine K.iload d24_15 (w':=17) rfl rfl ?_
    refine K.iload d24_17 (w':=19) rfl rfl ?_
    refine K.iadd d24_19 (w':=20) rfl (z := (4 : Int32)) (by decide) ?_
    refine K.iconst d24_20 (w':=21) rfl (z := 1) rfl ?_
    refine K.iushr d24_21 (w':=22) rfl (z := (2 : Int32)) (by decide) ?_
    refine K.istore d24_22 (w':=24) rfl (L' := #[vr a, vi 0, vi 3, vj key, se, vi 2, vi 2, vi 2, vj x1, se]) rfl ?_
    refine K.aloadN d24_24 (w':=25) rfl rfl rfl ?_
    refine K.iload d24_25 (w':=27) rfl rfl ?_
    refine K.lald d24_27 (w':=28) rfl P1 (i := 2) rfl rfl ?_
    refine K.lstore d24_28 (w':=30) rfl (L' := #[vr a, vi 0, vi 3, vj key, se, vi 2, vi 2, vi 2, vj x2, se]) rfl ?_
    refine K.lload d24_30 (w':=32) rfl rfl ?_
    refine K.lloadN d24_32 (w':=33) rfl rfl ?_
    refine K.lcmp_ge d24_33 d24_34 (pc1 := 37) rfl (by decide) (pc2 := 46) (by decide) (a := x2.toInt) (b := key.toInt) rfl rfl (fun c33_1 => ?_) (fun c33_1 => ?_)
    ·refine K.lload d24_46 (w':=48) rfl rfl ?_
     refine K.lloadN d24_48 (w':=49) rfl rfl ?_
     refine K.lcmp_le d24_49 d24_50 (pc1 := 53) rfl (by decide) (pc2 := 62) (by decide) (a := x2.toInt) (b := key.toInt) rfl rfl (fun c49 => ?_) (fun c49 => ?_)
     ·refine K.iload d24_62 (w':=64) rfl rfl ?_
      exact K.reti d24_64 (by decide) (by decide) ⟨(2 : Int32), rfl, by have ev : (2 : Int32).toInt = 2 := rfl; first | omega | (omega), rfl⟩
     ·refine K.iload d24_53 (w':=55) rfl rfl ?_
      refine K.iconst d24_55 (w':=56) rfl (z := 1) rfl ?_
      refine K.isub d24_56 (w':=57) rfl (z := (1 : Int32)) (by decide) ?_
      refine K.istore d24_57 (w':=59) rfl (L' := #[vr a, vi 0, vi 3, vj key, se, vi 2, vi 1, vi 2, vj x2, se]) rfl ?_
      refine K.goto d24_59 (by decide) (w':=65) (by decide) ?_
      refine K.goto d24_65 (by decide) (w':=8) (by decide) ?_
      refine K.iload d24_8 (w':=10) rfl rfl ?_
      refine K.iload d24_10 (w':=12) rfl rfl ?_
      refine K.icmp_gt d24_12 (pc1 := 15) rfl (by decide) (pc2 := 68) (by decide) (a := 2) (b := 1) rfl rfl (fun c12_2 => ?_) (fun c12_2 => ?_)
      ·exfalso; omega
      ·exfalso; omega
    ·refine K.iload d24_37 (w':=39) rfl rfl ?_
     refine K.iconst d24_39 (w':=40) rfl (z := 1) rfl ?_
     refine K.iadd d24_40 (w':=41) rfl (z := (3 : Int32)) (by decide) ?_
     refine K.istore d24_41 (w':=43) rfl (L' := #[vr a, vi 0, vi 3, vj key, se, vi 3, vi 2, vi 2, vj x2, se]) rfl ?_
     refine K.goto d24_43 (by decide) (w':=65) (by decide) ?_
     refine K.goto d24_65 (by decide) (w':=8) (by decide) ?_
     refine K.iload d24_8 (w':=10) rfl rfl ?_
     refine K.iload d24_10 (w':=12) rfl rfl ?_
     refine K.icmp_gt d24_12 (pc1 := 15) rfl (by decide) (pc2 := 68) (by decide) (a := 3) (b := 2) rfl rfl (fun c12_2 => ?_) (fun c12_2 => ?_)
     ·exfalso; omega
     ·exfalso; omega
theorem c_b3 (l : Launch) (Z : State) (a0 : Array Value) (hw : HW a0 Z) (n0 : Nat) (h : Heap) (a : Addr) (key : Int64) (x0 : Int64) (x1 : Int64) (x2 : Int64) (P1 : Ary Z h a .long [(.long x0), (.long x1), (.long x2)]) (hin : x0.toInt < x1.toInt ∧ x1.toInt < x2.toInt) (hk : key.toInt = x0.toInt ∨ key.toInt = x1.toInt ∨ key.toInt = x2.toInt) : MeetsW l Z n0 (⟨"java/util/Arrays", "binarySearch", "([JJ)I"⟩ : MethodName) B23 3 (some .int) ({ frames := 1, cells := 0, slots := 0, locals := 21 } : Room) #[(.ref a), (.long key)] h (fun v h' => ∃ (z : Int32), v = some (.int z) ∧ ((z.toInt = 0 ∧ key.toInt = x0.toInt) ∨ (z.toInt = 1 ∧ key.toInt = x1.toInt) ∨ (z.toInt = 2 ∧ key.toInt = x2.toInt)) ∧ h = h') := by
 refine MeetsW.intro (plainFor_of_name pn_java_util_Arrays) (L0 := #[vr a, vj key, se]) (fun m => rfl) ?_
 intro m G K0
 have K : Cx l ({ frames := 1, cells := 0, slots := 0, locals := 21 } : Room) Z n0 _ "java/util/Arrays" "binarySearch" B23 3 (some .int) m G := K0
 have hw88 := tb hw (i:=88) rfl
 have hw137 := tb hw (i:=137) rfl
 have hw138 := tb hw (i:=138) rfl
 have hw139 := tb hw (i:=139) rfl
 refine K.aloadN d23_0 (w':=1) rfl rfl rfl ?_
 refine K.iconst d23_1 (w':=2) rfl (z := 0) rfl ?_
 refine K.aloadN d23_2 (w':=3) rfl rfl rfl ?_
 refine K.alen d23_3 (w':=4) rfl P1 (fun n1 e_n1 => ?_)
 have t_n1 : n1.toInt = 3 := e_n1
 have cs_n1 : n1 = 3 := by
  have q : n1.toInt = 3 := by omega
  rcases q with q
  ·exact eqI q
 rcases cs_n1 with rfl
 ·refine K.lloadN d23_4 (w':=5) rfl rfl ?_
  refine K.calls (argsL := [(.ref a), (.int 0), (.int 3), (.long key)]) (rest := []) d23_5 (w':=8) rfl (c_b0_3 l Z a0 hw n0 h (a := a) (key := key) (x0 := x0) (x1 := x1) (x2 := x2) P1 hin hk) hw137 hw138 hw88 hw139 (by decide) pd_13 rfl rfl (W := 0) (Nat.le_refl _) (by decide) (by decide) (by decide) (by decide) (fun v_3 h_1 q_2 => ?_)
  obtain ⟨w1, rfl, t_w1, rfl⟩ := q_2
  show G h 0 0 (mkF m 8 #[vr a, vj key, se] [(.int w1)])
  exact K.reti d23_8 (by decide) (by decide) ⟨w1, rfl, by exact t_w1, rfl⟩
theorem c_b0_4 (l : Launch) (Z : State) (a0 : Array Value) (hw : HW a0 Z) (n0 : Nat) (h : Heap) (a : Addr) (key : Int64) (x0 : Int64) (x1 : Int64) (x2 : Int64) (x3 : Int64) (P1 : Ary Z h a .long [(.long x0), (.long x1), (.long x2), (.long x3)]) (hin : x0.toInt < x1.toInt ∧ x1.toInt < x2.toInt ∧ x2.toInt < x3.toInt) (hk : key.toInt = x0.toInt ∨ key.toInt = x1.toInt ∨ key.toInt = x2.toInt ∨ key.toInt = x3.toInt) : MeetsW l Z n0 (⟨"java/util/Arrays", "binarySearch0", "([JIIJ)I"⟩ : MethodName) B24 10 (some .int) ({ frames := 0, cells := 0, slots := 0, locals := 0 } : Room) #[(.ref a), (.int 0), (.int 4), (.long key)] h (fun v h' => ∃ (z : Int32), v = some (.int z) ∧ ((z.toInt = 0 ∧ key.toInt = x0.toInt) ∨ (z.toInt = 1 ∧ key.toInt = x1.toInt) ∨ (z.toInt = 2 ∧ key.toInt = x2.toInt) ∨ (z.toInt = 3 ∧ key.toInt = x3.toInt)) ∧ h = h') := by
 refine MeetsW.intro (plainFor_of_name pn_java_util_Arrays) (L0 := #[vr a, vi 0, vi 4, vj key, se, un, un, un, un, un]) (fun m => by first | (simp [entryFrame, mkF, argsToLocals, Value.category]; done) | rfl) ?_
 intro m G K0
 have K : Cx l ({ frames := 0, cells := 0, slots := 0, locals := 0 } : Room) Z n0 _ "java/util/Arrays" "binarySearch0" B24 10 (some .int) m G := K0
 refine K.iloadN d24_0 (w':=1) rfl rfl ?_
 refine K.istore d24_1 (w':=3) rfl (L' := #[vr a, vi 0, vi 4, vj key, se, vi 0, un, un, un, un]) rfl ?_
 refine K.iloadN d24_3 (w':=4) rfl rfl ?_
 refine K.iconst d24_4 (w':=5) rfl (z := 1) rfl ?_
 refine K.isub d24_5 (w':=6) rfl (z := (3 : Int32)) (by decide) ?_
 refine K.istore d24_6 (w':=8) rfl (L' := #[vr a, vi 0, vi 4, vj key, se, vi 0, vi 3, un, un, un]) rfl ?_
 refine K.iload d24_8 (w':=10) rfl rfl ?_
 refine K.iload d24_10 (w':=12) rfl rfl ?_
 refine K.icmp_gt d24_12 (pc1 := 15) rfl (by decide) (pc2 := 68) (by decide) (a := 0) (b := 3) rfl rfl (fun c12 => ?_) (fun c12 => ?_)
 ·exfalso; omega
 ·refine K.iload d24_15 (w':=17) rfl rfl ?_
  refine K.iload d24_17 (w':=19) rfl rfl ?_
  refine K.iadd d24_19 (w':=20) rfl (z := (3 : Int32)) (by decide) ?_
  refine K.iconst d24_20 (w':=21) rfl (z := 1) rfl ?_
  refine K.iushr d24_21 (w':=22) rfl (z := (1 : Int32)) (by decide) ?_
  refine K.istore d24_22 (w':=24) rfl (L' := #[vr a, vi 0, vi 4, vj key, se, vi 0, vi 3, vi 1, un, un]) rfl ?_
  refine K.aloadN d24_24 (w':=25) rfl rfl rfl ?_
  refine K.iload d24_25 (w':=27) rfl rfl ?_
  refine K.lald d24_27 (w':=28) rfl P1 (i := 1) rfl rfl ?_
  refine K.lstore d24_28 (w':=30) rfl (L' := #[vr a, vi 0, vi 4, vj key, se, vi 0, vi 3, vi 1, vj x1, se]) rfl ?_
  refine K.lload d24_30 (w':=32) rfl rfl ?_
  refine K.lloadN d24_32 (w':=33) rfl rfl ?_
  refine K.lcmp_ge d24_33 d24_34 (pc1 := 37) rfl (by decide) (pc2 := 46) (by decide) (a := x1.toInt) (b := key.toInt) rfl rfl (fun c33 => ?_) (fun c33 => ?_)
  ·refine K.lload d24_46 (w':=48) rfl rfl ?_
   refine K.lloadN d24_48 (w':=49) rfl rfl ?_
   refine K.lcmp_le d24_49 d24_50 (pc1 := 53) rfl (by decide) (pc2 := 62) (by decide) (a := x1.toInt) (b := key.toInt) rfl rfl (fun c49 => ?_) (fun c49 => ?_)
   ·refine K.iload d24_62 (w':=64) rfl rfl ?_
    exact K.reti d24_64 (by decide) (by decide) ⟨(1 : Int32), rfl, by have ev : (1 : Int32).toInt = 1 := rfl; first | omega | (omega), rfl⟩
   ·refine K.iload d24_53 (w':=55) rfl rfl ?_
    refine K.iconst d24_55 (w':=56) rfl (z := 1) rfl ?_
    refine K.isub d24_56 (w':=57) rfl (z := (0 : Int32)) (by decide) ?_
    refine K.istore d24_57 (w':=59) rfl (L' := #[vr a, vi 0, vi 4, vj key, se, vi 0, vi 0, vi 1, vj x1, se]) rfl ?_
    refine K.goto d24_59 (by decide) (w':=65) (by decide) ?_
    refine K.goto d24_65 (by decide) (w':=8) (by decide) ?_
    refine K.iload d24_8 (w':=10) rfl rfl ?_
    refine K.iload d24_10 (w':=12) rfl rfl ?_
    refine K.icmp_gt d24_12 (pc1 := 15) rfl (by decide) (pc2 := 68) (by decide) (a := 0) (b := 0) rfl rfl (fun c12_1 => ?_) (fun c12_1 => ?_)
    ·exfalso; omega
    ·refine K.iload d24_15 (w':=17) rfl rfl ?_
     refine K.iload d24_17 (w':=19) rfl rfl ?_
     refine K.iadd d24_19 (w':=20) rfl (z := (0 : Int32)) (by decide) ?_
     refine K.iconst d24_20 (w':=21) rfl (z := 1) rfl ?_
     refine K.iushr d24_21 (w':=22) rfl (z := (0 : Int32)) (by decide) ?_
     refine K.istore d24_22 (w':=24) rfl (L' := #[vr a, vi 0, vi 4, vj key, se, vi 0, vi 0, vi 0, vj x1, se]) rfl ?_
     refine K.aloadN d24_24 (w':=25) rfl rfl rfl ?_
     refine K.iload d24_25 (w':=27) rfl rfl ?_
     refine K.lald d24_27 (w':=28) rfl P1 (i := 0) rfl rfl ?_
     refine K.lstore d24_28 (w':=30) rfl (L' := #[vr a, vi 0, vi 4, vj key, se, vi 0, vi 0, vi 0, vj x0, se]) rfl ?_
     refine K.lload d24_30 (w':=32) rfl rfl ?_
     refine K.lloadN d24_32 (w':=33) rfl rfl ?_
     refine K.lcmp_ge d24_33 d24_34 (pc1 := 37) rfl (by decide) (pc2 := 46) (by decide) (a := x0.toInt) (b := key.toInt) rfl rfl (fun c33_1 => ?_) (fun c33_1 => ?_)
     ·refine K.lload d24_46 (w':=48) rfl rfl ?_
      refine K.lloadN d24_48 (w':=49) rfl rfl ?_
      refine K.lcmp_le d24_49 d24_50 (pc1 := 53) rfl (by decide) (pc2 := 62) (by decide) (a := x0.toInt) (b := key.toInt) rfl rfl (fun c49_1 => ?_) (fun c49_1 => ?_)
      ·refine K.iload d24_62 (w':=64) rfl rfl ?_
       exact K.reti d24_64 (by decide) (by decide) ⟨(0 : Int32), rfl, by have ev : (0 : Int32).toInt = 0 := rfl; first | omega | (omega), rfl⟩
      ·refine K.iload d24_53 (w':=55) rfl rfl ?_
       refine K.iconst d24_55 (w':=56) rfl (z := 1) rfl ?_
       refine K.isub d24_56 (w':=57) rfl (z := (-1 : Int32)) (by decide) ?_
       refine K.istore d24_57 (w':=59) rfl (L' := #[vr a, vi 0, vi 4, vj key, se, vi 0, vi (-1), vi 0, vj x0, se]) rfl ?_
       refine K.goto d24_59 (by decide) (w':=65) (by decide) ?_
       refine K.goto d24_65 (by decide) (w':=8) (by decide) ?_
       refine K.iload d24_8 (w':=10) rfl rfl ?_
       refine K.iload d24_10 (w':=12) rfl rfl ?_
       refine K.icmp_gt d24_12 (pc1 := 15) rfl (by decide) (pc2 := 68) (by decide) (a := 0) (b := (-1)) rfl rfl (fun c12_2 => ?_) (fun c12_2 => ?_)
       ·exfalso; omega
       ·exfalso; omega
     ·refine K.iload d24_37 (w':=39) rfl rfl ?_
      refine K.iconst d24_39 (w':=40) rfl (z := 1) rfl ?_
      refine K.iadd d24_40 (w':=41) rfl (z := (1 : Int32)) (by decide) ?_
      refine K.istore d24_41 (w':=43) rfl (L' := #[vr a, vi 0, vi 4, vj key, se, vi 1, vi 0, vi 0, vj x0, se]) rfl ?_
      refine K.goto d24_43 (by decide) (w':=65) (by decide) ?_
      refine K.goto d24_65 (by decide) (w':=8) (by decide) ?_
      refine K.iload d24_8 (w':=10) rfl rfl ?_
      refine K.iload d24_10 (w':=12) rfl rfl ?_
      refine K.icmp_gt d24_12 (pc1 := 15) rfl (by decide) (pc2 := 68) (by decide) (a := 1) (b := 0) rfl rfl (fun c12_2 => ?_) (fun c12_2 => ?_)
      ·exfalso; omega
      ·exfalso; omega
  ·refine K.iload d24_37 (w':=39) rfl rfl ?_
   refine K.iconst d24_39 (w':=40) rfl (z := 1) rfl ?_
   refine K.iadd d24_40 (w':=41) rfl (z := (2 : Int32)) (by decide) ?_
   refine K.istore d24_41 (w':=43) rfl (L' := #[vr a, vi 0, vi 4, vj key, se, vi 2, vi 3, vi 1, vj x1, se]) rfl ?_
   refine K.goto d24_43 (by decide) (w':=65) (by decide) ?_
   refine K.goto d24_65 (by decide) (w':=8) (by decide) ?_
   refine K.iload d24_8 (w':=10) rfl rfl ?_
   refine K.iload d24_10 (w':=12) rfl rfl ?_
   refine K.icmp_gt d24_12 (pc1 := 15) rfl (by decide) (pc2 := 68) (by decide) (a := 2) (b := 3) rfl rfl (fun c12_1 => ?_) (fun c12_1 => ?_)
   ·exfalso; omega
   ·refine K.iload d24_15 (w':=17) rfl rfl ?_
    refine K.iload d24_17 (w':=19) rfl rfl ?_
    refine K.iadd d24_19 (w':=20) rfl (z := (5 : Int32)) (by decide) ?_
    refine K.iconst d24_20 (w':=21) rfl (z := 1) rfl ?_
    refine K.iushr d24_21 (w':=22) rfl (z := (2 : Int32)) (by decide) ?_
    refine K.istore d24_22 (w':=24) rfl (L' := #[vr a, vi 0, vi 4, vj key, se, vi 2, vi 3, vi 2, vj x1, se]) rfl ?_
    refine K.aloadN d24_24 (w':=25) rfl rfl rfl ?_
    refine K.iload d24_25 (w':=27) rfl rfl ?_
    refine K.lald d24_27 (w':=28) rfl P1 (i := 2) rfl rfl ?_
    refine K.lstore d24_28 (w':=30) rfl (L' := #[vr a, vi 0, vi 4, vj key, se, vi 2, vi 3, vi 2, vj x2, se]) rfl ?_
    refine K.lload d24_30 (w':=32) rfl rfl ?_
    refine K.lloadN d24_32 (w':=33) rfl rfl ?_
    refine K.lcmp_ge d24_33 d24_34 (pc1 := 37) rfl (by decide) (pc2 := 46) (by decide) (a := x2.toInt) (b := key.toInt) rfl rfl (fun c33_1 => ?_) (fun c33_1 => ?_)
    ·refine K.lload d24_46 (w':=48) rfl rfl ?_
     refine K.lloadN d24_48 (w':=49) rfl rfl ?_
     refine K.lcmp_le d24_49 d24_50 (pc1 := 53) rfl (by decide) (pc2 := 62) (by decide) (a := x2.toInt) (b := key.toInt) rfl rfl (fun c49 => ?_) (fun c49 => ?_)
     ·refine K.iload d24_62 (w':=64) rfl rfl ?_
      exact K.reti d24_64 (by decide) (by decide) ⟨(2 : Int32), rfl, by have ev : (2 : Int32).toInt = 2 := rfl; first | omega | (omega), rfl⟩
     ·refine K.iload d24_53 (w':=55) rfl rfl ?_
      refine K.iconst d24_55 (w':=56) rfl (z := 1) rfl ?_
      refine K.isub d24_56 (w':=57) rfl (z := (1 : Int32)) (by decide) ?_
      refine K.istore d24_57 (w':=59) rfl (L' := #[vr a, vi 0, vi 4, vj key, se, vi 2, vi 1, vi 2, vj x2, se]) rfl ?_
      refine K.goto d24_59 (by decide) (w':=65) (by decide) ?_
      refine K.goto d24_65 (by decide) (w':=8) (by decide) ?_
      refine K.iload d24_8 (w':=10) rfl rfl ?_
      refine K.iload d24_10 (w':=12) rfl rfl ?_
      refine K.icmp_gt d24_12 (pc1 := 15) rfl (by decide) (pc2 := 68) (by decide) (a := 2) (b := 1) rfl rfl (fun c12_2 => ?_) (fun c12_2 => ?_)
      ·exfalso; omega
      ·exfalso; omega
    ·refine K.iload d24_37 (w':=39) rfl rfl ?_
     refine K.iconst d24_39 (w':=40) rfl (z := 1) rfl ?_
     refine K.iadd d24_40 (w':=41) rfl (z := (3 : Int32)) (by decide) ?_
     refine K.istore d24_41 (w':=43) rfl (L' := #[vr a, vi 0, vi 4, vj key, se, vi 3, vi 3, vi 2, vj x2, se]) rfl ?_
     refine K.goto d24_43 (by decide) (w':=65) (by decide) ?_
     refine K.goto d24_65 (by decide) (w':=8) (by decide) ?_
     refine K.iload d24_8 (w':=10) rfl rfl ?_
     refine K.iload d24_10 (w':=12) rfl rfl ?_
     refine K.icmp_gt d24_12 (pc1 := 15) rfl (by decide) (pc2 := 68) (by decide) (a := 3) (b := 3) rfl rfl (fun c12_2 => ?_) (fun c12_2 => ?_)
     ·exfalso; omega
     ·refine K.iload d24_15 (w':=17) rfl rfl ?_
      refine K.iload d24_17 (w':=19) rfl rfl ?_
      refine K.iadd d24_19 (w':=20) rfl (z := (6 : Int32)) (by decide) ?_
      refine K.iconst d24_20 (w':=21) rfl (z := 1) rfl ?_
      refine K.iushr d24_21 (w':=22) rfl (z := (3 : Int32)) (by decide) ?_
      refine K.istore d24_22 (w':=24) rfl (L' := #[vr a, vi 0, vi 4, vj key, se, vi 3, vi 3, vi 3, vj x2, se]) rfl ?_
      refine K.aloadN d24_24 (w':=25) rfl rfl rfl ?_
      refine K.iload d24_25 (w':=27) rfl rfl ?_
      refine K.lald d24_27 (w':=28) rfl P1 (i := 3) rfl rfl ?_
      refine K.lstore d24_28 (w':=30) rfl (L' := #[vr a, vi 0, vi 4, vj key, se, vi 3, vi 3, vi 3, vj x3, se]) rfl ?_
      refine K.lload d24_30 (w':=32) rfl rfl ?_
      refine K.lloadN d24_32 (w':=33) rfl rfl ?_
      refine K.lcmp_ge d24_33 d24_34 (pc1 := 37) rfl (by decide) (pc2 := 46) (by decide) (a := x3.toInt) (b := key.toInt) rfl rfl (fun c33_2 => ?_) (fun c33_2 => ?_)
      ·refine K.lload d24_46 (w':=48) rfl rfl ?_
       refine K.lloadN d24_48 (w':=49) rfl rfl ?_
       refine K.lcmp_le d24_49 d24_50 (pc1 := 53) rfl (by decide) (pc2 := 62) (by decide) (a := x3.toInt) (b := key.toInt) rfl rfl (fun c49 => ?_) (fun c49 => ?_)
       ·refine K.iload d24_62 (w':=64) rfl rfl ?_
        exact K.reti d24_64 (by decide) (by decide) ⟨(3 : Int32), rfl, by have ev : (3 : Int32).toInt = 3 := rfl; first | omega | (omega), rfl⟩
       ·refine K.iload d24_53 (w':=55) rfl rfl ?_
        refine K.iconst d24_55 (w':=56) rfl (z := 1) rfl ?_
        refine K.isub d24_56 (w':=57) rfl (z := (2 : Int32)) (by decide) ?_
        refine K.istore d24_57 (w':=59) rfl (L' := #[vr a, vi 0, vi 4, vj key, se, vi 3, vi 2, vi 3, vj x3, se]) rfl ?_
        refine K.goto d24_59 (by decide) (w':=65) (by decide) ?_
        refine K.goto d24_65 (by decide) (w':=8) (by decide) ?_
        refine K.iload d24_8 (w':=10) rfl rfl ?_
        refine K.iload d24_10 (w':=12) rfl rfl ?_
        refine K.icmp_gt d24_12 (pc1 := 15) rfl (by decide) (pc2 := 68) (by decide) (a := 3) (b := 2) rfl rfl (fun c12_3 => ?_) (fun c12_3 => ?_)
        ·exfalso; omega
        ·exfalso; omega
      ·refine K.iload d24_37 (w':=39) rfl rfl ?_
       refine K.iconst d24_39 (w':=40) rfl (z := 1) rfl ?_
       refine K.iadd d24_40 (w':=41) rfl (z := (4 : Int32)) (by decide) ?_
       refine K.istore d24_41 (w':=43) rfl (L' := #[vr a, vi 0, vi 4, vj key, se, vi 4, vi 3, vi 3, vj x3, se]) rfl ?_
       refine K.goto d24_43 (by decide) (w':=65) (by decide) ?_
       refine K.goto d24_65 (by decide) (w':=8) (by decide) ?_
       refine K.iload d24_8 (w':=10) rfl rfl ?_
       refine K.iload d24_10 (w':=12) rfl rfl ?_
       refine K.icmp_gt d24_12 (pc1 := 15) rfl (by decide) (pc2 := 68) (by decide) (a := 4) (b := 3) rfl rfl (fun c12_3 => ?_) (fun c12_3 => ?_)
       ·exfalso; omega
       ·exfalso; omega
theorem c_b4 (l : Launch) (Z : State) (a0 : Array Value) (hw : HW a0 Z) (n0 : Nat) (h : Heap) (a : Addr) (key : Int64) (x0 : Int64) (x1 : Int64) (x2 : Int64) (x3 : Int64) (P1 : Ary Z h a .long [(.long x0), (.long x1), (.long x2), (.long x3)]) (hin : x0.toInt < x1.toInt ∧ x1.toInt < x2.toInt ∧ x2.toInt < x3.toInt) (hk : key.toInt = x0.toInt ∨ key.toInt = x1.toInt ∨ key.toInt = x2.toInt ∨ key.toInt = x3.toInt) : MeetsW l Z n0 (⟨"java/util/Arrays", "binarySearch", "([JJ)I"⟩ : MethodName) B23 3 (some .int) ({ frames := 1, cells := 0, slots := 0, locals := 21 } : Room) #[(.ref a), (.long key)] h (fun v h' => ∃ (z : Int32), v = some (.int z) ∧ ((z.toInt = 0 ∧ key.toInt = x0.toInt) ∨ (z.toInt = 1 ∧ key.toInt = x1.toInt) ∨ (z.toInt = 2 ∧ key.toInt = x2.toInt) ∨ (z.toInt = 3 ∧ key.toInt = x3.toInt)) ∧ h = h') := by
 refine MeetsW.intro (plainFor_of_name pn_java_util_Arrays) (L0 := #[vr a, vj key, se]) (fun m => rfl) ?_
 intro m G K0
 have K : Cx l ({ frames := 1, cells := 0, slots := 0, locals := 21 } : Room) Z n0 _ "java/util/Arrays" "binarySearch" B23 3 (some .int) m G := K0
 have hw88 := tb hw (i:=88) rfl
 have hw137 := tb hw (i:=137) rfl
 have hw138 := tb hw (i:=138) rfl
 have hw139 := tb hw (i:=139) rfl
 refine K.aloadN d23_0 (w':=1) rfl rfl rfl ?_
 refine K.iconst d23_1 (w':=2) rfl (z := 0) rfl ?_
 refine K.aloadN d23_2 (w':=3) rfl rfl rfl ?_
 refine K.alen d23_3 (w':=4) rfl P1 (fun n1 e_n1 => ?_)
 have t_n1 : n1.toInt = 4 := e_n1
 have cs_n1 : n1 = 4 := by
  have q : n1.toInt = 4 := by omega
  rcases q with q
  ·exact eqI q
 rcases cs_n1 with rfl
 ·refine K.lloadN d23_4 (w':=5) rfl rfl ?_
  refine K.calls (argsL := [(.ref a), (.int 0), (.int 4), (.long key)]) (rest := []) d23_5 (w':=8) rfl (c_b0_4 l Z a0 hw n0 h (a := a) (key := key) (x0 := x0) (x1 := x1) (x2 := x2) (x3 := x3) P1 hin hk) hw137 hw138 hw88 hw139 (by decide) pd_13 rfl rfl (W := 0) (Nat.le_refl _) (by decide) (by decide) (by decide) (by decide) (fun v_3 h_1 q_2 => ?_)
  obtain ⟨w1, rfl, t_w1, rfl⟩ := q_2
  show G h 0 0 (mkF m 8 #[vr a, vj key, se] [(.int w1)])
  exact K.reti d23_8 (by decide) (by decide) ⟨w1, rfl, by exact t_w1, rfl⟩
theorem c_bs (l : Launch) (Z : State) (a0 : Array Value) (hw : HW a0 Z) (n0 : Nat) (h : Heap) (a : Addr) (key : Int64) (ds : List Int64) (P1 : Ary Z h a .long (ds.map Value.long)) (hds : (ds.map Int64.toInt).Pairwise (· < ·) ∧ 1 ≤ ds.length ∧ ds.length ≤ 4 ∧ ∃ d ∈ ds, d.toInt = key.toInt) : MeetsW l Z n0 (⟨"java/util/Arrays", "binarySearch", "([JJ)I"⟩ : MethodName) B23 3 (some .int) ({ frames := 1, cells := 0, slots := 0, locals := 21 } : Room) #[(.ref a), (.long key)] h (fun v h' => ∃ (z : Int32), v = some (.int z) ∧ (∃ i : Nat, z.toInt = i ∧ i < ds.length ∧ ∃ d, ds[i]? = some d ∧ d.toInt = key.toInt) ∧ h = h') := by
 obtain ⟨h1, h2, h3, h4⟩ := hds
 match ds, P1, h1, h2, h3, h4 with
 | [], _, _, h2, _, _ => simp at h2
 | _ :: _ :: _ :: _ :: _ :: _, _, _, _, h3, _ => simp at h3
 | [x0], P1, h1, _, _, h4 =>
  refine (c_b1 l Z a0 hw n0 h (a := a) (key := key) (x0 := x0) P1 (by simp [List.pairwise_cons] at h1 ⊢ <;> omega) (by obtain ⟨d, hd, e⟩ := h4; simp at hd; rcases hd with rfl <;> omega)).mono ?_
  rintro v h' ⟨z, rfl, hz, e⟩
  refine ⟨z, rfl, ?_, e⟩
  rcases hz with ⟨g1, g2⟩
  ·exact ⟨0, by omega, by simp, x0, rfl, g2.symm⟩
 | [x0, x1], P1, h1, _, _, h4 =>
  refine (c_b2 l Z a0 hw n0 h (a := a) (key := key) (x0 := x0) (x1 := x1) P1 (by simp [List.pairwise_cons] at h1 ⊢ <;> omega) (by obtain ⟨d, hd, e⟩ := h4; simp at hd; rcases hd with rfl | rfl <;> omega)).mono ?_
  rintro v h' ⟨z, rfl, hz, e⟩
  refine ⟨z, rfl, ?_, e⟩
  rcases hz with ⟨g1, g2⟩ | ⟨g1, g2⟩
  ·exact ⟨0, by omega, by simp, x0, rfl, g2.symm⟩
  ·exact ⟨1, by omega, by simp, x1, rfl, g2.symm⟩
 | [x0, x1, x2], P1, h1, _, _, h4 =>
  refine (c_b3 l Z a0 hw n0 h (a := a) (key := key) (x0 := x0) (x1 := x1) (x2 := x2) P1 (by simp [List.pairwise_cons] at h1 ⊢ <;> omega) (by obtain ⟨d, hd, e⟩ := h4; simp at hd; rcases hd with rfl | rfl | rfl <;> omega)).mono ?_
  rintro v h' ⟨z, rfl, hz, e⟩
  refine ⟨z, rfl, ?_, e⟩
  rcases hz with ⟨g1, g2⟩ | ⟨g1, g2⟩ | ⟨g1, g2⟩
  ·exact ⟨0, by omega, by simp, x0, rfl, g2.symm⟩
  ·exact ⟨1, by omega, by simp, x1, rfl, g2.symm⟩
  ·exact ⟨2, by omega, by simp, x2, rfl, g2.symm⟩
 | [x0, x1, x2, x3], P1, h1, _, _, h4 =>
  refine (c_b4 l Z a0 hw n0 h (a := a) (key := key) (x0 := x0) (x1 := x1) (x2 := x2) (x3 := x3) P1 (by simp [List.pairwise_cons] at h1 ⊢ <;> omega) (by obtain ⟨d, hd, e⟩ := h4; simp at hd; rcases hd with rfl | rfl | rfl | rfl <;> omega)).mono ?_
  rintro v h' ⟨z, rfl, hz, e⟩
  refine ⟨z, rfl, ?_, e⟩
  rcases hz with ⟨g1, g2⟩ | ⟨g1, g2⟩ | ⟨g1, g2⟩ | ⟨g1, g2⟩
  ·exact ⟨0, by omega, by simp, x0, rfl, g2.symm⟩
  ·exact ⟨1, by omega, by simp, x1, rfl, g2.symm⟩
  ·exact ⟨2, by omega, by simp, x2, rfl, g2.symm⟩
  ·exact ⟨3, by omega, by simp, x3, rfl, g2.symm⟩
theorem d22_0 : decode B22 0 = .ok (.aload_n 0, 1) := by decide +kernel
theorem d22_1 : decode B22 1 = .ok (.getfield 58, 3) := by decide +kernel
theorem d22_4 : decode B22 4 = .ok (.arraylength, 1) := by decide +kernel
theorem d22_5 : decode B22 5 = .ok (.newarray .int, 2) := by decide +kernel
theorem d22_7 : decode B22 7 = .ok (.astore_n 2, 1) := by decide +kernel
theorem d22_8 : decode B22 8 = .ok (.iconst 0, 1) := by decide +kernel
theorem d22_9 : decode B22 9 = .ok (.istore_n 3, 1) := by decide +kernel
theorem d22_10 : decode B22 10 = .ok (.iload_n 3, 1) := by decide +kernel
theorem d22_11 : decode B22 11 = .ok (.aload_n 2, 1) := by decide +kernel
theorem d22_12 : decode B22 12 = .ok (.arraylength, 1) := by decide +kernel
theorem d22_13 : decode B22 13 = .ok (.if_icmp .ge 34, 3) := by decide +kernel
theorem d22_16 : decode B22 16 = .ok (.aload_n 2, 1) := by decide +kernel
theorem d22_17 : decode B22 17 = .ok (.iload_n 3, 1) := by decide +kernel
theorem d22_18 : decode B22 18 = .ok (.aload_n 1, 1) := by decide +kernel
theorem d22_19 : decode B22 19 = .ok (.arraylength, 1) := by decide +kernel
theorem d22_20 : decode B22 20 = .ok (.iastore, 1) := by decide +kernel
theorem d22_21 : decode B22 21 = .ok (.aload_n 0, 1) := by decide +kernel
theorem d22_22 : decode B22 22 = .ok (.getfield 61, 3) := by decide +kernel
theorem d22_25 : decode B22 25 = .ok (.ifnull 16, 3) := by decide +kernel
theorem d22_41 : decode B22 41 = .ok (.iinc 3 1, 3) := by decide +kernel
theorem d22_44 : decode B22 44 = .ok (.goto (-34), 3) := by decide +kernel
theorem d22_47 : decode B22 47 = .ok (.aload_n 2, 1) := by decide +kernel
theorem d22_48 : decode B22 48 = .ok (.areturn, 1) := by decide +kernel
theorem c_spc (l : Launch) (Z : State) (a0 : Array Value) (hw : HW a0 Z) (n0 : Nat) (h : Heap) (a : Addr) (b : Addr) (w : Addr) (ds : List Int64) (Z0 : n0 ≤ h.size) (P2 : Exa Z h a sI) (P3 : Fld Z h a sI "weights" "[J" (.ref w)) (P4 : Ary Z h w .long [(.long 1), (.long 2), (.long 3)]) (P5 : Ary Z h b .long (ds.map Value.long)) (hds : (ds.map Int64.toInt).Pairwise (· < ·) ∧ 1 ≤ ds.length ∧ ds.length ≤ 4) (P7 : Fld Z h a sI "start" "[J" .null) : MeetsW l Z n0 (⟨sI, "startPositions", "([J)[I"⟩ : MethodName) B22 4 (some (.array .int)) ({ frames := 0, cells := 1, slots := 3, locals := 0 } : Room) #[(.ref a), (.ref b)] h (fun v h' => ∃ (o : Addr) (p0 : Int32) (p1 : Int32) (p2 : Int32), v = some (.ref o) ∧ Keep h h' [] ∧ h.size ≤ o ∧ n0 ≤ o ∧ Ary Z h' o .int [(.int p0), (.int p1), (.int p2)]) := by
 refine MeetsW.intro (plainFor_of_name pn_com_example_odograph_odograph_model_Instance) (L0 := #[vr a, vr b, un, un]) (fun m => rfl) ?_
 intro m G K0
 have K : Cx l ({ frames := 0, cells := 1, slots := 3, locals := 0 } : Room) Z n0 _ sI "startPositions" B22 4 (some (.array .int)) m G := K0
 have hw5 := tb hw (i:=5) rfl
 have hw59 := tb hw (i:=59) rfl
 have hw61 := tb hw (i:=61) rfl
 refine K.aloadN d22_0 (w':=1) rfl rfl rfl ?_
 refine K.getL d22_1 (w':=4) rfl hw59 P3 ?_
 refine K.alen d22_4 (w':=5) rfl P4 (fun n1 e_n1 => ?_)
 have t_n1 : n1.toInt = 3 := e_n1
 have cs_n1 : n1 = 3 := by
  have q : n1.toInt = 3 := by omega
  rcases q with q
  ·exact eqI q
 rcases cs_n1 with rfl
 ·refine K.newa d22_5 (w':=7) rfl hw5 (k := 3) (cap := 3) rfl (by decide) (by decide) (by decide) (by decide) (ad := "[I") (by decide) (fun h_2 a_1 g_a_1 E_3 A_4 x_a_1 => ?_)
  have ge_a_1 : n0 ≤ a_1 := g_a_1 ▸ Z0
  have sb_a_1 : h.size ≤ a_1 := g_a_1 ▸ (Nat.le_refl _)
  have A_5 : Ary Z h_2 a_1 .int [(.int 0), (.int 0), (.int 0)] := A_4
  refine K.astoreN d22_7 (w':=8) rfl rfl (L' := #[vr a, vr b, vr a_1, un]) rfl ?_
  refine K.iconst d22_8 (w':=9) rfl (z := 0) rfl ?_
  refine K.istoreN d22_9 (w':=10) rfl (L' := #[vr a, vr b, vr a_1, vi 0]) rfl ?_
  refine K.iloadN d22_10 (w':=11) rfl rfl ?_
  refine K.aloadN d22_11 (w':=12) rfl rfl rfl ?_
  refine K.alen d22_12 (w':=13) rfl A_5 (fun z12 e_z12 => ?_)
  have t_z12 : z12.toInt = 3 := e_z12
  refine K.icmp_ge d22_13 (pc1 := 16) rfl (by decide) (pc2 := 47) (by decide) (a := 0) (b := z12.toInt) rfl rfl (fun c13 => ?_) (fun c13 => ?_)
  ·exfalso; (have o0 : (0 : Int32).toInt = 0 := rfl; have o1 : (1 : Int32).toInt = 1 := rfl; have o2 : (2 : Int32).toInt = 2 := rfl; have o3 : (3 : Int32).toInt = 3 := rfl; omega)
  ·refine K.aloadN d22_16 (w':=17) rfl rfl rfl ?_
   refine K.iloadN d22_17 (w':=18) rfl rfl ?_
   refine K.aloadN d22_18 (w':=19) rfl rfl rfl ?_
   have f_6 := (P5.ext E_3)
   refine K.alen d22_19 (w':=20) rfl f_6 (fun z19 e_z19 => ?_)
   have t_z19 : z19.toInt = (ds.length : Nat) := by simpa using e_z19
   refine K.iast d22_20 (w':=21) rfl A_5 (i := 0) rfl (show 0 < 3 by decide) ge_a_1 (fun h_7 W_8 A_9 => ?_)
   have A_10 : Ary Z h_7 a_1 .int [(.int z19), (.int 0), (.int 0)] := A_9
   refine K.aloadN d22_21 (w':=22) rfl rfl rfl ?_
   have ne_11 := (Nat.ne_of_lt (Nat.lt_of_lt_of_le P2.lt (Nat.le_trans (Nat.le_refl _) (Nat.le_of_eq g_a_1.symm))))
   have f_12 := ((P7.ext E_3).other W_8 (Or.inl ne_11))
   refine K.getL d22_22 (w':=25) rfl hw61 f_12 ?_
   refine K.ifnull0 d22_25 (by decide) (pc2 := 41) (by decide) ?_
   refine K.iinc d22_41 (w':=44) rfl rfl (z := (1 : Int32)) rfl (L' := #[vr a, vr b, vr a_1, vi 1]) rfl ?_
   refine K.goto d22_44 (by decide) (w':=10) (by decide) ?_
   refine K.iloadN d22_10 (w':=11) rfl rfl ?_
   refine K.aloadN d22_11 (w':=12) rfl rfl rfl ?_
   refine K.alen d22_12 (w':=13) rfl A_10 (fun z12_1 e_z12_1 => ?_)
   have t_z12_1 : z12_1.toInt = 3 := e_z12_1
   refine K.icmp_ge d22_13 (pc1 := 16) rfl (by decide) (pc2 := 47) (by decide) (a := 1) (b := z12_1.toInt) rfl rfl (fun c13_1 => ?_) (fun c13_1 => ?_)
   ·exfalso; (have o0 : (0 : Int32).toInt = 0 := rfl; have o1 : (1 : Int32).toInt = 1 := rfl; have o2 : (2 : Int32).toInt = 2 := rfl; have o3 : (3 : Int32).toInt = 3 := rfl; omega)
   ·refine K.aloadN d22_16 (w':=17) rfl rfl rfl ?_
    refine K.iloadN d22_17 (w':=18) rfl rfl ?_
    refine K.aloadN d22_18 (w':=19) rfl rfl rfl ?_
    have ne_13 := (Nat.ne_of_lt (Nat.lt_of_lt_of_le P5.lt (Nat.le_trans (Nat.le_refl _) (Nat.le_of_eq g_a_1.symm))))
    have f_14 := (f_6.other W_8 ne_13)
    refine K.alen d22_19 (w':=20) rfl f_14 (fun z19_1 e_z19_1 => ?_)
    have t_z19_1 : z19_1.toInt = (ds.length : Nat) := by simpa using e_z19_1
    refine K.iast d22_20 (w':=21) rfl A_10 (i := 1) rfl (show 1 < 3 by decide) ge_a_1 (fun h_15 W_16 A_17 => ?_)
    have A_18 : Ary Z h_15 a_1 .int [(.int z19), (.int z19_1), (.int 0)] := A_17
    refine K.aloadN d22_21 (w':=22) rfl rfl rfl ?_
    have f_19 := (f_12.other W_16 (Or.inl ne_11))
    refine K.getL d22_22 (w':=25) rfl hw61 f_19 ?_
    refine K.ifnull0 d22_25 (by decide) (pc2 := 41) (by decide) ?_
    refine K.iinc d22_41 (w':=44) rfl rfl (z := (2 : Int32)) rfl (L' := #[vr a, vr b, vr a_1, vi 2]) rfl ?_
    refine K.goto d22_44 (by decide) (w':=10) (by decide) ?_
    refine K.iloadN d22_10 (w':=11) rfl rfl ?_
    refine K.aloadN d22_11 (w':=12) rfl rfl rfl ?_
    refine K.alen d22_12 (w':=13) rfl A_18 (fun z12_2 e_z12_2 => ?_)
    have t_z12_2 : z12_2.toInt = 3 := e_z12_2
    refine K.icmp_ge d22_13 (pc1 := 16) rfl (by decide) (pc2 := 47) (by decide) (a := 2) (b := z12_2.toInt) rfl rfl (fun c13_2 => ?_) (fun c13_2 => ?_)
    ·exfalso; (have o0 : (0 : Int32).toInt = 0 := rfl; have o1 : (1 : Int32).toInt = 1 := rfl; have o2 : (2 : Int32).toInt = 2 := rfl; have o3 : (3 : Int32).toInt = 3 := rfl; omega)
    ·refine K.aloadN d22_16 (w':=17) rfl rfl rfl ?_
     refine K.iloadN d22_17 (w':=18) rfl rfl ?_
     refine K.aloadN d22_18 (w':=19) rfl rfl rfl ?_
     have f_20 := (f_14.other W_16 ne_13)
     refine K.alen d22_19 (w':=20) rfl f_20 (fun z19_2 e_z19_2 => ?_)
     have t_z19_2 : z19_2.toInt = (ds.length : Nat) := by simpa using e_z19_2
     refine K.iast d22_20 (w':=21) rfl A_18 (i := 2) rfl (show 2 < 3 by decide) ge_a_1 (fun h_21 W_22 A_23 => ?_)
     have A_24 : Ary Z h_21 a_1 .int [(.int z19), (.int z19_1), (.int z19_2)] := A_23
     refine K.aloadN d22_21 (w':=22) rfl rfl rfl ?_
     have f_25 := (f_19.other W_22 (Or.inl ne_11))
     refine K.getL d22_22 (w':=25) rfl hw61 f_25 ?_
     refine K.ifnull0 d22_25 (by decide) (pc2 := 41) (by decide) ?_
     refine K.iinc d22_41 (w':=44) rfl rfl (z := (3 : Int32)) rfl (L' := #[vr a, vr b, vr a_1, vi 3]) rfl ?_
     refine K.goto d22_44 (by decide) (w':=10) (by decide) ?_
     refine K.iloadN d22_10 (w':=11) rfl rfl ?_
     refine K.aloadN d22_11 (w':=12) rfl rfl rfl ?_
     refine K.alen d22_12 (w':=13) rfl A_24 (fun z12_3 e_z12_3 => ?_)
     have t_z12_3 : z12_3.toInt = 3 := e_z12_3
     refine K.icmp_ge d22_13 (pc1 := 16) rfl (by decide) (pc2 := 47) (by decide) (a := 3) (b := z12_3.toInt) rfl rfl (fun c13_3 => ?_) (fun c13_3 => ?_)
     ·refine K.aloadN d22_47 (w':=48) rfl rfl rfl ?_
      exact K.reta d22_48 rfl rfl rfl (by decide) (by decide) ⟨a_1, z19, z19_1, z19_2, rfl, (((((Keep.refl h []).ext E_3).wr W_8 (Or.inr sb_a_1)).wr W_16 (Or.inr sb_a_1)).wr W_22 (Or.inr sb_a_1)), sb_a_1, ge_a_1, A_24⟩
     ·exfalso; (have o0 : (0 : Int32).toInt = 0 := rfl; have o1 : (1 : Int32).toInt = 1 := rfl; have o2 : (2 : Int32).toInt = 2 := rfl; have o3 : (3 : Int32).toInt = 3 := rfl; omega)
theorem d22_28 : decode B22 28 = .ok (.aload_n 2, 1) := by decide +kernel
theorem d22_29 : decode B22 29 = .ok (.iload_n 3, 1) := by decide +kernel
theorem d22_30 : decode B22 30 = .ok (.aload_n 1, 1) := by decide +kernel
theorem d22_31 : decode B22 31 = .ok (.aload_n 0, 1) := by decide +kernel
theorem d22_32 : decode B22 32 = .ok (.getfield 61, 3) := by decide +kernel
theorem d22_35 : decode B22 35 = .ok (.iload_n 3, 1) := by decide +kernel
theorem d22_36 : decode B22 36 = .ok (.laload, 1) := by decide +kernel
theorem d22_37 : decode B22 37 = .ok (.invokestatic 118, 3) := by decide +kernel
theorem pd_14 : parseMethodDescriptor "([JJ)I" = some ⟨[(.array .long), .long], some .int⟩ := by decide +kernel
theorem d22_40 : decode B22 40 = .ok (.iastore, 1) := by decide +kernel
theorem c_spw (l : Launch) (Z : State) (a0 : Array Value) (hw : HW a0 Z) (n0 : Nat) (h : Heap) (a : Addr) (b : Addr) (w : Addr) (s : Addr) (s0 : Int64) (s1 : Int64) (s2 : Int64) (ds : List Int64) (Z0 : n0 ≤ h.size) (P2 : Exa Z h a sI) (P3 : Fld Z h a sI "weights" "[J" (.ref w)) (P4 : Ary Z h w .long [(.long 1), (.long 2), (.long 3)]) (P5 : Ary Z h b .long (ds.map Value.long)) (hds : (ds.map Int64.toInt).Pairwise (· < ·) ∧ 1 ≤ ds.length ∧ ds.length ≤ 4) (P7 : Fld Z h a sI "start" "[J" (.ref s)) (P8 : Ary Z h s .long [(.long s0), (.long s1), (.long s2)]) (hin : (∃ d ∈ ds, d.toInt = s0.toInt) ∧ (∃ d ∈ ds, d.toInt = s1.toInt) ∧ (∃ d ∈ ds, d.toInt = s2.toInt)) : MeetsW l Z n0 (⟨sI, "startPositions", "([J)[I"⟩ : MethodName) B22 4 (some (.array .int)) ({ frames := 2, cells := 1, slots := 3, locals := 37 } : Room) #[(.ref a), (.ref b)] h (fun v h' => ∃ (o : Addr) (p0 : Int32) (p1 : Int32) (p2 : Int32), v = some (.ref o) ∧ Keep h h' [] ∧ h.size ≤ o ∧ n0 ≤ o ∧ Ary Z h' o .int [(.int p0), (.int p1), (.int p2)] ∧ ((∃ i : Nat, p0.toInt = i ∧ i < ds.length ∧ ∃ d, ds[i]? = some d ∧ d.toInt = s0.toInt) ∧ (∃ i : Nat, p1.toInt = i ∧ i < ds.length ∧ ∃ d, ds[i]? = some d ∧ d.toInt = s1.toInt) ∧ (∃ i : Nat, p2.toInt = i ∧ i < ds.length ∧ ∃ d, ds[i]? = some d ∧ d.toInt = s2.toInt))) := by
 refine MeetsW.intro (plainFor_of_name pn_com_example_odograph_odograph_model_Instance) (L0 := #[vr a, vr b, un, un]) (fun m => rfl) ?_
 intro m G K0
 have K : Cx l ({ frames := 2, cells := 1, slots := 3, locals := 37 } : Room) Z n0 _ sI "startPositions" B22 4 (some (.array .int)) m G := K0
 have hw5 := tb hw (i:=5) rfl
 have hw59 := tb hw (i:=59) rfl
 have hw61 := tb hw (i:=61) rfl
 have hw88 := tb hw (i:=88) rfl
 have hw134 := tb hw (i:=134) rfl
 have hw135 := tb hw (i:=135) rfl
 have hw136 := tb hw (i:=136) rfl
 refine K.aloadN d22_0 (w':=1) rfl rfl rfl ?_
 refine K.getL d22_1 (w':=4) rfl hw59 P3 ?_
 refine K.alen d22_4 (w':=5) rfl P4 (fun n1 e_n1 => ?_)
 have t_n1 : n1.toInt = 3 := e_n1
 have cs_n1 : n1 = 3 := by
  have q : n1.toInt = 3 := by omega
  rcases q with q
  ·exact eqI q
 rcases cs_n1 with rfl
 ·refine K.newa d22_5 (w':=7) rfl hw5 (k := 3) (cap := 3) rfl (by decide) (by decide) (by decide) (by decide) (ad := "[I") (by decide) (fun h_2 a_1 g_a_1 E_3 A_4 x_a_1 => ?_)
  have ge_a_1 : n0 ≤ a_1 := g_a_1 ▸ Z0
  have sb_a_1 : h.size ≤ a_1 := g_a_1 ▸ (Nat.le_refl _)
  have A_5 : Ary Z h_2 a_1 .int [(.int 0), (.int 0), (.int 0)] := A_4
  refine K.astoreN d22_7 (w':=8) rfl rfl (L' := #[vr a, vr b, vr a_1, un]) rfl ?_
  refine K.iconst d22_8 (w':=9) rfl (z := 0) rfl ?_
  refine K.istoreN d22_9 (w':=10) rfl (L' := #[vr a, vr b, vr a_1, vi 0]) rfl ?_
  refine K.iloadN d22_10 (w':=11) rfl rfl ?_
  refine K.aloadN d22_11 (w':=12) rfl rfl rfl ?_
  refine K.alen d22_12 (w':=13) rfl A_5 (fun z12 e_z12 => ?_)
  have t_z12 : z12.toInt = 3 := e_z12
  refine K.icmp_ge d22_13 (pc1 := 16) rfl (by decide) (pc2 := 47) (by decide) (a := 0) (b := z12.toInt) rfl rfl (fun c13 => ?_) (fun c13 => ?_)
  ·exfalso; (have o0 : (0 : Int32).toInt = 0 := rfl; have o1 : (1 : Int32).toInt = 1 := rfl; have o2 : (2 : Int32).toInt = 2 := rfl; have o3 : (3 : Int32).toInt = 3 := rfl; omega)
  ·refine K.aloadN d22_16 (w':=17) rfl rfl rfl ?_
   refine K.iloadN d22_17 (w':=18) rfl rfl ?_
   refine K.aloadN d22_18 (w':=19) rfl rfl rfl ?_
   have f_6 := (P5.ext E_3)
   refine K.alen d22_19 (w':=20) rfl f_6 (fun z19 e_z19 => ?_)
   have t_z19 : z19.toInt = (ds.length : Nat) := by simpa using e_z19
   refine K.iast d22_20 (w':=21) rfl A_5 (i := 0) rfl (show 0 < 3 by decide) ge_a_1 (fun h_7 W_8 A_9 => ?_)
   have A_10 : Ary Z h_7 a_1 .int [(.int z19), (.int 0), (.int 0)] := A_9
   refine K.aloadN d22_21 (w':=22) rfl rfl rfl ?_
   have ne_11 := (Nat.ne_of_lt (Nat.lt_of_lt_of_le P2.lt (Nat.le_trans (Nat.le_refl _) (Nat.le_of_eq g_a_1.symm))))
   have f_12 := ((P7.ext E_3).other W_8 (Or.inl ne_11))
   refine K.getL d22_22 (w':=25) rfl hw61 f_12 ?_
   refine K.ifnull1 d22_25 (w':=28) rfl ?_
   refine K.aloadN d22_28 (w':=29) rfl rfl rfl ?_
   refine K.iloadN d22_29 (w':=30) rfl rfl ?_
   refine K.aloadN d22_30 (w':=31) rfl rfl rfl ?_
   refine K.aloadN d22_31 (w':=32) rfl rfl rfl ?_
   refine K.getL d22_32 (w':=35) rfl hw61 f_12 ?_
   refine K.iloadN d22_35 (w':=36) rfl rfl ?_
   have ne_13 := (Nat.ne_of_lt (Nat.lt_of_lt_of_le P8.lt (Nat.le_trans (Nat.le_refl _) (Nat.le_of_eq g_a_1.symm))))
   have f_14 := ((P8.ext E_3).other W_8 ne_13)
   refine K.lald d22_36 (w':=37) rfl f_14 (i := 0) rfl rfl ?_
   have ne_15 := (Nat.ne_of_lt (Nat.lt_of_lt_of_le P5.lt (Nat.le_trans (Nat.le_refl _) (Nat.le_of_eq g_a_1.symm))))
   have f_16 := (f_6.other W_8 ne_15)
   refine K.calls (argsL := [(.ref b), (.long s0)]) (rest := [(.int 0), (.ref a_1)]) d22_37 (w':=40) rfl (c_bs l Z a0 hw n0 h_7 (a := b) (key := s0) (ds := ds) f_16 ⟨hds.1, hds.2.1, hds.2.2, hin.1⟩) hw134 hw135 hw88 hw136 (by decide) pd_14 rfl rfl (W := 2) (Nat.le_refl _) (by decide) (by decide) (by decide) (by decide) (fun v_19 h_17 q_18 => ?_)
   obtain ⟨pw0, rfl, t_pw0, rfl⟩ := q_18
   show G h_7 1 3 (mkF m 40 #[vr a, vr b, vr a_1, vi 0] [(.int pw0), (.int 0), (.ref a_1)])
   refine K.iast d22_40 (w':=41) rfl A_10 (i := 0) rfl (show 0 < 3 by decide) ge_a_1 (fun h_20 W_21 A_22 => ?_)
   have A_23 : Ary Z h_20 a_1 .int [(.int pw0), (.int 0), (.int 0)] := A_22
   refine K.iinc d22_41 (w':=44) rfl rfl (z := (1 : Int32)) rfl (L' := #[vr a, vr b, vr a_1, vi 1]) rfl ?_
   refine K.goto d22_44 (by decide) (w':=10) (by decide) ?_
   refine K.iloadN d22_10 (w':=11) rfl rfl ?_
   refine K.aloadN d22_11 (w':=12) rfl rfl rfl ?_
   refine K.alen d22_12 (w':=13) rfl A_23 (fun z12_1 e_z12_1 => ?_)
   have t_z12_1 : z12_1.toInt = 3 := e_z12_1
   refine K.icmp_ge d22_13 (pc1 := 16) rfl (by decide) (pc2 := 47) (by decide) (a := 1) (b := z12_1.toInt) rfl rfl (fun c13_1 => ?_) (fun c13_1 => ?_)
   ·exfalso; (have o0 : (0 : Int32).toInt = 0 := rfl; have o1 : (1 : Int32).toInt = 1 := rfl; have o2 : (2 : Int32).toInt = 2 := rfl; have o3 : (3 : Int32).toInt = 3 := rfl; omega)
   ·refine K.aloadN d22_16 (w':=17) rfl rfl rfl ?_
    refine K.iloadN d22_17 (w':=18) rfl rfl ?_
    refine K.aloadN d22_18 (w':=19) rfl rfl rfl ?_
    have f_24 := (f_16.other W_21 ne_15)
    refine K.alen d22_19 (w':=20) rfl f_24 (fun z19_1 e_z19_1 => ?_)
    have t_z19_1 : z19_1.toInt = (ds.length : Nat) := by simpa using e_z19_1
    refine K.iast d22_20 (w':=21) rfl A_23 (i := 1) rfl (show 1 < 3 by decide) ge_a_1 (fun h_25 W_26 A_27 => ?_)
    have A_28 : Ary Z h_25 a_1 .int [(.int pw0), (.int z19_1), (.int 0)] := A_27
    refine K.aloadN d22_21 (w':=22) rfl rfl rfl ?_
    have f_29 := ((f_12.other W_21 (Or.inl ne_11)).other W_26 (Or.inl ne_11))
    refine K.getL d22_22 (w':=25) rfl hw61 f_29 ?_
    refine K.ifnull1 d22_25 (w':=28) rfl ?_
    refine K.aloadN d22_28 (w':=29) rfl rfl rfl ?_
    refine K.iloadN d22_29 (w':=30) rfl rfl ?_
    refine K.aloadN d22_30 (w':=31) rfl rfl rfl ?_
    refine K.aloadN d22_31 (w':=32) rfl rfl rfl ?_
    refine K.getL d22_32 (w':=35) rfl hw61 f_29 ?_
    refine K.iloadN d22_35 (w':=36) rfl rfl ?_
    have f_30 := ((f_14.other W_21 ne_13).other W_26 ne_13)
    refine K.lald d22_36 (w':=37) rfl f_30 (i := 1) rfl rfl ?_
    have f_31 := (f_24.other W_26 ne_15)
    refine K.calls (argsL := [(.ref b), (.long s1)]) (rest := [(.int 1), (.ref a_1)]) d22_37 (w':=40) rfl (c_bs l Z a0 hw n0 h_25 (a := b) (key := s1) (ds := ds) f_31 ⟨hds.1, hds.2.1, hds.2.2, hin.2.1⟩) hw134 hw135 hw88 hw136 (by decide) pd_14 rfl rfl (W := 2) (Nat.le_refl _) (by decide) (by decide) (by decide) (by decide) (fun v_34 h_32 q_33 => ?_)
    obtain ⟨pw1, rfl, t_pw1, rfl⟩ := q_33
    show G h_25 1 3 (mkF m 40 #[vr a, vr b, vr a_1, vi 1] [(.int pw1), (.int 1), (.ref a_1)])
    refine K.iast d22_40 (w':=41) rfl A_28 (i := 1) rfl (show 1 < 3 by decide) ge_a_1 (fun h_35 W_36 A_37 => ?_)
    have A_38 : Ary Z h_35 a_1 .int [(.int pw0), (.int pw1), (.int 0)] := A_37
    refine K.iinc d22_41 (w':=44) rfl rfl (z := (2 : Int32)) rfl (L' := #[vr a, vr b, vr a_1, vi 2]) rfl ?_
    refine K.goto d22_44 (by decide) (w':=10) (by decide) ?_
    refine K.iloadN d22_10 (w':=11) rfl rfl ?_
    refine K.aloadN d22_11 (w':=12) rfl rfl rfl ?_
    refine K.alen d22_12 (w':=13) rfl A_38 (fun z12_2 e_z12_2 => ?_)
    have t_z12_2 : z12_2.toInt = 3 := e_z12_2
    refine K.icmp_ge d22_13 (pc1 := 16) rfl (by decide) (pc2 := 47) (by decide) (a := 2) (b := z12_2.toInt) rfl rfl (fun c13_2 => ?_) (fun c13_2 => ?_)
    ·exfalso; (have o0 : (0 : Int32).toInt = 0 := rfl; have o1 : (1 : Int32).toInt = 1 := rfl; have o2 : (2 : Int32).toInt = 2 := rfl; have o3 : (3 : Int32).toInt = 3 := rfl; omega)
    ·refine K.aloadN d22_16 (w':=17) rfl rfl rfl ?_
     refine K.iloadN d22_17 (w':=18) rfl rfl ?_
     refine K.aloadN d22_18 (w':=19) rfl rfl rfl ?_
     have f_39 := (f_31.other W_36 ne_15)
     refine K.alen d22_19 (w':=20) rfl f_39 (fun z19_2 e_z19_2 => ?_)
     have t_z19_2 : z19_2.toInt = (ds.length : Nat) := by simpa using e_z19_2
     refine K.iast d22_20 (w':=21) rfl A_38 (i := 2) rfl (show 2 < 3 by decide) ge_a_1 (fun h_40 W_41 A_42 => ?_)
     have A_43 : Ary Z h_40 a_1 .int [(.int pw0), (.int pw1), (.int z19_2)] := A_42
     refine K.aloadN d22_21 (w':=22) rfl rfl rfl ?_
     have f_44 := ((f_29.other W_36 (Or.inl ne_11)).other W_41 (Or.inl ne_11))
     refine K.getL d22_22 (w':=25) rfl hw61 f_44 ?_
     refine K.ifnull1 d22_25 (w':=28) rfl ?_
     refine K.aloadN d22_28 (w':=29) rfl rfl rfl ?_
     refine K.iloadN d22_29 (w':=30) rfl rfl ?_
     refine K.aloadN d22_30 (w':=31) rfl rfl rfl ?_
     refine K.aloadN d22_31 (w':=32) rfl rfl rfl ?_
     refine K.getL d22_32 (w':=35) rfl hw61 f_44 ?_
     refine K.iloadN d22_35 (w':=36) rfl rfl ?_
     have f_45 := ((f_30.other W_36 ne_13).other W_41 ne_13)
     refine K.lald d22_36 (w':=37) rfl f_45 (i := 2) rfl rfl ?_
     have f_46 := (f_39.other W_41 ne_15)
     refine K.calls (argsL := [(.ref b), (.long s2)]) (rest := [(.int 2), (.ref a_1)]) d22_37 (w':=40) rfl (c_bs l Z a0 hw n0 h_40 (a := b) (key := s2) (ds := ds) f_46 ⟨hds.1, hds.2.1, hds.2.2, hin.2.2⟩) hw134 hw135 hw88 hw136 (by decide) pd_14 rfl rfl (W := 2) (Nat.le_refl _) (by decide) (by decide) (by decide) (by decide) (fun v_49 h_47 q_48 => ?_)
     obtain ⟨pw2, rfl, t_pw2, rfl⟩ := q_48
     show G h_40 1 3 (mkF m 40 #[vr a, vr b, vr a_1, vi 2] [(.int pw2), (.int 2), (.ref a_1)])
     refine K.iast d22_40 (w':=41) rfl A_43 (i := 2) rfl (show 2 < 3 by decide) ge_a_1 (fun h_50 W_51 A_52 => ?_)
     have A_53 : Ary Z h_50 a_1 .int [(.int pw0), (.int pw1), (.int pw2)] := A_52
     refine K.iinc d22_41 (w':=44) rfl rfl (z := (3 : Int32)) rfl (L' := #[vr a, vr b, vr a_1, vi 3]) rfl ?_
     refine K.goto d22_44 (by decide) (w':=10) (by decide) ?_
     refine K.iloadN d22_10 (w':=11) rfl rfl ?_
     refine K.aloadN d22_11 (w':=12) rfl rfl rfl ?_
     refine K.alen d22_12 (w':=13) rfl A_53 (fun z12_3 e_z12_3 => ?_)
     have t_z12_3 : z12_3.toInt = 3 := e_z12_3
     refine K.icmp_ge d22_13 (pc1 := 16) rfl (by decide) (pc2 := 47) (by decide) (a := 3) (b := z12_3.toInt) rfl rfl (fun c13_3 => ?_) (fun c13_3 => ?_)
     ·refine K.aloadN d22_47 (w':=48) rfl rfl rfl ?_
      exact K.reta d22_48 rfl rfl rfl (by decide) (by decide) ⟨a_1, pw0, pw1, pw2, rfl, ((((((((Keep.refl h []).ext E_3).wr W_8 (Or.inr sb_a_1)).wr W_21 (Or.inr sb_a_1)).wr W_26 (Or.inr sb_a_1)).wr W_36 (Or.inr sb_a_1)).wr W_41 (Or.inr sb_a_1)).wr W_51 (Or.inr sb_a_1)), sb_a_1, ge_a_1, A_53, by exact ⟨t_pw0, t_pw1, t_pw2⟩⟩
     ·exfalso; (have o0 : (0 : Int32).toInt = 0 := rfl; have o1 : (1 : Int32).toInt = 1 := rfl; have o2 : (2 : Int32).toInt = 2 := rfl; have o3 : (3 : Int32).toInt = 3 := rfl; omega)
theorem d27_0 : decode B27 0 = .ok (.iload_n 0, 1) := by decide +kernel
theorem d27_1 : decode B27 1 = .ok (.bipush 6, 2) := by decide +kernel
theorem d27_3 : decode B27 3 = .ok (.ishr, 1) := by decide +kernel
theorem d27_4 : decode B27 4 = .ok (.ireturn, 1) := by decide +kernel
theorem pn_java_util_BitSet : plainName sB = true := by first | (simp [plainName, overriddenIn]; done) | decide +kernel
theorem c_wi (l : Launch) (Z : State) (a0 : Array Value) (hw : HW a0 Z) (n0 : Nat) (h : Heap) (i : Int32) (hi : 0 ≤ i.toInt ∧ i.toInt < 64) : MeetsW l Z n0 (⟨sB, "wordIndex", "(I)I"⟩ : MethodName) B27 1 (some .int) ({ frames := 0, cells := 0, slots := 0, locals := 0 } : Room) #[(.int i)] h (fun v h' => v = some (.int 0) ∧ h = h') := by
 refine MeetsW.intro (plainFor_of_name pn_java_util_BitSet) (L0 := #[vi i]) (fun m => rfl) ?_
 intro m G K0
 have K : Cx l ({ frames := 0, cells := 0, slots := 0, locals := 0 } : Room) Z n0 _ sB "wordIndex" B27 1 (some .int) m G := K0
 refine K.iloadN d27_0 (w':=1) rfl rfl ?_
 refine K.bipush d27_1 (w':=3) rfl (z := 6) rfl ?_
 obtain ⟨z, e_z⟩ : ∃ z, i >>> ((6 : Int32) &&& 31) = z := ⟨_, rfl⟩
 have r_z : z.toInt = i.toInt / 64 := by have q := c_ishr i (6 : Int32) 6 (by decide); rw [e_z] at q; exact q
 have t_z : z.toInt = 0 := by omega
 clear r_z
 refine K.ishr d27_3 (w':=4) rfl e_z ?_
 have cs_z : z = 0 := by
  have q : z.toInt = 0 := by omega
  rcases q with q
  ·exact eqI q
 rcases cs_z with rfl
 ·exact K.reti d27_4 (by decide) (by decide) ⟨rfl, rfl⟩
theorem d26_0 : decode B26 0 = .ok (.aload_n 0, 1) := by decide +kernel
theorem d26_1 : decode B26 1 = .ok (.iload_n 1, 1) := by decide +kernel
theorem d26_2 : decode B26 2 = .ok (.iconst 1, 1) := by decide +kernel
theorem d26_3 : decode B26 3 = .ok (.isub, 1) := by decide +kernel
theorem d26_4 : decode B26 4 = .ok (.invokestatic 52, 3) := by decide +kernel
theorem pd_15 : parseMethodDescriptor "(I)I" = some ⟨[.int], some .int⟩ := by decide +kernel
theorem d26_7 : decode B26 7 = .ok (.iconst 1, 1) := by decide +kernel
theorem d26_8 : decode B26 8 = .ok (.iadd, 1) := by decide +kernel
theorem d26_9 : decode B26 9 = .ok (.newarray .long, 2) := by decide +kernel
theorem d26_11 : decode B26 11 = .ok (.putfield 11, 3) := by decide +kernel
theorem d26_14 : decode B26 14 = .ok (.return_, 1) := by decide +kernel
theorem c_iw (l : Launch) (Z : State) (a0 : Array Value) (hw : HW a0 Z) (n0 : Nat) (h : Heap) (b : Addr) (Z0 : n0 ≤ h.size) (P2 : Exa Z h b sB) (P3 : n0 ≤ b) (P4 : Fld Z h b sB "words" "[J" .null) (P5 : Fld Z h b sB "wordsInUse" "I" (.int 0)) (P6 : Fld Z h b sB "sizeIsSticky" "Z" (.int 0)) : MeetsW l Z n0 (⟨sB, "initWords", "(I)V"⟩ : MethodName) B26 2 none ({ frames := 1, cells := 1, slots := 1, locals := 13 } : Room) #[(.ref b), (.int 3)] h (fun v h' => ∃ (w : Addr), v = none ∧ Keep h h' [b] ∧ h.size ≤ w ∧ n0 ≤ w ∧ Fld Z h' b sB "words" "[J" (.ref w) ∧ Fld Z h' b sB "wordsInUse" "I" (.int 0) ∧ Fld Z h' b sB "sizeIsSticky" "Z" (.int 0) ∧ Ary Z h' w .long [(.long 0)]) := by
 refine MeetsW.intro (plainFor_of_name pn_java_util_BitSet) (L0 := #[vr b, vi 3]) (fun m => rfl) ?_
 intro m G K0
 have K : Cx l ({ frames := 1, cells := 1, slots := 1, locals := 13 } : Room) Z n0 _ sB "initWords" B26 2 none m G := K0
 have hw6 := tb hw (i:=6) rfl
 have hw149 := tb hw (i:=149) rfl
 have hw150 := tb hw (i:=150) rfl
 have hw156 := tb hw (i:=156) rfl
 have hw158 := tb hw (i:=158) rfl
 have hw164 := tb hw (i:=164) rfl
 have hw165 := tb hw (i:=165) rfl
 have hw166 := tb hw (i:=166) rfl
 have hw167 := tb hw (i:=167) rfl
 have hw168 := tb hw (i:=168) rfl
 refine K.aloadN d26_0 (w':=1) rfl rfl rfl ?_
 refine K.iloadN d26_1 (w':=2) rfl rfl ?_
 refine K.iconst d26_2 (w':=3) rfl (z := 1) rfl ?_
 refine K.isub d26_3 (w':=4) rfl (z := (2 : Int32)) (by decide) ?_
 refine K.calls (argsL := [(.int 2)]) (rest := [(.ref b)]) d26_4 (w':=7) rfl (c_wi l Z a0 hw n0 h (i := (2 : Int32)) (by decide)) hw164 hw165 hw150 hw166 (by decide) pd_15 rfl rfl (W := 1) (Nat.le_refl _) (by decide) (by decide) (by decide) (by decide) (fun v_3 h_1 q_2 => ?_)
 obtain ⟨rfl, rfl⟩ := q_2
 show G h 0 0 (mkF m 7 #[vr b, vi 3] [(.int 0), (.ref b)])
 refine K.iconst d26_7 (w':=8) rfl (z := 1) rfl ?_
 refine K.iadd d26_8 (w':=9) rfl (z := (1 : Int32)) (by decide) ?_
 refine K.newa d26_9 (w':=11) rfl hw6 (k := 1) (cap := 1) rfl (by decide) (by decide) (by decide) (by decide) (ad := "[J") (by decide) (fun h_6 a_5 g_a_5 E_7 A_8 x_a_5 => ?_)
 have ge_a_5 : n0 ≤ a_5 := g_a_5 ▸ Z0
 have sb_a_5 : h.size ≤ a_5 := g_a_5 ▸ (Nat.le_refl _)
 have A_9 : Ary Z h_6 a_5 .long [(.long 0)] := A_8
 have f_10 := (P4.ext E_7)
 have f_11 := (P2.ext E_7)
 refine K.putf d26_11 (w':=14) rfl (host := "") (Or.inl hw167) Via.refl f_10 f_11 (Or.inl hw168) hw149 (ty := (.array .long)) (by decide) rfl rfl P3 (fun h_12 W_13 => ?_)
 have f_14 := (P5.ext E_7)
 have f_15 := (P6.ext E_7)
 have f_16 := f_10.same W_13
 have f_17 := f_14.other W_13 (Or.inr (slot_ne (Or.inl hw156) (Or.inl hw168) (by decide) (t := .int) (t' := (.array .long)) (by decide) (by decide)))
 have f_18 := f_15.other W_13 (Or.inr (slot_ne (Or.inl hw158) (Or.inl hw168) (by decide) (t := .boolean) (t' := (.array .long)) (by decide) (by decide)))
 have ne_19 := (Ne.symm (Nat.ne_of_lt (Nat.lt_of_lt_of_le P2.lt (Nat.le_trans (Nat.le_refl _) (Nat.le_of_eq g_a_5.symm)))))
 have f_20 := (A_9.other W_13 ne_19)
 exact K.ret0 d26_14 (by decide) (by decide) ⟨a_5, rfl, (((Keep.refl h [b]).ext E_7).wr W_13 (Or.inl (by simp))), sb_a_5, ge_a_5, f_16, f_17, f_18, f_20⟩
theorem d25_0 : decode B25 0 = .ok (.aload_n 0, 1) := by decide +kernel
theorem d25_1 : decode B25 1 = .ok (.invokespecial 21, 3) := by decide +kernel
theorem d25_4 : decode B25 4 = .ok (.aload_n 0, 1) := by decide +kernel
theorem d25_5 : decode B25 5 = .ok (.iconst 0, 1) := by decide +kernel
theorem d25_6 : decode B25 6 = .ok (.putfield 7, 3) := by decide +kernel
theorem d25_9 : decode B25 9 = .ok (.aload_n 0, 1) := by decide +kernel
theorem d25_10 : decode B25 10 = .ok (.iconst 0, 1) := by decide +kernel
theorem d25_11 : decode B25 11 = .ok (.putfield 24, 3) := by decide +kernel
theorem d25_14 : decode B25 14 = .ok (.iload_n 1, 1) := by decide +kernel
theorem d25_15 : decode B25 15 = .ok (.ifCond .ge 30, 3) := by decide +kernel
theorem d25_45 : decode B25 45 = .ok (.aload_n 0, 1) := by decide +kernel
theorem d25_46 : decode B25 46 = .ok (.iload_n 1, 1) := by decide +kernel
theorem d25_47 : decode B25 47 = .ok (.invokevirtual 27, 3) := by decide +kernel
theorem pd_16 : parseMethodDescriptor "(I)V" = some ⟨[.int], none⟩ := by decide +kernel
theorem d25_50 : decode B25 50 = .ok (.aload_n 0, 1) := by decide +kernel
theorem d25_51 : decode B25 51 = .ok (.iconst 1, 1) := by decide +kernel
theorem d25_52 : decode B25 52 = .ok (.putfield 24, 3) := by decide +kernel
theorem d25_55 : decode B25 55 = .ok (.return_, 1) := by decide +kernel
theorem c_bi (l : Launch) (Z : State) (a0 : Array Value) (hw : HW a0 Z) (n0 : Nat) (h : Heap) (b : Addr) (Z0 : n0 ≤ h.size) (P2 : Exa Z h b sB) (P3 : n0 ≤ b) (P4 : Fld Z h b sB "words" "[J" .null) (P5 : Fld Z h b sB "wordsInUse" "I" (.int 0)) (P6 : Fld Z h b sB "sizeIsSticky" "Z" (.int 0)) : MeetsW l Z n0 (⟨sB, "<init>", "(I)V"⟩ : MethodName) B25 2 none ({ frames := 2, cells := 1, slots := 1, locals := 26 } : Room) #[(.ref b), (.int 3)] h (fun v h' => ∃ (w : Addr), v = none ∧ Keep h h' [b] ∧ h.size ≤ w ∧ n0 ≤ w ∧ Fld Z h' b sB "words" "[J" (.ref w) ∧ Fld Z h' b sB "wordsInUse" "I" (.int 0) ∧ Ary Z h' w .long [(.long 0)]) := by
 refine MeetsW.intro (plainFor_of_name pn_java_util_BitSet) (L0 := #[vr b, vi 3]) (fun m => rfl) ?_
 intro m G K0
 have K : Cx l ({ frames := 2, cells := 1, slots := 1, locals := 26 } : Room) Z n0 _ sB "<init>" B25 2 none m G := K0
 have hw45 := tb hw (i:=45) rfl
 have hw46 := tb hw (i:=46) rfl
 have hw149 := tb hw (i:=149) rfl
 have hw150 := tb hw (i:=150) rfl
 have hw154 := tb hw (i:=154) rfl
 have hw155 := tb hw (i:=155) rfl
 have hw156 := tb hw (i:=156) rfl
 have hw157 := tb hw (i:=157) rfl
 have hw158 := tb hw (i:=158) rfl
 have hw159 := tb hw (i:=159) rfl
 have hw160 := tb hw (i:=160) rfl
 have hw161 := tb hw (i:=161) rfl
 have hw163 := tb hw (i:=163) rfl
 have hw168 := tb hw (i:=168) rfl
 refine K.aloadN d25_0 (w':=1) rfl rfl rfl ?_
 refine K.init0 d25_1 (w':=4) rfl hw154 hw45 hw46 rfl (by decide) (W := 0) (Nat.le_refl _) (by decide) ?_
 refine K.aloadN d25_4 (w':=5) rfl rfl rfl ?_
 refine K.iconst d25_5 (w':=6) rfl (z := 0) rfl ?_
 refine K.putf d25_6 (w':=9) rfl (host := "") (Or.inl hw155) Via.refl P5 P2 (Or.inl hw156) hw149 (ty := .int) (by decide) rfl rfl P3 (fun h_1 W_2 => ?_)
 have f_3 := P4.other W_2 (Or.inr (slot_ne (Or.inl hw168) (Or.inl hw156) (by decide) (t := (.array .long)) (t' := .int) (by decide) (by decide)))
 have f_4 := P5.same W_2
 have f_5 := P6.other W_2 (Or.inr (slot_ne (Or.inl hw158) (Or.inl hw156) (by decide) (t := .boolean) (t' := .int) (by decide) (by decide)))
 refine K.aloadN d25_9 (w':=10) rfl rfl rfl ?_
 refine K.iconst d25_10 (w':=11) rfl (z := 0) rfl ?_
 have f_6 := (P2.wr W_2)
 refine K.putf d25_11 (w':=14) rfl (host := "") (Or.inl hw157) Via.refl f_5 f_6 (Or.inl hw158) hw149 (ty := .boolean) (by decide) rfl rfl P3 (fun h_7 W_8 => ?_)
 have f_9 := f_3.other W_8 (Or.inr (slot_ne (Or.inl hw168) (Or.inl hw158) (by decide) (t := (.array .long)) (t' := .boolean) (by decide) (by decide)))
 have f_10 := f_4.other W_8 (Or.inr (slot_ne (Or.inl hw156) (Or.inl hw158) (by decide) (t := .int) (t' := .boolean) (by decide) (by decide)))
 have f_11 := f_5.same W_8
 refine K.iloadN d25_14 (w':=15) rfl rfl ?_
 refine K.if_ge d25_15 (pc1 := 18) rfl (by decide) (pc2 := 45) (by decide) (a := 3) rfl (fun c15 => ?_) (fun c15 => ?_)
 ·refine K.aloadN d25_45 (w':=46) rfl rfl rfl ?_
  refine K.iloadN d25_46 (w':=47) rfl rfl ?_
  have sz_12 := Nat.le_trans Z0 (Nat.le_trans (Keep.of_wr W_2).1 (Keep.of_wr W_8).1)
  have f_13 := (f_6.wr W_8)
  refine K.callp (argsL := [(.int 3)]) (rest := []) d25_47 (w':=50) rfl (c_iw l Z a0 hw n0 h_7 (b := b) sz_12 f_13 P3 f_9 f_10 f_11) f_13 hw159 hw160 hw149 hw161 hw150 hw163 (by decide) pd_16 rfl rfl (W := 0) (Nat.le_refl _) (by decide) (by decide) (by decide) (by decide) (fun v_16 h_14 q_15 => ?_)
  obtain ⟨w_18, rfl, K_19, f_20, f_21, f_22, f_23, f_24, f_25⟩ := q_15
  have hz_26 : h.size ≤ h_7.size := (Nat.le_trans (Keep.of_wr W_2).1 (Keep.of_wr W_8).1)
  have sb_w_18 : h.size ≤ w_18 := Nat.le_trans hz_26 f_20
  show G h_14 1 1 (mkF m 50 #[vr b, vi 3] [])
  refine K.aloadN d25_50 (w':=51) rfl rfl rfl ?_
  refine K.iconst d25_51 (w':=52) rfl (z := 1) rfl ?_
  have f_27 := (f_13.keep K_19)
  refine K.putf d25_52 (w':=55) rfl (host := "") (Or.inl hw157) Via.refl f_24 f_27 (Or.inl hw158) hw149 (ty := .boolean) (by decide) rfl rfl P3 (fun h_28 W_29 => ?_)
  have f_30 := f_22.other W_29 (Or.inr (slot_ne (Or.inl hw168) (Or.inl hw158) (by decide) (t := (.array .long)) (t' := .boolean) (by decide) (by decide)))
  have f_31 := f_23.other W_29 (Or.inr (slot_ne (Or.inl hw156) (Or.inl hw158) (by decide) (t := .int) (t' := .boolean) (by decide) (by decide)))
  have f_32 := f_24.same W_29
  have ne_33 := (Ne.symm (Nat.ne_of_lt (Nat.lt_of_lt_of_le P2.lt (Nat.le_trans (Nat.le_trans (Keep.of_wr W_2).1 (Keep.of_wr W_8).1) f_20))))
  have f_34 := (f_25.other W_29 ne_33)
  exact K.ret0 d25_55 (by decide) (by decide) ⟨w_18, rfl, (((((Keep.refl h [b]).wr W_2 (Or.inl (by simp))).wr W_8 (Or.inl (by simp))).trans K_19 (allS (Or.inl (by simp)) all0)).wr W_29 (Or.inl (by simp))), sb_w_18, f_21, f_30, f_31, f_34⟩
 ·exfalso; omega
theorem d33_0 : decode B33 0 = .ok (.getstatic 3, 3) := by decide +kernel
theorem d33_3 : decode B33 3 = .ok (.ifCond .ne 34, 3) := by decide +kernel
theorem d33_37 : decode B33 37 = .ok (.getstatic 3, 3) := by decide +kernel
theorem d33_40 : decode B33 40 = .ok (.ifCond .ne 30, 3) := by decide +kernel
theorem d33_70 : decode B33 70 = .ok (.getstatic 3, 3) := by decide +kernel
theorem d33_73 : decode B33 73 = .ok (.ifCond .ne 37, 3) := by decide +kernel
theorem d33_110 : decode B33 110 = .ok (.return_, 1) := by decide +kernel
theorem c_ci (l : Launch) (Z : State) (a0 : Array Value) (hw : HW a0 Z) (n0 : Nat) (h : Heap) (b : Addr) (P1 : Old Z n0 h) (P2 : Sta Z Z.heap sB "$assertionsDisabled" "Z" (.int 1)) : MeetsW l Z n0 (⟨sB, "checkInvariants", "()V"⟩ : MethodName) B33 1 none ({ frames := 0, cells := 0, slots := 0, locals := 0 } : Room) #[(.ref b)] h (fun v h' => v = none ∧ h = h') := by
 refine MeetsW.intro (plainFor_of_name pn_java_util_BitSet) (L0 := #[vr b]) (fun m => rfl) ?_
 intro m G K0
 have K : Cx l ({ frames := 0, cells := 0, slots := 0, locals := 0 } : Room) Z n0 _ sB "checkInvariants" B33 1 none m G := K0
 have hw199 := tb hw (i:=199) rfl
 refine K.gets d33_0 (w':=3) rfl (host := "") (Or.inl hw199) Via.refl (P2.ext P1.2) ?_
 refine K.if_ne d33_3 (pc1 := 6) rfl (by decide) (pc2 := 37) (by decide) (a := 1) rfl (fun c3 => ?_) (fun c3 => ?_)
 ·refine K.gets d33_37 (w':=40) rfl (host := "") (Or.inl hw199) Via.refl (P2.ext P1.2) ?_
  refine K.if_ne d33_40 (pc1 := 43) rfl (by decide) (pc2 := 70) (by decide) (a := 1) rfl (fun c40 => ?_) (fun c40 => ?_)
  ·refine K.gets d33_70 (w':=73) rfl (host := "") (Or.inl hw199) Via.refl (P2.ext P1.2) ?_
   refine K.if_ne d33_73 (pc1 := 76) rfl (by decide) (pc2 := 110) (by decide) (a := 1) rfl (fun c73 => ?_) (fun c73 => ?_)
   ·exact K.ret0 d33_110 (by decide) (by decide) ⟨rfl, rfl⟩
   ·exfalso; omega
  ·exfalso; omega
 ·exfalso; omega
theorem d32_0 : decode B32 0 = .ok (.aload_n 0, 1) := by decide +kernel
theorem d32_1 : decode B32 1 = .ok (.getfield 11, 3) := by decide +kernel
theorem d32_4 : decode B32 4 = .ok (.arraylength, 1) := by decide +kernel
theorem d32_5 : decode B32 5 = .ok (.iload_n 1, 1) := by decide +kernel
theorem d32_6 : decode B32 6 = .ok (.if_icmp .ge 32, 3) := by decide +kernel
theorem d32_38 : decode B32 38 = .ok (.return_, 1) := by decide +kernel
theorem c_ec (l : Launch) (Z : State) (a0 : Array Value) (hw : HW a0 Z) (n0 : Nat) (h : Heap) (b : Addr) (w : Addr) (x : Int64) (P1 : Exa Z h b sB) (P2 : Fld Z h b sB "words" "[J" (.ref w)) (P3 : Ary Z h w .long [(.long x)]) : MeetsW l Z n0 (⟨sB, "ensureCapacity", "(I)V"⟩ : MethodName) B32 3 none ({ frames := 0, cells := 0, slots := 0, locals := 0 } : Room) #[(.ref b), (.int 1)] h (fun v h' => v = none ∧ h = h') := by
 refine MeetsW.intro (plainFor_of_name pn_java_util_BitSet) (L0 := #[vr b, vi 1, un]) (fun m => rfl) ?_
 intro m G K0
 have K : Cx l ({ frames := 0, cells := 0, slots := 0, locals := 0 } : Room) Z n0 _ sB "ensureCapacity" B32 3 none m G := K0
 have hw167 := tb hw (i:=167) rfl
 refine K.aloadN d32_0 (w':=1) rfl rfl rfl ?_
 refine K.getL d32_1 (w':=4) rfl hw167 P2 ?_
 refine K.alen d32_4 (w':=5) rfl P3 (fun z4 e_z4 => ?_)
 have t_z4 : z4.toInt = 1 := e_z4
 refine K.iloadN d32_5 (w':=6) rfl rfl ?_
 refine K.icmp_ge d32_6 (pc1 := 9) rfl (by decide) (pc2 := 38) (by decide) (a := z4.toInt) (b := 1) rfl rfl (fun c6 => ?_) (fun c6 => ?_)
 ·exact K.ret0 d32_38 (by decide) (by decide) ⟨rfl, rfl⟩
 ·exfalso; omega
theorem d31_0 : decode B31 0 = .ok (.iload_n 1, 1) := by decide +kernel
theorem d31_1 : decode B31 1 = .ok (.iconst 1, 1) := by decide +kernel
theorem d31_2 : decode B31 2 = .ok (.iadd, 1) := by decide +kernel
theorem d31_3 : decode B31 3 = .ok (.istore_n 2, 1) := by decide +kernel
theorem d31_4 : decode B31 4 = .ok (.aload_n 0, 1) := by decide +kernel
theorem d31_5 : decode B31 5 = .ok (.getfield 7, 3) := by decide +kernel
theorem d31_8 : decode B31 8 = .ok (.iload_n 2, 1) := by decide +kernel
theorem d31_9 : decode B31 9 = .ok (.if_icmp .ge 13, 3) := by decide +kernel
theorem d31_22 : decode B31 22 = .ok (.return_, 1) := by decide +kernel
theorem d31_12 : decode B31 12 = .ok (.aload_n 0, 1) := by decide +kernel
theorem d31_13 : decode B31 13 = .ok (.iload_n 2, 1) := by decide +kernel
theorem d31_14 : decode B31 14 = .ok (.invokevirtual 139, 3) := by decide +kernel
theorem d31_17 : decode B31 17 = .ok (.aload_n 0, 1) := by decide +kernel
theorem d31_18 : decode B31 18 = .ok (.iload_n 2, 1) := by decide +kernel
theorem d31_19 : decode B31 19 = .ok (.putfield 7, 3) := by decide +kernel
theorem c_et (l : Launch) (Z : State) (a0 : Array Value) (hw : HW a0 Z) (n0 : Nat) (h : Heap) (b : Addr) (w : Addr) (u : Int32) (x : Int64) (P1 : Exa Z h b sB) (P2 : n0 ≤ b) (P3 : n0 ≤ w) (P4 : b ≠ w) (P5 : Fld Z h b sB "words" "[J" (.ref w)) (P6 : Fld Z h b sB "wordsInUse" "I" (.int u)) (P7 : Ary Z h w .long [(.long x)]) (hu : 0 ≤ u.toInt ∧ u.toInt ≤ 1) : MeetsW l Z n0 (⟨sB, "expandTo", "(I)V"⟩ : MethodName) B31 3 none ({ frames := 1, cells := 0, slots := 0, locals := 14 } : Room) #[(.ref b), (.int 0)] h (fun v h' => ∃ (u1 : Int32), v = none ∧ Keep h h' [b] ∧ Fld Z h' b sB "words" "[J" (.ref w) ∧ Fld Z h' b sB "wordsInUse" "I" (.int u1) ∧ (u1.toInt = 1)) := by
 refine MeetsW.intro (plainFor_of_name pn_java_util_BitSet) (L0 := #[vr b, vi 0, un]) (fun m => rfl) ?_
 intro m G K0
 have K : Cx l ({ frames := 1, cells := 0, slots := 0, locals := 14 } : Room) Z n0 _ sB "expandTo" B31 3 none m G := K0
 have hw149 := tb hw (i:=149) rfl
 have hw150 := tb hw (i:=150) rfl
 have hw155 := tb hw (i:=155) rfl
 have hw156 := tb hw (i:=156) rfl
 have hw168 := tb hw (i:=168) rfl
 have hw189 := tb hw (i:=189) rfl
 have hw190 := tb hw (i:=190) rfl
 have hw191 := tb hw (i:=191) rfl
 have hw193 := tb hw (i:=193) rfl
 refine K.iloadN d31_0 (w':=1) rfl rfl ?_
 refine K.iconst d31_1 (w':=2) rfl (z := 1) rfl ?_
 refine K.iadd d31_2 (w':=3) rfl (z := (1 : Int32)) (by decide) ?_
 refine K.istoreN d31_3 (w':=4) rfl (L' := #[vr b, vi 0, vi 1]) rfl ?_
 refine K.aloadN d31_4 (w':=5) rfl rfl rfl ?_
 refine K.getL d31_5 (w':=8) rfl hw155 P6 ?_
 refine K.iloadN d31_8 (w':=9) rfl rfl ?_
 refine K.icmp_ge d31_9 (pc1 := 12) rfl (by decide) (pc2 := 22) (by decide) (a := u.toInt) (b := 1) rfl rfl (fun c9 => ?_) (fun c9 => ?_)
 ·exact K.ret0 d31_22 (by decide) (by decide) ⟨u, rfl, (Keep.refl h [b]), P5, P6, by (have o1 : (1 : Int32).toInt = 1 := rfl; omega)⟩
 ·refine K.aloadN d31_12 (w':=13) rfl rfl rfl ?_
  refine K.iloadN d31_13 (w':=14) rfl rfl ?_
  refine K.callp (argsL := [(.int 1)]) (rest := []) d31_14 (w':=17) rfl (c_ec l Z a0 hw n0 h (b := b) (w := w) (x := x) P1 P5 P7) P1 hw189 hw190 hw149 hw191 hw150 hw193 (by decide) pd_16 rfl rfl (W := 0) (Nat.le_refl _) (by decide) (by decide) (by decide) (by decide) (fun v_3 h_1 q_2 => ?_)
  obtain ⟨rfl, rfl⟩ := q_2
  show G h 0 0 (mkF m 17 #[vr b, vi 0, vi 1] [])
  refine K.aloadN d31_17 (w':=18) rfl rfl rfl ?_
  refine K.iloadN d31_18 (w':=19) rfl rfl ?_
  refine K.putf d31_19 (w':=22) rfl (host := "") (Or.inl hw155) Via.refl P6 P1 (Or.inl hw156) hw149 (ty := .int) (by decide) rfl rfl P2 (fun h_5 W_6 => ?_)
  have f_7 := P5.other W_6 (Or.inr (slot_ne (Or.inl hw168) (Or.inl hw156) (by decide) (t := (.array .long)) (t' := .int) (by decide) (by decide)))
  have f_8 := P6.same W_6
  exact K.ret0 d31_22 (by decide) (by decide) ⟨(1 : Int32), rfl, ((Keep.refl h [b]).wr W_6 (Or.inl (by simp))), f_7, f_8, by (have o1 : (1 : Int32).toInt = 1 := rfl; omega)⟩
theorem d40_0 : decode B40 0 = .ok (.aload_n 0, 1) := by decide +kernel
theorem d40_1 : decode B40 1 = .ok (.getfield 7, 3) := by decide +kernel
theorem d40_4 : decode B40 4 = .ok (.iconst 1, 1) := by decide +kernel
theorem d40_5 : decode B40 5 = .ok (.isub, 1) := by decide +kernel
theorem d40_6 : decode B40 6 = .ok (.istore_n 1, 1) := by decide +kernel
theorem d40_7 : decode B40 7 = .ok (.iload_n 1, 1) := by decide +kernel
theorem d40_8 : decode B40 8 = .ok (.ifCond .lt 23, 3) := by decide +kernel
theorem d40_11 : decode B40 11 = .ok (.aload_n 0, 1) := by decide +kernel
theorem d40_12 : decode B40 12 = .ok (.getfield 11, 3) := by decide +kernel
theorem d40_15 : decode B40 15 = .ok (.iload_n 1, 1) := by decide +kernel
theorem d40_16 : decode B40 16 = .ok (.laload, 1) := by decide +kernel
theorem d40_17 : decode B40 17 = .ok (.lconst 0, 1) := by decide +kernel
theorem d40_18 : decode B40 18 = .ok (.lcmp, 1) := by decide +kernel
theorem d40_19 : decode B40 19 = .ok (.ifCond .eq 6, 3) := by decide +kernel
theorem d40_25 : decode B40 25 = .ok (.iinc 1 (-1), 3) := by decide +kernel
theorem d40_28 : decode B40 28 = .ok (.goto (-21), 3) := by decide +kernel
theorem d40_31 : decode B40 31 = .ok (.aload_n 0, 1) := by decide +kernel
theorem d40_32 : decode B40 32 = .ok (.iload_n 1, 1) := by decide +kernel
theorem d40_33 : decode B40 33 = .ok (.iconst 1, 1) := by decide +kernel
theorem d40_34 : decode B40 34 = .ok (.iadd, 1) := by decide +kernel
theorem d40_35 : decode B40 35 = .ok (.putfield 7, 3) := by decide +kernel
theorem d40_38 : decode B40 38 = .ok (.return_, 1) := by decide +kernel
theorem d40_22 : decode B40 22 = .ok (.goto 9, 3) := by decide +kernel
theorem c_rw (l : Launch) (Z : State) (a0 : Array Value) (hw : HW a0 Z) (n0 : Nat) (h : Heap) (b : Addr) (w : Addr) (u : Int32) (x : Int64) (P1 : Exa Z h b sB) (P2 : n0 ≤ b) (P3 : n0 ≤ w) (P4 : b ≠ w) (P5 : Fld Z h b sB "words" "[J" (.ref w)) (P6 : Fld Z h b sB "wordsInUse" "I" (.int u)) (P7 : Ary Z h w .long [(.long x)]) (hu : u.toInt = 1) : MeetsW l Z n0 (⟨sB, "recalculateWordsInUse", "()V"⟩ : MethodName) B40 2 none ({ frames := 0, cells := 0, slots := 0, locals := 0 } : Room) #[(.ref b)] h (fun v h' => ∃ (u1 : Int32), v = none ∧ Keep h h' [b] ∧ Fld Z h' b sB "words" "[J" (.ref w) ∧ Fld Z h' b sB "wordsInUse" "I" (.int u1) ∧ (0 ≤ u1.toInt ∧ u1.toInt ≤ 1)) := by
 refine MeetsW.intro (plainFor_of_name pn_java_util_BitSet) (L0 := #[vr b, un]) (fun m => rfl) ?_
 intro m G K0
 have K : Cx l ({ frames := 0, cells := 0, slots := 0, locals := 0 } : Room) Z n0 _ sB "recalculateWordsInUse" B40 2 none m G := K0
 have hw149 := tb hw (i:=149) rfl
 have hw155 := tb hw (i:=155) rfl
 have hw156 := tb hw (i:=156) rfl
 have hw167 := tb hw (i:=167) rfl
 have hw168 := tb hw (i:=168) rfl
 refine K.aloadN d40_0 (w':=1) rfl rfl rfl ?_
 refine K.getL d40_1 (w':=4) rfl hw155 P6 ?_
 refine K.iconst d40_4 (w':=5) rfl (z := 1) rfl ?_
 obtain ⟨j, e_j⟩ : ∃ z, u - (1 : Int32) = z := ⟨_, rfl⟩
 have r_j : (j.toInt - (u.toInt - 1)) % 4294967296 = 0 := by have q := c_isub u (1 : Int32); rw [e_j] at q; exact q
 have g_j := rng32 j
 have t_j : j.toInt = 0 := by omega
 clear r_j
 clear g_j
 refine K.isub d40_5 (w':=6) rfl e_j ?_
 have cs_j : j = 0 := by
  have q : j.toInt = 0 := by omega
  rcases q with q
  ·exact eqI q
 rcases cs_j with rfl
 ·refine K.istoreN d40_6 (w':=7) rfl (L' := #[vr b, vi 0]) rfl ?_
  refine K.iloadN d40_7 (w':=8) rfl rfl ?_
  refine K.if_lt d40_8 (pc1 := 11) rfl (by decide) (pc2 := 31) (by decide) (a := 0) rfl (fun c8 => ?_) (fun c8 => ?_)
  ·exfalso; omega
  ·refine K.aloadN d40_11 (w':=12) rfl rfl rfl ?_
   refine K.getL d40_12 (w':=15) rfl hw167 P5 ?_
   refine K.iloadN d40_15 (w':=16) rfl rfl ?_
   refine K.lald d40_16 (w':=17) rfl P7 (i := 0) rfl rfl ?_
   refine K.lconst d40_17 (w':=18) rfl (z := 0) rfl ?_
   refine K.lcmp_eq d40_18 d40_19 (pc1 := 22) rfl (by decide) (pc2 := 25) (by decide) (a := x.toInt) (b := 0) rfl rfl (fun c18 => ?_) (fun c18 => ?_)
   ·refine K.iinc d40_25 (w':=28) rfl rfl (z := (-1 : Int32)) rfl (L' := #[vr b, vi (-1)]) rfl ?_
    refine K.goto d40_28 (by decide) (w':=7) (by decide) ?_
    refine K.iloadN d40_7 (w':=8) rfl rfl ?_
    refine K.if_lt d40_8 (pc1 := 11) rfl (by decide) (pc2 := 31) (by decide) (a := (-1)) rfl (fun c8_1 => ?_) (fun c8_1 => ?_)
    ·refine K.aloadN d40_31 (w':=32) rfl rfl rfl ?_
     refine K.iloadN d40_32 (w':=33) rfl rfl ?_
     refine K.iconst d40_33 (w':=34) rfl (z := 1) rfl ?_
     refine K.iadd d40_34 (w':=35) rfl (z := (0 : Int32)) (by decide) ?_
     refine K.putf d40_35 (w':=38) rfl (host := "") (Or.inl hw155) Via.refl P6 P1 (Or.inl hw156) hw149 (ty := .int) (by decide) rfl rfl P2 (fun h_1 W_2 => ?_)
     have f_3 := P5.other W_2 (Or.inr (slot_ne (Or.inl hw168) (Or.inl hw156) (by decide) (t := (.array .long)) (t' := .int) (by decide) (by decide)))
     have f_4 := P6.same W_2
     exact K.ret0 d40_38 (by decide) (by decide) ⟨(0 : Int32), rfl, ((Keep.refl h [b]).wr W_2 (Or.inl (by simp))), f_3, f_4, by decide⟩
    ·exfalso; omega
   ·refine K.goto d40_22 (by decide) (w':=31) (by decide) ?_
    refine K.aloadN d40_31 (w':=32) rfl rfl rfl ?_
    refine K.iloadN d40_32 (w':=33) rfl rfl ?_
    refine K.iconst d40_33 (w':=34) rfl (z := 1) rfl ?_
    refine K.iadd d40_34 (w':=35) rfl (z := (1 : Int32)) (by decide) ?_
    refine K.putf d40_35 (w':=38) rfl (host := "") (Or.inl hw155) Via.refl P6 P1 (Or.inl hw156) hw149 (ty := .int) (by decide) rfl rfl P2 (fun h_5 W_6 => ?_)
    have f_7 := P5.other W_6 (Or.inr (slot_ne (Or.inl hw168) (Or.inl hw156) (by decide) (t := (.array .long)) (t' := .int) (by decide) (by decide)))
    have f_8 := P6.same W_6
    exact K.ret0 d40_38 (by decide) (by decide) ⟨(1 : Int32), rfl, ((Keep.refl h [b]).wr W_6 (Or.inl (by simp))), f_7, f_8, by decide⟩
theorem d30_0 : decode B30 0 = .ok (.iload_n 1, 1) := by decide +kernel
theorem d30_1 : decode B30 1 = .ok (.ifCond .ge 30, 3) := by decide +kernel
theorem d30_31 : decode B30 31 = .ok (.iload_n 1, 1) := by decide +kernel
theorem d30_32 : decode B30 32 = .ok (.invokestatic 52, 3) := by decide +kernel
theorem d30_35 : decode B30 35 = .ok (.istore_n 2, 1) := by decide +kernel
theorem d30_36 : decode B30 36 = .ok (.aload_n 0, 1) := by decide +kernel
theorem d30_37 : decode B30 37 = .ok (.iload_n 2, 1) := by decide +kernel
theorem d30_38 : decode B30 38 = .ok (.invokevirtual 155, 3) := by decide +kernel
theorem d30_41 : decode B30 41 = .ok (.aload_n 0, 1) := by decide +kernel
theorem d30_42 : decode B30 42 = .ok (.getfield 11, 3) := by decide +kernel
theorem d30_45 : decode B30 45 = .ok (.iload_n 2, 1) := by decide +kernel
theorem d30_46 : decode B30 46 = .ok (.dup2, 1) := by decide +kernel
theorem d30_47 : decode B30 47 = .ok (.laload, 1) := by decide +kernel
theorem d30_48 : decode B30 48 = .ok (.lconst 1, 1) := by decide +kernel
theorem d30_49 : decode B30 49 = .ok (.iload_n 1, 1) := by decide +kernel
theorem d30_50 : decode B30 50 = .ok (.lshl, 1) := by decide +kernel
theorem d30_51 : decode B30 51 = .ok (.lor, 1) := by decide +kernel
theorem d30_52 : decode B30 52 = .ok (.lastore, 1) := by decide +kernel
theorem d30_53 : decode B30 53 = .ok (.aload_n 0, 1) := by decide +kernel
theorem d30_54 : decode B30 54 = .ok (.invokevirtual 56, 3) := by decide +kernel
theorem pd_17 : parseMethodDescriptor "()V" = some ⟨[], none⟩ := by decide +kernel
theorem d30_57 : decode B30 57 = .ok (.return_, 1) := by decide +kernel
theorem c_bs_ (l : Launch) (Z : State) (a0 : Array Value) (hw : HW a0 Z) (n0 : Nat) (h : Heap) (b : Addr) (w : Addr) (u : Int32) (x : Int64) (i : Int32) (P1 : Old Z n0 h) (P2 : Sta Z Z.heap sB "$assertionsDisabled" "Z" (.int 1)) (P3 : Exa Z h b sB) (P4 : n0 ≤ b) (P5 : n0 ≤ w) (P6 : b ≠ w) (P7 : Fld Z h b sB "words" "[J" (.ref w)) (P8 : Fld Z h b sB "wordsInUse" "I" (.int u)) (P9 : Ary Z h w .long [(.long x)]) (hu : 0 ≤ u.toInt ∧ u.toInt ≤ 1) (hi : 0 ≤ i.toInt ∧ i.toInt ≤ 2) : MeetsW l Z n0 (⟨sB, "set", "(I)V"⟩ : MethodName) B30 3 none ({ frames := 2, cells := 0, slots := 0, locals := 28 } : Room) #[(.ref b), (.int i)] h (fun v h' => ∃ (u1 : Int32) (x1 : Int64), v = none ∧ Keep h h' [b, w] ∧ Fld Z h' b sB "words" "[J" (.ref w) ∧ Fld Z h' b sB "wordsInUse" "I" (.int u1) ∧ Ary Z h' w .long [(.long x1)] ∧ (0 ≤ u1.toInt ∧ u1.toInt ≤ 1)) := by
 refine MeetsW.intro (plainFor_of_name pn_java_util_BitSet) (L0 := #[vr b, vi i, un]) (fun m => rfl) ?_
 intro m G K0
 have K : Cx l ({ frames := 2, cells := 0, slots := 0, locals := 28 } : Room) Z n0 _ sB "set" B30 3 none m G := K0
 have hw149 := tb hw (i:=149) rfl
 have hw150 := tb hw (i:=150) rfl
 have hw164 := tb hw (i:=164) rfl
 have hw165 := tb hw (i:=165) rfl
 have hw166 := tb hw (i:=166) rfl
 have hw167 := tb hw (i:=167) rfl
 have hw184 := tb hw (i:=184) rfl
 have hw185 := tb hw (i:=185) rfl
 have hw186 := tb hw (i:=186) rfl
 have hw188 := tb hw (i:=188) rfl
 have hw194 := tb hw (i:=194) rfl
 have hw195 := tb hw (i:=195) rfl
 have hw196 := tb hw (i:=196) rfl
 have hw198 := tb hw (i:=198) rfl
 refine K.iloadN d30_0 (w':=1) rfl rfl ?_
 refine K.if_ge d30_1 (pc1 := 4) rfl (by decide) (pc2 := 31) (by decide) (a := i.toInt) rfl (fun c1 => ?_) (fun c1 => ?_)
 ·refine K.iloadN d30_31 (w':=32) rfl rfl ?_
  refine K.calls (argsL := [(.int i)]) (rest := []) d30_32 (w':=35) rfl (c_wi l Z a0 hw n0 h (i := i) (by omega)) hw164 hw165 hw150 hw166 (by decide) pd_15 rfl rfl (W := 0) (Nat.le_refl _) (by decide) (by decide) (by decide) (by decide) (fun v_3 h_1 q_2 => ?_)
  obtain ⟨rfl, rfl⟩ := q_2
  show G h 0 0 (mkF m 35 #[vr b, vi i, un] [(.int 0)])
  refine K.istoreN d30_35 (w':=36) rfl (L' := #[vr b, vi i, vi 0]) rfl ?_
  refine K.aloadN d30_36 (w':=37) rfl rfl rfl ?_
  refine K.iloadN d30_37 (w':=38) rfl rfl ?_
  refine K.callp (argsL := [(.int 0)]) (rest := []) d30_38 (w':=41) rfl (c_et l Z a0 hw n0 h (b := b) (w := w) (u := u) (x := x) P3 P4 P5 P6 P7 P8 P9 (by omega)) P3 hw184 hw185 hw149 hw186 hw150 hw188 (by decide) pd_16 rfl rfl (W := 0) (Nat.le_refl _) (by decide) (by decide) (by decide) (by decide) (fun v_7 h_5 q_6 => ?_)
  obtain ⟨v1, rfl, K_9, f_10, f_11, hu1_w_8⟩ := q_6
  show G h_5 0 0 (mkF m 41 #[vr b, vi i, vi 0] [])
  refine K.aloadN d30_41 (w':=42) rfl rfl rfl ?_
  refine K.getL d30_42 (w':=45) rfl hw167 f_10 ?_
  refine K.iloadN d30_45 (w':=46) rfl rfl ?_
  refine K.dup2 d30_46 (w':=47) rfl rfl rfl ?_
  have f_12 := (P9.keep K_9 (ninS (Ne.symm P6) nin0))
  refine K.lald d30_47 (w':=48) rfl f_12 (i := 0) rfl rfl ?_
  refine K.lconst d30_48 (w':=49) rfl (z := 1) rfl ?_
  refine K.iloadN d30_49 (w':=50) rfl rfl ?_
  obtain ⟨y1, e_y1⟩ : ∃ z, (1 : Int64) <<< (i &&& 0x3f).toInt64 = z := ⟨_, rfl⟩
  -- no fact on lshl
  refine K.lshl d30_50 (w':=51) rfl e_y1 ?_
  obtain ⟨y2, e_y2⟩ : ∃ z, x ||| y1 = z := ⟨_, rfl⟩
  have r_y2 : (0 ≤ (x.toInt : Int) → 0 ≤ (y1.toInt : Int) → 0 ≤ y2.toInt) ∧ ((x.toInt : Int) < 0 → y2.toInt < 0) ∧ ((y1.toInt : Int) < 0 → y2.toInt < 0) := by have q := c_orSL x y1; rw [e_y2] at q; exact q
  refine K.lor d30_51 (w':=52) rfl e_y2 ?_
  refine K.last d30_52 (w':=53) rfl f_12 (i := 0) rfl (show 0 < 1 by decide) P5 (fun h_13 W_14 A_15 => ?_)
  have A_16 : Ary Z h_13 w .long [(.long y2)] := A_15
  refine K.aloadN d30_53 (w':=54) rfl rfl rfl ?_
  have f_17 := ((P1.keep K_9 (allS P4 all0)).wr W_14 P5)
  have f_21 := ((P3.keep K_9).wr W_14)
  refine K.callp (argsL := []) (rest := []) d30_54 (w':=57) rfl (c_ci l Z a0 hw n0 h_13 (b := b) f_17 P2) f_21 hw194 hw195 hw149 hw196 hw150 hw198 (by decide) pd_17 rfl rfl (W := 0) (Nat.le_refl _) (by decide) (by decide) (by decide) (by decide) (fun v_20 h_18 q_19 => ?_)
  obtain ⟨rfl, rfl⟩ := q_19
  show G h_13 0 0 (mkF m 57 #[vr b, vi i, vi 0] [])
  have f_23 := (f_11.other W_14 (Or.inl P6))
  have f_24 := (f_10.other W_14 (Or.inl P6))
  exact K.ret0 d30_57 (by decide) (by decide) ⟨v1, y2, rfl, (((Keep.refl h [b, w]).trans K_9 (allS (Or.inl (by simp)) all0)).wr W_14 (Or.inl (by simp))), f_24, f_23, A_16, by omega⟩
 ·exfalso; omega
theorem d39_0 : decode B39 0 = .ok (.iload_n 1, 1) := by decide +kernel
theorem d39_1 : decode B39 1 = .ok (.ifCond .ge 30, 3) := by decide +kernel
theorem d39_31 : decode B39 31 = .ok (.iload_n 1, 1) := by decide +kernel
theorem d39_32 : decode B39 32 = .ok (.invokestatic 52, 3) := by decide +kernel
theorem d39_35 : decode B39 35 = .ok (.istore_n 2, 1) := by decide +kernel
theorem d39_36 : decode B39 36 = .ok (.iload_n 2, 1) := by decide +kernel
theorem d39_37 : decode B39 37 = .ok (.aload_n 0, 1) := by decide +kernel
theorem d39_38 : decode B39 38 = .ok (.getfield 7, 3) := by decide +kernel
theorem d39_41 : decode B39 41 = .ok (.if_icmp .lt 4, 3) := by decide +kernel
theorem d39_45 : decode B39 45 = .ok (.aload_n 0, 1) := by decide +kernel
theorem d39_46 : decode B39 46 = .ok (.getfield 11, 3) := by decide +kernel
theorem d39_49 : decode B39 49 = .ok (.iload_n 2, 1) := by decide +kernel
theorem d39_50 : decode B39 50 = .ok (.dup2, 1) := by decide +kernel
theorem d39_51 : decode B39 51 = .ok (.laload, 1) := by decide +kernel
theorem d39_52 : decode B39 52 = .ok (.lconst 1, 1) := by decide +kernel
theorem d39_53 : decode B39 53 = .ok (.iload_n 1, 1) := by decide +kernel
theorem d39_54 : decode B39 54 = .ok (.lshl, 1) := by decide +kernel
theorem d39_55 : decode B39 55 = .ok (.ldc2_w 165, 3) := by decide +kernel
theorem d39_58 : decode B39 58 = .ok (.lxor, 1) := by decide +kernel
theorem d39_59 : decode B39 59 = .ok (.land, 1) := by decide +kernel
theorem d39_60 : decode B39 60 = .ok (.lastore, 1) := by decide +kernel
theorem d39_61 : decode B39 61 = .ok (.aload_n 0, 1) := by decide +kernel
theorem d39_62 : decode B39 62 = .ok (.invokevirtual 158, 3) := by decide +kernel
theorem d39_65 : decode B39 65 = .ok (.aload_n 0, 1) := by decide +kernel
theorem d39_66 : decode B39 66 = .ok (.invokevirtual 56, 3) := by decide +kernel
theorem d39_69 : decode B39 69 = .ok (.return_, 1) := by decide +kernel
theorem d39_44 : decode B39 44 = .ok (.return_, 1) := by decide +kernel
theorem c_bc_ (l : Launch) (Z : State) (a0 : Array Value) (hw : HW a0 Z) (n0 : Nat) (h : Heap) (b : Addr) (w : Addr) (u : Int32) (x : Int64) (i : Int32) (P1 : Old Z n0 h) (P2 : Sta Z Z.heap sB "$assertionsDisabled" "Z" (.int 1)) (P3 : Exa Z h b sB) (P4 : n0 ≤ b) (P5 : n0 ≤ w) (P6 : b ≠ w) (P7 : Fld Z h b sB "words" "[J" (.ref w)) (P8 : Fld Z h b sB "wordsInUse" "I" (.int u)) (P9 : Ary Z h w .long [(.long x)]) (hu : 0 ≤ u.toInt ∧ u.toInt ≤ 1) (hi : 0 ≤ i.toInt ∧ i.toInt ≤ 2) : MeetsW l Z n0 (⟨sB, "clear", "(I)V"⟩ : MethodName) B39 3 none ({ frames := 1, cells := 0, slots := 0, locals := 13 } : Room) #[(.ref b), (.int i)] h (fun v h' => ∃ (u1 : Int32) (x1 : Int64), v = none ∧ Keep h h' [b, w] ∧ Fld Z h' b sB "words" "[J" (.ref w) ∧ Fld Z h' b sB "wordsInUse" "I" (.int u1) ∧ Ary Z h' w .long [(.long x1)] ∧ (0 ≤ u1.toInt ∧ u1.toInt ≤ 1)) := by
 refine MeetsW.intro (plainFor_of_name pn_java_util_BitSet) (L0 := #[vr b, vi i, un]) (fun m => rfl) ?_
 intro m G K0
 have K : Cx l ({ frames := 1, cells := 0, slots := 0, locals := 13 } : Room) Z n0 _ sB "clear" B39 3 none m G := K0
 have hw149 := tb hw (i:=149) rfl
 have hw150 := tb hw (i:=150) rfl
 have hw155 := tb hw (i:=155) rfl
 have hw164 := tb hw (i:=164) rfl
 have hw165 := tb hw (i:=165) rfl
 have hw166 := tb hw (i:=166) rfl
 have hw167 := tb hw (i:=167) rfl
 have hw194 := tb hw (i:=194) rfl
 have hw195 := tb hw (i:=195) rfl
 have hw196 := tb hw (i:=196) rfl
 have hw198 := tb hw (i:=198) rfl
 have hw226 := tb hw (i:=226) rfl
 have hw227 := tb hw (i:=227) rfl
 have hw228 := tb hw (i:=228) rfl
 have hw229 := tb hw (i:=229) rfl
 have hw231 := tb hw (i:=231) rfl
 refine K.iloadN d39_0 (w':=1) rfl rfl ?_
 refine K.if_ge d39_1 (pc1 := 4) rfl (by decide) (pc2 := 31) (by decide) (a := i.toInt) rfl (fun c1 => ?_) (fun c1 => ?_)
 ·refine K.iloadN d39_31 (w':=32) rfl rfl ?_
  refine K.calls (argsL := [(.int i)]) (rest := []) d39_32 (w':=35) rfl (c_wi l Z a0 hw n0 h (i := i) (by omega)) hw164 hw165 hw150 hw166 (by decide) pd_15 rfl rfl (W := 0) (Nat.le_refl _) (by decide) (by decide) (by decide) (by decide) (fun v_3 h_1 q_2 => ?_)
  obtain ⟨rfl, rfl⟩ := q_2
  show G h 0 0 (mkF m 35 #[vr b, vi i, un] [(.int 0)])
  refine K.istoreN d39_35 (w':=36) rfl (L' := #[vr b, vi i, vi 0]) rfl ?_
  refine K.iloadN d39_36 (w':=37) rfl rfl ?_
  refine K.aloadN d39_37 (w':=38) rfl rfl rfl ?_
  refine K.getL d39_38 (w':=41) rfl hw155 P8 ?_
  refine K.icmp_lt d39_41 (pc1 := 44) rfl (by decide) (pc2 := 45) (by decide) (a := 0) (b := u.toInt) rfl rfl (fun c41 => ?_) (fun c41 => ?_)
  ·refine K.aloadN d39_45 (w':=46) rfl rfl rfl ?_
   refine K.getL d39_46 (w':=49) rfl hw167 P7 ?_
   refine K.iloadN d39_49 (w':=50) rfl rfl ?_
   refine K.dup2 d39_50 (w':=51) rfl rfl rfl ?_
   refine K.lald d39_51 (w':=52) rfl P9 (i := 0) rfl rfl ?_
   refine K.lconst d39_52 (w':=53) rfl (z := 1) rfl ?_
   refine K.iloadN d39_53 (w':=54) rfl rfl ?_
   obtain ⟨z54, e_z54⟩ : ∃ z, (1 : Int64) <<< (i &&& 0x3f).toInt64 = z := ⟨_, rfl⟩
   -- no fact on lshl
   refine K.lshl d39_54 (w':=55) rfl e_z54 ?_
   refine K.ldc2J d39_55 (w':=58) rfl hw226 ?_
   obtain ⟨z58, e_z58⟩ : ∃ z, z54 ^^^ (-1 : Int64) = z := ⟨_, rfl⟩
   -- no fact on lxor
   refine K.lxor d39_58 (w':=59) rfl e_z58 ?_
   obtain ⟨z59, e_z59⟩ : ∃ z, x &&& z58 = z := ⟨_, rfl⟩
   -- no fact on land
   refine K.land d39_59 (w':=60) rfl e_z59 ?_
   refine K.last d39_60 (w':=61) rfl P9 (i := 0) rfl (show 0 < 1 by decide) P5 (fun h_5 W_6 A_7 => ?_)
   have A_8 : Ary Z h_5 w .long [(.long z59)] := A_7
   refine K.aloadN d39_61 (w':=62) rfl rfl rfl ?_
   have f_9 := (P7.other W_6 (Or.inl P6))
   have f_10 := (P8.other W_6 (Or.inl P6))
   have f_11 := (P3.wr W_6)
   refine K.callp (argsL := []) (rest := []) d39_62 (w':=65) rfl (c_rw l Z a0 hw n0 h_5 (b := b) (w := w) (u := u) (x := z59) f_11 P4 P5 P6 f_9 f_10 A_8 (by omega)) f_11 hw227 hw228 hw149 hw229 hw150 hw231 (by decide) pd_17 rfl rfl (W := 0) (Nat.le_refl _) (by decide) (by decide) (by decide) (by decide) (fun v_14 h_12 q_13 => ?_)
   obtain ⟨u1_16, rfl, K_17, f_18, f_19, hu1_w_15⟩ := q_13
   show G h_12 0 0 (mkF m 65 #[vr b, vi i, vi 0] [])
   refine K.aloadN d39_65 (w':=66) rfl rfl rfl ?_
   have f_20 := ((P1.wr W_6 P5).keep K_17 (allS P4 all0))
   have f_24 := (f_11.keep K_17)
   refine K.callp (argsL := []) (rest := []) d39_66 (w':=69) rfl (c_ci l Z a0 hw n0 h_12 (b := b) f_20 P2) f_24 hw194 hw195 hw149 hw196 hw150 hw198 (by decide) pd_17 rfl rfl (W := 0) (Nat.le_refl _) (by decide) (by decide) (by decide) (by decide) (fun v_23 h_21 q_22 => ?_)
   obtain ⟨rfl, rfl⟩ := q_22
   show G h_12 0 0 (mkF m 69 #[vr b, vi i, vi 0] [])
   have f_26 := (A_8.keep K_17 (ninS (Ne.symm P6) nin0))
   exact K.ret0 d39_69 (by decide) (by decide) ⟨u1_16, z59, rfl, (((Keep.refl h [b, w]).wr W_6 (Or.inl (by simp))).trans K_17 (allS (Or.inl (by simp)) all0)), f_18, f_19, f_26, by omega⟩
  ·exact K.ret0 d39_44 (by decide) (by decide) ⟨u, x, rfl, (Keep.refl h [b, w]), P7, P8, P9, by omega⟩
 ·exfalso; omega
theorem fill_step {us : List Value} {k : Nat} {v : Value} (hk : k + 1 ≤ us.length) : (List.replicate (us.length - (k + 1)) v ++ us.drop (us.length - (k + 1))).set (us.length - (k + 1)) v = List.replicate (us.length - k) v ++ us.drop (us.length - k) := by
 have e : us.length - k = us.length - (k + 1) + 1 := by omega
 have hlt : us.length - (k + 1) < us.length := by omega
 rw [List.set_append_right _ _ (by simp), e]
 simp only [List.length_replicate, Nat.sub_self]
 rw [List.drop_eq_getElem_cons hlt]
 simp only [List.set_cons_zero, List.replicate_succ', List.append_assoc, List.singleton_append]
theorem d28_0 : decode B28 0 = .ok (.iconst 0, 1) := by decide +kernel
theorem d28_1 : decode B28 1 = .ok (.istore_n 2, 1) := by decide +kernel
theorem d28_2 : decode B28 2 = .ok (.aload_n 0, 1) := by decide +kernel
theorem d28_3 : decode B28 3 = .ok (.arraylength, 1) := by decide +kernel
theorem d28_4 : decode B28 4 = .ok (.istore_n 3, 1) := by decide +kernel
theorem d28_5 : decode B28 5 = .ok (.iload_n 2, 1) := by decide +kernel
theorem d28_6 : decode B28 6 = .ok (.iload_n 3, 1) := by decide +kernel
theorem d28_7 : decode B28 7 = .ok (.if_icmp .ge 13, 3) := by decide +kernel
theorem d28_20 : decode B28 20 = .ok (.return_, 1) := by decide +kernel
theorem d28_10 : decode B28 10 = .ok (.aload_n 0, 1) := by decide +kernel
theorem d28_11 : decode B28 11 = .ok (.iload_n 2, 1) := by decide +kernel
theorem d28_12 : decode B28 12 = .ok (.iload_n 1, 1) := by decide +kernel
theorem d28_13 : decode B28 13 = .ok (.iastore, 1) := by decide +kernel
theorem d28_14 : decode B28 14 = .ok (.iinc 2 1, 3) := by decide +kernel
theorem d28_17 : decode B28 17 = .ok (.goto (-12), 3) := by decide +kernel
theorem c_fil (l : Launch) (Z : State) (a0 : Array Value) (hw : HW a0 Z) (n0 : Nat) (h : Heap) (a : Addr) (us : List Value) (P1 : Ary Z h a .int us) (P2 : n0 ≤ a) (hl : us.length ≤ 8) : MeetsW l Z n0 (⟨"java/util/Arrays", "fill", "([II)V"⟩ : MethodName) B28 4 none ({ frames := 0, cells := 0, slots := 0, locals := 0 } : Room) #[(.ref a), (.int (-1))] h (fun v h' => v = none ∧ Keep h h' [a] ∧ Ary Z h' a .int (List.replicate us.length (.int (-1)))) := by
 refine MeetsW.intro (plainFor_of_name pn_java_util_Arrays) (L0 := #[vr a, vi (-1), un, un]) (fun m => rfl) ?_
 intro m G K0
 have K : Cx l ({ frames := 0, cells := 0, slots := 0, locals := 0 } : Room) Z n0 _ "java/util/Arrays" "fill" B28 4 none m G := K0
 refine K.iconst d28_0 (w':=1) rfl (z := 0) rfl ?_
 refine K.istoreN d28_1 (w':=2) rfl (L' := #[vr a, vi (-1), vi 0, un]) rfl ?_
 refine K.aloadN d28_2 (w':=3) rfl rfl rfl ?_
 refine K.alen d28_3 (w':=4) rfl P1 (fun n e_n => ?_)
 refine K.istoreN d28_4 (w':=5) rfl (L' := #[vr a, vi (-1), vi 0, vi n]) rfl ?_
 have J5_1 : ∀ (k : Nat) (i : Int32), ∀ (h_1 : Heap) (K_2 : Keep h h_1 [a]) (A_3 : Ary Z h_1 a .int (List.replicate (us.length - k) (.int (-1)) ++ us.drop (us.length - k))), (k ≤ us.length ∧ i.toInt = ((us.length - k : Nat) : Int)) → G h_1 0 0 (mkF m 5 #[vr a, vi (-1), vi i, vi n] []) := by
  intro k
  induction k with
  | zero =>
   intro i h_1 K_2 A_3 hi_1
   have e0 : us.length - 0 = us.length := rfl
   refine K.iloadN d28_5 (w':=6) rfl rfl ?_
   refine K.iloadN d28_6 (w':=7) rfl rfl ?_
   refine K.icmp_ge d28_7 (pc1 := 10) rfl (by decide) (pc2 := 20) (by decide) (a := i.toInt) (b := n.toInt) rfl rfl (fun c7 => ?_) (fun c7 => ?_)
   ·have A_4 : Ary Z h_1 a .int (List.replicate us.length (.int (-1))) := by have q := A_3; simpa using q
    exact K.ret0 d28_20 (by decide) (by decide) ⟨rfl, ((Keep.refl h [a]).trans K_2 (allS (Or.inl (by simp)) all0)), A_4⟩
   ·exfalso; omega
  | succ k ih_1 =>
   intro i h_1 K_2 A_3 hi_1
   refine K.iloadN d28_5 (w':=6) rfl rfl ?_
   refine K.iloadN d28_6 (w':=7) rfl rfl ?_
   refine K.icmp_ge d28_7 (pc1 := 10) rfl (by decide) (pc2 := 20) (by decide) (a := i.toInt) (b := n.toInt) rfl rfl (fun c7 => ?_) (fun c7 => ?_)
   ·exfalso; omega
   ·refine K.aloadN d28_10 (w':=11) rfl rfl rfl ?_
    refine K.iloadN d28_11 (w':=12) rfl rfl ?_
    refine K.iloadN d28_12 (w':=13) rfl rfl ?_
    refine K.iast d28_13 (w':=14) rfl A_3 (i := us.length - (k + 1)) (by omega) (by simp [-Int32.toNat_toInt]; omega) P2 (fun h_5 W_6 A_7 => ?_)
    have A_8 : Ary Z h_5 a .int (List.replicate (us.length - k) (.int (-1)) ++ us.drop (us.length - k)) := (by have q := A_7; rw [fill_step (by omega)] at q; exact q)
    obtain ⟨i2, e_i2⟩ : ∃ z, i + (1 : Int32) = z := ⟨_, rfl⟩
    have r_i2 : (i2.toInt - (i.toInt + 1)) % 4294967296 = 0 := by have q := c_iadd i (1 : Int32); rw [e_i2] at q; exact q
    have g_i2 := rng32 i2
    have t_i2 : i2.toInt = i.toInt + 1 := by omega
    clear r_i2
    clear g_i2
    refine K.iinc d28_14 (w':=17) rfl rfl (z := i2) e_i2 (L' := #[vr a, vi (-1), vi i2, vi n]) rfl ?_
    refine K.goto d28_17 (by decide) (w':=5) (by decide) ?_
    exact ih_1 i2 h_5 (K_2.wr W_6 (Or.inl (by simp))) A_8 (by constructor <;> omega)
 exact J5_1 us.length (0 : Int32) h (Keep.refl _ _) (by have q := P1; simpa using q) (by simp)
def s3 (z a b c : Int32) : Int32 := if z.toInt = 0 then a else if z.toInt = 1 then b else c
theorem s3_get {z a b c : Int32} (h : 0 ≤ z.toInt ∧ z.toInt ≤ 2) : [a, b, c][z.toInt.toNat]? = some (s3 z a b c) := by
 have q : z.toInt = 0 ∨ z.toInt = 1 ∨ z.toInt = 2 := by omega
 unfold s3
 rcases q with q | q | q <;> rw [q] <;> rfl
theorem pmr {a b c : Int32} (h : pm a b c) : (0 ≤ a.toInt ∧ a.toInt ≤ 2) ∧ (0 ≤ b.toInt ∧ b.toInt ≤ 2) ∧ (0 ≤ c.toInt ∧ c.toInt ≤ 2) := by
 unfold pm at h
 rcases h with ⟨rfl, rfl, rfl⟩ | ⟨rfl, rfl, rfl⟩ | ⟨rfl, rfl, rfl⟩ | ⟨rfl, rfl, rfl⟩ | ⟨rfl, rfl, rfl⟩ | ⟨rfl, rfl, rfl⟩ <;> decide
theorem pmd {a b c : Int32} (h : pm a b c) : a.toInt ≠ b.toInt ∧ a.toInt ≠ c.toInt ∧ b.toInt ≠ c.toInt := by
 unfold pm at h
 rcases h with ⟨rfl, rfl, rfl⟩ | ⟨rfl, rfl, rfl⟩ | ⟨rfl, rfl, rfl⟩ | ⟨rfl, rfl, rfl⟩ | ⟨rfl, rfl, rfl⟩ | ⟨rfl, rfl, rfl⟩ <;> decide
theorem cne {n : Nat} {q r o s : Int32} (h : q.toInt = (n : Int) + o.toInt) (h' : r.toInt = (n : Int) + s.toInt) (hne : s.toInt ≠ o.toInt) (ho : 0 ≤ o.toInt) (hs : 0 ≤ s.toInt) : q.toInt.toNat ≠ r.toInt.toNat := by omega
theorem mget {l : List Int32} {i : Nat} {x : Int32} (h : l[i]? = some x) : (l.map Value.int)[i]? = some (.int x) := by rw [List.getElem?_map, h]; rfl
theorem set_eq {l : List Int32} {i : Nat} {x : Int32} (h : i < l.length) : (l.set i x)[i]? = some x := by simp [h]
theorem set_ne {l : List Int32} {i j : Nat} {x v : Int32} (h : l[i]? = some v) (hj : j ≠ i) : (l.set j x)[i]? = some v := by rw [List.getElem?_set_ne hj]; exact h
theorem rep_get {n i : Nat} {x : Int32} (h : i < n) : (List.replicate n x)[i]? = some x := by simp [h]
/-- what the lists of a placement say: where the three stand (pl), who is first on each position (fl), who comes behind whom (nl, vl) -/
def PI (N : Nat) (pl fl nl vl : List Int32) : Prop := pl.length = 3 ∧ fl.length = N ∧ nl.length = 3 ∧ vl.length = 3 ∧ (∀ j : Nat, j < 3 → 0 ≤ (pl.getD j 0).toInt ∧ (pl.getD j 0).toInt < N) ∧
 (∀ q : Nat, q < N → ((fl.getD q 0).toInt ≠ -1 ↔ ∃ j : Nat, j < 3 ∧ (pl.getD j 0).toInt = q)) ∧
 (∀ m : Nat, m < 3 → ((nl.getD m 0).toInt = -1 ∨ (0 ≤ (nl.getD m 0).toInt ∧ (nl.getD m 0).toInt ≤ 2)) ∧ ((vl.getD m 0).toInt = -1 ∨ (0 ≤ (vl.getD m 0).toInt ∧ (vl.getD m 0).toInt ≤ 2)) ∧
  ((vl.getD m 0).toInt = -1 → ((nl.getD m 0).toInt ≠ -1 ↔ ∃ j : Nat, j < 3 ∧ j ≠ m ∧ (pl.getD j 0).toInt = (pl.getD m 0).toInt)) ∧ ((vl.getD m 0).toInt ≠ -1 → ∃ j : Nat, j < 3 ∧ j ≠ m ∧ (pl.getD j 0).toInt = (pl.getD m 0).toInt))
theorem getd {l : List Int32} {i : Nat} (h : i < l.length) : l[i]? = some (l.getD i 0) := by simp [List.getD_eq_getElem?_getD, h]
theorem set_same {l : List Int32} {i j : Nat} {v : Int32} (h : l[i]? = some v) : (l.set j v)[i]? = some v := by
 have hi := (List.getElem?_eq_some_iff.mp h).1
 by_cases e : j = i
 ·subst e; exact set_eq hi
 ·exact set_ne h e
/-- who stands where behind a move of m to 'to' -/
def MV (N : Nat) (pl fl : List Int32) (m to : Int32) : Prop := fl.length = N ∧ ∀ q : Nat, q < N → ((fl.getD q 0).toInt ≠ -1 ↔ ((q : Int) = to.toInt ∨ ∃ j : Nat, j < 3 ∧ (j : Int) ≠ m.toInt ∧ (pl.getD j 0).toInt = q))
theorem sd4 {ds : List Int64} {P : Int → Prop} (h : SD ds P) (hne : ∃ v, P v) (hr : ∀ v, P v → 0 ≤ v ∧ v ≤ 3) : (ds.map Int64.toInt).Pairwise (· < ·) ∧ 1 ≤ ds.length ∧ ds.length ≤ 4 := by
 refine ⟨h.1, ?_, ?_⟩
 ·cases ds with
  | nil => obtain ⟨v, hv⟩ := hne; exact absurd ((h.2 v).mpr hv) (by simp)
  | cons a t => simp
 ·match ds, h with
  | [], _ => simp
  | [_], _ => simp
  | [_, _], _ => simp
  | [_, _, _], _ => simp
  | [_, _, _, _], _ => simp
  | a :: b :: c :: d :: e :: t, h =>
   have ha := hr _ ((h.2 a.toInt).mp ⟨a, by simp, rfl⟩)
   have he := hr _ ((h.2 e.toInt).mp ⟨e, by simp, rfl⟩)
   have hp := h.1
   simp only [List.map_cons, List.pairwise_cons, List.mem_cons, forall_eq_or_imp] at hp
   omega
theorem in1 {P : Int → Prop} {ds : List Int64} (h : SD ds P) {v : Int} {x : Int32} (t : (x.toInt = 1 ∧ P v) ∨ (x.toInt = 0 ∧ ¬ P v)) : (x.toInt = 1 ∧ ∃ d ∈ ds, d.toInt = v) ∨ (x.toInt = 0 ∧ ¬ ∃ d ∈ ds, d.toInt = v) := by
 rcases t with ⟨e, p⟩ | ⟨e, p⟩
 ·exact Or.inl ⟨e, (h.2 v).mpr p⟩
 ·exact Or.inr ⟨e, fun q => p ((h.2 v).mp q)⟩
theorem cnt_ {ds : List Int64} {P : Int → Prop} (h : SD ds P) (hr : ∀ v, P v → 0 ≤ v ∧ v ≤ 3) (hne : ∃ v, P v) {x0 x1 x2 x3 : Int32} (t0 : (x0.toInt = 1 ∧ P 0) ∨ (x0.toInt = 0 ∧ ¬ P 0)) (t1 : (x1.toInt = 1 ∧ P 1) ∨ (x1.toInt = 0 ∧ ¬ P 1)) (t2 : (x2.toInt = 1 ∧ P 2) ∨ (x2.toInt = 0 ∧ ¬ P 2)) (t3 : (x3.toInt = 1 ∧ P 3) ∨ (x3.toInt = 0 ∧ ¬ P 3)) : x0.toInt + x1.toInt + x2.toInt + x3.toInt = (ds.length : Int) := by
 obtain ⟨hp, h1, h4⟩ := sd4 h hne hr
 have k0 := in1 h t0
 have k1 := in1 h t1
 have k2 := in1 h t2
 have k3 := in1 h t3
 have rr : ∀ d ∈ ds, 0 ≤ d.toInt ∧ d.toInt ≤ 3 := fun d hd => hr _ ((h.2 _).mp ⟨d, hd, rfl⟩)
 clear h t0 t1 t2 t3 hne hr
 match ds, hp, h1, h4, k0, k1, k2, k3, rr with
 | [], _, h1, _, _, _, _, _, _ => simp at h1
 | [a], hp, _, _, k0, k1, k2, k3, rr =>
  simp only [List.mem_cons, List.not_mem_nil, or_false, exists_eq_left, forall_eq, List.length_cons, List.length_nil] at *
  omega
 | [a, b], hp, _, _, k0, k1, k2, k3, rr =>
  simp only [List.mem_cons, List.not_mem_nil, or_false, exists_eq_or_imp, exists_eq_left, forall_eq_or_imp, forall_eq, List.map_cons, List.map_nil, List.pairwise_cons, List.length_cons, List.length_nil] at *
  omega
 | [a, b, c], hp, _, _, k0, k1, k2, k3, rr =>
  simp only [List.mem_cons, List.not_mem_nil, or_false, exists_eq_or_imp, exists_eq_left, forall_eq_or_imp, forall_eq, List.map_cons, List.map_nil, List.pairwise_cons, List.length_cons, List.length_nil] at *
  omega
 | [a, b, c, d], hp, _, _, k0, k1, k2, k3, rr =>
  simp only [List.mem_cons, List.not_mem_nil, or_false, exists_eq_or_imp, exists_eq_left, forall_eq_or_imp, forall_eq, List.map_cons, List.map_nil, List.pairwise_cons, List.length_cons, List.length_nil] at *
  have e1 : a.toInt = 0 := by omega
  have e2 : b.toInt = 1 := by omega
  have e3 : c.toInt = 2 := by omega
  have e4 : d.toInt = 3 := by omega
  rw [e1, e2, e3, e4] at k0 k1 k2 k3
  omega
 | _ :: _ :: _ :: _ :: _ :: _, _, _, h4, _, _, _, _, _ => simp at h4
theorem idx_ {ds : List Int64} {P : Int → Prop} (h : SD ds P) (hr : ∀ v, P v → 0 ≤ v ∧ v ≤ 3) (hne : ∃ v, P v) {x0 x1 x2 : Int32} (t0 : (x0.toInt = 1 ∧ P 0) ∨ (x0.toInt = 0 ∧ ¬ P 0)) (t1 : (x1.toInt = 1 ∧ P 1) ∨ (x1.toInt = 0 ∧ ¬ P 1)) (t2 : (x2.toInt = 1 ∧ P 2) ∨ (x2.toInt = 0 ∧ ¬ P 2)) {p z : Int32} {s : Int64} (hp : ∃ i : Nat, p.toInt = i ∧ i < ds.length ∧ ∃ d, ds[i]? = some d ∧ d.toInt = s.toInt) (hz : z.toInt = (if 0 < s.toInt ∧ x0.toInt ≠ 0 then (1 : Int) else 0) + (if 1 < s.toInt ∧ x1.toInt ≠ 0 then (1 : Int) else 0) + (if 2 < s.toInt ∧ x2.toInt ≠ 0 then (1 : Int) else 0)) : z.toInt = p.toInt := by
 obtain ⟨hq, h1, h4⟩ := sd4 h hne hr
 have k0 := in1 h t0
 have k1 := in1 h t1
 have k2 := in1 h t2
 have rr : ∀ d ∈ ds, 0 ≤ d.toInt ∧ d.toInt ≤ 3 := fun d hd => hr _ ((h.2 _).mp ⟨d, hd, rfl⟩)
 clear h t0 t1 t2 hne hr
 obtain ⟨i, hi, hl, d, hd, hs⟩ := hp
 rw [hi, hz, ← hs]
 clear hi hz hs
 match ds, hq, h1, h4, k0, k1, k2, rr, hl, hd with
 | [], _, h1, _, _, _, _, _, _, _ => simp at h1
 | [a], hq, _, _, k0, k1, k2, rr, hl, hd =>
  obtain rfl : i = 0 := by simp at hl; omega
  obtain rfl : a = d := by simpa using hd
  simp only [List.mem_cons, List.not_mem_nil, or_false, exists_eq_left, forall_eq] at k0 k1 k2 rr
  repeat' split
  all_goals omega
 | [a, b], hq, _, _, k0, k1, k2, rr, hl, hd =>
  simp only [List.mem_cons, List.not_mem_nil, or_false, exists_eq_or_imp, exists_eq_left, forall_eq_or_imp, forall_eq, List.map_cons, List.map_nil, List.pairwise_cons] at hq k0 k1 k2 rr
  have hc : i = 0 ∨ i = 1 := by simp at hl; omega
  rcases hc with rfl | rfl
  ·obtain rfl : a = d := by simpa using hd
   repeat' split
   all_goals omega
  ·obtain rfl : b = d := by simpa using hd
   repeat' split
   all_goals omega
 | [a, b, c], hq, _, _, k0, k1, k2, rr, hl, hd =>
  simp only [List.mem_cons, List.not_mem_nil, or_false, exists_eq_or_imp, exists_eq_left, forall_eq_or_imp, forall_eq, List.map_cons, List.map_nil, List.pairwise_cons] at hq k0 k1 k2 rr
  have hc : i = 0 ∨ i = 1 ∨ i = 2 := by simp at hl; omega
  rcases hc with rfl | rfl | rfl
  ·obtain rfl : a = d := by simpa using hd
   repeat' split
   all_goals omega
  ·obtain rfl : b = d := by simpa using hd
   repeat' split
   all_goals omega
  ·obtain rfl : c = d := by simpa using hd
   repeat' split
   all_goals omega
 | [a, b, c, e], hq, _, _, k0, k1, k2, rr, hl, hd =>
  simp only [List.mem_cons, List.not_mem_nil, or_false, exists_eq_or_imp, exists_eq_left, forall_eq_or_imp, forall_eq, List.map_cons, List.map_nil, List.pairwise_cons] at hq k0 k1 k2 rr
  have e1 : a.toInt = 0 := by omega
  have e2 : b.toInt = 1 := by omega
  have e3 : c.toInt = 2 := by omega
  have e4 : e.toInt = 3 := by omega
  rw [e1, e2, e3, e4] at k0 k1 k2
  have hc : i = 0 ∨ i = 1 ∨ i = 2 ∨ i = 3 := by simp at hl; omega
  rcases hc with rfl | rfl | rfl | rfl
  ·obtain rfl : a = d := by simpa using hd
   repeat' split
   all_goals omega
  ·obtain rfl : b = d := by simpa using hd
   repeat' split
   all_goals omega
  ·obtain rfl : c = d := by simpa using hd
   repeat' split
   all_goals omega
  ·obtain rfl : e = d := by simpa using hd
   repeat' split
   all_goals omega
 | _ :: _ :: _ :: _ :: _ :: _, _, _, h4, _, _, _, _, _, _ => simp at h4
theorem gset {l : List Int32} {i j : Nat} {x : Int32} (hi : i < l.length) : (l.set i x).getD j 0 = if i = j then x else l.getD j 0 := by
 simp only [List.getD_eq_getElem?_getD, List.getElem?_set]
 by_cases e : i = j
 ·subst e; simp [hi]
 ·simp [e]
theorem ex3 {a b c : Int32} {v : Int} : (∃ j : Nat, j < 3 ∧ ([a, b, c].getD j 0).toInt = v) ↔ (a.toInt = v ∨ b.toInt = v ∨ c.toInt = v) := by
 constructor
 ·rintro ⟨j, hj, e⟩
  have hc : j = 0 ∨ j = 1 ∨ j = 2 := by omega
  rcases hc with rfl | rfl | rfl
  ·exact Or.inl e
  ·exact Or.inr (Or.inl e)
  ·exact Or.inr (Or.inr e)
 ·rintro (e | e | e)
  ·exact ⟨0, by omega, e⟩
  ·exact ⟨1, by omega, e⟩
  ·exact ⟨2, by omega, e⟩
theorem ex3n {a b c : Int32} {v : Int} {m : Nat} : (∃ j : Nat, j < 3 ∧ j ≠ m ∧ ([a, b, c].getD j 0).toInt = v) ↔ ((m ≠ 0 ∧ a.toInt = v) ∨ (m ≠ 1 ∧ b.toInt = v) ∨ (m ≠ 2 ∧ c.toInt = v)) := by
 constructor
 ·rintro ⟨j, hj, hm, e⟩
  have hc : j = 0 ∨ j = 1 ∨ j = 2 := by omega
  rcases hc with rfl | rfl | rfl
  ·exact Or.inl ⟨fun q => hm q.symm, e⟩
  ·exact Or.inr (Or.inl ⟨fun q => hm q.symm, e⟩)
  ·exact Or.inr (Or.inr ⟨fun q => hm q.symm, e⟩)
 ·rintro (⟨q, e⟩ | ⟨q, e⟩ | ⟨q, e⟩)
  ·exact ⟨0, by omega, fun z => q z.symm, e⟩
  ·exact ⟨1, by omega, fun z => q z.symm, e⟩
  ·exact ⟨2, by omega, fun z => q z.symm, e⟩
theorem nv3 {p0 p1 p2 n0 n1 n2 v0 v1 v2 : Int32}
  (h0 : (n0.toInt = -1 ∨ (0 ≤ n0.toInt ∧ n0.toInt ≤ 2)) ∧ (v0.toInt = -1 ∨ (0 ≤ v0.toInt ∧ v0.toInt ≤ 2)) ∧ (v0.toInt = -1 → (n0.toInt ≠ -1 ↔ (p1.toInt = p0.toInt ∨ p2.toInt = p0.toInt))) ∧ (v0.toInt ≠ -1 → (p1.toInt = p0.toInt ∨ p2.toInt = p0.toInt)))
  (h1 : (n1.toInt = -1 ∨ (0 ≤ n1.toInt ∧ n1.toInt ≤ 2)) ∧ (v1.toInt = -1 ∨ (0 ≤ v1.toInt ∧ v1.toInt ≤ 2)) ∧ (v1.toInt = -1 → (n1.toInt ≠ -1 ↔ (p0.toInt = p1.toInt ∨ p2.toInt = p1.toInt))) ∧ (v1.toInt ≠ -1 → (p0.toInt = p1.toInt ∨ p2.toInt = p1.toInt)))
  (h2 : (n2.toInt = -1 ∨ (0 ≤ n2.toInt ∧ n2.toInt ≤ 2)) ∧ (v2.toInt = -1 ∨ (0 ≤ v2.toInt ∧ v2.toInt ≤ 2)) ∧ (v2.toInt = -1 → (n2.toInt ≠ -1 ↔ (p0.toInt = p2.toInt ∨ p1.toInt = p2.toInt))) ∧ (v2.toInt ≠ -1 → (p0.toInt = p2.toInt ∨ p1.toInt = p2.toInt))) :
  ∀ m : Nat, m < 3 → (([n0, n1, n2].getD m 0).toInt = -1 ∨ (0 ≤ ([n0, n1, n2].getD m 0).toInt ∧ ([n0, n1, n2].getD m 0).toInt ≤ 2)) ∧ (([v0, v1, v2].getD m 0).toInt = -1 ∨ (0 ≤ ([v0, v1, v2].getD m 0).toInt ∧ ([v0, v1, v2].getD m 0).toInt ≤ 2)) ∧
  (([v0, v1, v2].getD m 0).toInt = -1 → (([n0, n1, n2].getD m 0).toInt ≠ -1 ↔ ∃ j : Nat, j < 3 ∧ j ≠ m ∧ ([p0, p1, p2].getD j 0).toInt = ([p0, p1, p2].getD m 0).toInt)) ∧ (([v0, v1, v2].getD m 0).toInt ≠ -1 → ∃ j : Nat, j < 3 ∧ j ≠ m ∧ ([p0, p1, p2].getD j 0).toInt = ([p0, p1, p2].getD m 0).toInt) := by
 intro m hm
 rw [ex3n]
 have hc : m = 0 ∨ m = 1 ∨ m = 2 := by omega
 rcases hc with rfl | rfl | rfl
 ·simpa using h0
 ·simpa using h1
 ·simpa using h2
/-- whom the positions' list of firsts names -/
theorem fl_ok {N : Nat} {q0 q1 q2 o0 o1 o2 : Int32} (b0 : 0 ≤ q0.toInt ∧ q0.toInt < N) (b1 : 0 ≤ q1.toInt ∧ q1.toInt < N) (b2 : 0 ≤ q2.toInt ∧ q2.toInt < N) (c0 : o0.toInt ≠ -1) (c1 : o1.toInt ≠ -1) (c2 : o2.toInt ≠ -1) : ∀ q : Nat, q < N → (((((((List.replicate N (-1 : Int32)).set q2.toInt.toNat o2).set q1.toInt.toNat o1).set q0.toInt.toNat o0).getD q 0).toInt ≠ -1) ↔ (q0.toInt = q ∨ q1.toInt = q ∨ q2.toInt = q)) := by
 intro q hq
 rw [gset (by simp [-Int32.toNat_toInt]; omega), gset (by simp [-Int32.toNat_toInt]; omega), gset (by simp [-Int32.toNat_toInt]; omega)]
 have e : ((List.replicate N (-1 : Int32)).getD q 0) = -1 := by simp [List.getD_eq_getElem?_getD, hq]
 rw [e]
 have em : (-1 : Int32).toInt = -1 := rfl
 split
 ·constructor
  ·intro _; omega
  ·intro _; exact c0
 ·split
  ·constructor
   ·intro _; omega
   ·intro _; exact c1
  ·split
   ·constructor
    ·intro _; omega
    ·intro _; exact c2
   ·rw [em]
    constructor
    ·intro z; exact absurd rfl z
    ·intro z; omega
theorem mk_PI {n : Nat} {p0 p1 p2 o0 o1 o2 q0 q1 q2 : Int32} {nl vl : List Int32} (hpm : pm o0 o1 o2) (hb : (0 ≤ p0.toInt ∧ p0.toInt < n) ∧ (0 ≤ p1.toInt ∧ p1.toInt < n) ∧ (0 ≤ p2.toInt ∧ p2.toInt < n)) (hq0 : s3 o0 p0 p1 p2 = q0) (hq1 : s3 o1 p0 p1 p2 = q1) (hq2 : s3 o2 p0 p1 p2 = q2) (hnl : nl.length = 3) (hvl : vl.length = 3) (hnv : ∀ m : Nat, m < 3 → ((nl.getD m 0).toInt = -1 ∨ (0 ≤ (nl.getD m 0).toInt ∧ (nl.getD m 0).toInt ≤ 2)) ∧ ((vl.getD m 0).toInt = -1 ∨ (0 ≤ (vl.getD m 0).toInt ∧ (vl.getD m 0).toInt ≤ 2)) ∧ ((vl.getD m 0).toInt = -1 → ((nl.getD m 0).toInt ≠ -1 ↔ ∃ j : Nat, j < 3 ∧ j ≠ m ∧ ([p0, p1, p2].getD j 0).toInt = ([p0, p1, p2].getD m 0).toInt)) ∧ ((vl.getD m 0).toInt ≠ -1 → ∃ j : Nat, j < 3 ∧ j ≠ m ∧ ([p0, p1, p2].getD j 0).toInt = ([p0, p1, p2].getD m 0).toInt)) : PI (n + 3) [p0, p1, p2] ((((List.replicate (n + 3) (-1)).set q2.toInt.toNat o2).set q1.toInt.toNat o1).set q0.toInt.toNat o0) nl vl := by
 have hr := pmr hpm
 refine ⟨rfl, by simp, hnl, hvl, ?_, ?_, hnv⟩
 ·intro j hj
  have hc : j = 0 ∨ j = 1 ∨ j = 2 := by omega
  rcases hc with rfl | rfl | rfl
  ·show 0 ≤ p0.toInt ∧ p0.toInt < ((n + 3 : Nat) : Int); omega
  ·show 0 ≤ p1.toInt ∧ p1.toInt < ((n + 3 : Nat) : Int); omega
  ·show 0 ≤ p2.toInt ∧ p2.toInt < ((n + 3 : Nat) : Int); omega
 ·intro q hq
  have hs : ∀ o : Int32, 0 ≤ (s3 o p0 p1 p2).toInt ∧ (s3 o p0 p1 p2).toInt < n := fun o => by unfold s3; (repeat' split) <;> omega
  have b0 := hs o0
  have b1 := hs o1
  have b2 := hs o2
  rw [hq0] at b0
  rw [hq1] at b1
  rw [hq2] at b2
  rw [ex3, fl_ok (by omega) (by omega) (by omega) (by omega) (by omega) (by omega) q hq]
  unfold pm at hpm
  unfold s3 at hq0 hq1 hq2
  rcases hpm with ⟨rfl, rfl, rfl⟩ | ⟨rfl, rfl, rfl⟩ | ⟨rfl, rfl, rfl⟩ | ⟨rfl, rfl, rfl⟩ | ⟨rfl, rfl, rfl⟩ | ⟨rfl, rfl, rfl⟩ <;> (simp at hq0 hq1 hq2; subst hq0 hq1 hq2; omega)
theorem pi_A {n : Nat} {p0 p1 p2 o0 o1 o2 q0 q1 q2 : Int32} (hpm : pm o0 o1 o2) (hb : (0 ≤ p0.toInt ∧ p0.toInt < n) ∧ (0 ≤ p1.toInt ∧ p1.toInt < n) ∧ (0 ≤ p2.toInt ∧ p2.toInt < n)) (hq0 : s3 o0 p0 p1 p2 = q0) (hq1 : s3 o1 p0 p1 p2 = q1) (hq2 : s3 o2 p0 p1 p2 = q2) (n12 : ¬ q1.toInt = q2.toInt) (n01 : ¬ q0.toInt = q1.toInt) (n02 : ¬ q0.toInt = q2.toInt) : PI (n + 3) [p0, p1, p2] ((((List.replicate (n + 3) (-1)).set q2.toInt.toNat o2).set q1.toInt.toNat o1).set q0.toInt.toNat o0) (((([0, 0, 0] : List Int32).set o2.toInt.toNat (-1)).set o1.toInt.toNat (-1)).set o0.toInt.toNat (-1)) ([-1, -1, -1] : List Int32) := by
 refine mk_PI hpm hb hq0 hq1 hq2 (by simp) (by simp) ?_
 unfold pm at hpm
 unfold s3 at hq0 hq1 hq2
 rcases hpm with ⟨rfl, rfl, rfl⟩ | ⟨rfl, rfl, rfl⟩ | ⟨rfl, rfl, rfl⟩ | ⟨rfl, rfl, rfl⟩ | ⟨rfl, rfl, rfl⟩ | ⟨rfl, rfl, rfl⟩ <;> ( simp at hq0 hq1 hq2; subst hq0 hq1 hq2; exact nv3 (by first | (simp; done) | (simp; omega) | omega) (by first | (simp; done) | (simp; omega) | omega) (by first | (simp; done) | (simp; omega) | omega))
theorem pi_B {n : Nat} {p0 p1 p2 o0 o1 o2 q0 q1 q2 : Int32} (hpm : pm o0 o1 o2) (hb : (0 ≤ p0.toInt ∧ p0.toInt < n) ∧ (0 ≤ p1.toInt ∧ p1.toInt < n) ∧ (0 ≤ p2.toInt ∧ p2.toInt < n)) (hq0 : s3 o0 p0 p1 p2 = q0) (hq1 : s3 o1 p0 p1 p2 = q1) (hq2 : s3 o2 p0 p1 p2 = q2) (e12 : q1.toInt = q2.toInt) (n01 : ¬ q0.toInt = q1.toInt) : PI (n + 3) [p0, p1, p2] ((((List.replicate (n + 3) (-1)).set q2.toInt.toNat o2).set q1.toInt.toNat o1).set q0.toInt.toNat o0) (((([0, 0, 0] : List Int32).set o2.toInt.toNat (-1)).set o1.toInt.toNat o2).set o0.toInt.toNat (-1)) (([-1, -1, -1] : List Int32).set o2.toInt.toNat o1) := by
 refine mk_PI hpm hb hq0 hq1 hq2 (by simp) (by simp) ?_
 unfold pm at hpm
 unfold s3 at hq0 hq1 hq2
 rcases hpm with ⟨rfl, rfl, rfl⟩ | ⟨rfl, rfl, rfl⟩ | ⟨rfl, rfl, rfl⟩ | ⟨rfl, rfl, rfl⟩ | ⟨rfl, rfl, rfl⟩ | ⟨rfl, rfl, rfl⟩ <;> ( simp at hq0 hq1 hq2; subst hq0 hq1 hq2; exact nv3 (by first | (simp; done) | (simp; omega) | omega) (by first | (simp; done) | (simp; omega) | omega) (by first | (simp; done) | (simp; omega) | omega))
theorem pi_C {n : Nat} {p0 p1 p2 o0 o1 o2 q0 q1 q2 : Int32} (hpm : pm o0 o1 o2) (hb : (0 ≤ p0.toInt ∧ p0.toInt < n) ∧ (0 ≤ p1.toInt ∧ p1.toInt < n) ∧ (0 ≤ p2.toInt ∧ p2.toInt < n)) (hq0 : s3 o0 p0 p1 p2 = q0) (hq1 : s3 o1 p0 p1 p2 = q1) (hq2 : s3 o2 p0 p1 p2 = q2) (e12 : q1.toInt = q2.toInt) (e01 : q0.toInt = q1.toInt) : PI (n + 3) [p0, p1, p2] ((((List.replicate (n + 3) (-1)).set q2.toInt.toNat o2).set q1.toInt.toNat o1).set q0.toInt.toNat o0) (((([0, 0, 0] : List Int32).set o2.toInt.toNat (-1)).set o1.toInt.toNat o2).set o0.toInt.toNat o1) ((([-1, -1, -1] : List Int32).set o2.toInt.toNat o1).set o1.toInt.toNat o0) := by
 refine mk_PI hpm hb hq0 hq1 hq2 (by simp) (by simp) ?_
 unfold pm at hpm
 unfold s3 at hq0 hq1 hq2
 rcases hpm with ⟨rfl, rfl, rfl⟩ | ⟨rfl, rfl, rfl⟩ | ⟨rfl, rfl, rfl⟩ | ⟨rfl, rfl, rfl⟩ | ⟨rfl, rfl, rfl⟩ | ⟨rfl, rfl, rfl⟩ <;> ( simp at hq0 hq1 hq2; subst hq0 hq1 hq2; exact nv3 (by first | (simp; done) | (simp; omega) | omega) (by first | (simp; done) | (simp; omega) | omega) (by first | (simp; done) | (simp; omega) | omega))
theorem pi_D {n : Nat} {p0 p1 p2 o0 o1 o2 q0 q1 q2 : Int32} (hpm : pm o0 o1 o2) (hb : (0 ≤ p0.toInt ∧ p0.toInt < n) ∧ (0 ≤ p1.toInt ∧ p1.toInt < n) ∧ (0 ≤ p2.toInt ∧ p2.toInt < n)) (hq0 : s3 o0 p0 p1 p2 = q0) (hq1 : s3 o1 p0 p1 p2 = q1) (hq2 : s3 o2 p0 p1 p2 = q2) (n12 : ¬ q1.toInt = q2.toInt) (e01 : q0.toInt = q1.toInt) : PI (n + 3) [p0, p1, p2] ((((List.replicate (n + 3) (-1)).set q2.toInt.toNat o2).set q1.toInt.toNat o1).set q0.toInt.toNat o0) (((([0, 0, 0] : List Int32).set o2.toInt.toNat (-1)).set o1.toInt.toNat (-1)).set o0.toInt.toNat o1) (([-1, -1, -1] : List Int32).set o1.toInt.toNat o0) := by
 refine mk_PI hpm hb hq0 hq1 hq2 (by simp) (by simp) ?_
 unfold pm at hpm
 unfold s3 at hq0 hq1 hq2
 rcases hpm with ⟨rfl, rfl, rfl⟩ | ⟨rfl, rfl, rfl⟩ | ⟨rfl, rfl, rfl⟩ | ⟨rfl, rfl, rfl⟩ | ⟨rfl, rfl, rfl⟩ | ⟨rfl, rfl, rfl⟩ <;> ( simp at hq0 hq1 hq2; subst hq0 hq1 hq2; exact nv3 (by first | (simp; done) | (simp; omega) | omega) (by first | (simp; done) | (simp; omega) | omega) (by first | (simp; done) | (simp; omega) | omega))
theorem pi_E {n : Nat} {p0 p1 p2 o0 o1 o2 q0 q1 q2 : Int32} (hpm : pm o0 o1 o2) (hb : (0 ≤ p0.toInt ∧ p0.toInt < n) ∧ (0 ≤ p1.toInt ∧ p1.toInt < n) ∧ (0 ≤ p2.toInt ∧ p2.toInt < n)) (hq0 : s3 o0 p0 p1 p2 = q0) (hq1 : s3 o1 p0 p1 p2 = q1) (hq2 : s3 o2 p0 p1 p2 = q2) (n12 : ¬ q1.toInt = q2.toInt) (n01 : ¬ q0.toInt = q1.toInt) (e02 : q0.toInt = q2.toInt) : PI (n + 3) [p0, p1, p2] ((((List.replicate (n + 3) (-1)).set q2.toInt.toNat o2).set q1.toInt.toNat o1).set q0.toInt.toNat o0) (((([0, 0, 0] : List Int32).set o2.toInt.toNat (-1)).set o1.toInt.toNat (-1)).set o0.toInt.toNat o2) (([-1, -1, -1] : List Int32).set o2.toInt.toNat o0) := by
 refine mk_PI hpm hb hq0 hq1 hq2 (by simp) (by simp) ?_
 unfold pm at hpm
 unfold s3 at hq0 hq1 hq2
 rcases hpm with ⟨rfl, rfl, rfl⟩ | ⟨rfl, rfl, rfl⟩ | ⟨rfl, rfl, rfl⟩ | ⟨rfl, rfl, rfl⟩ | ⟨rfl, rfl, rfl⟩ | ⟨rfl, rfl, rfl⟩ <;> ( simp at hq0 hq1 hq2; subst hq0 hq1 hq2; exact nv3 (by first | (simp; done) | (simp; omega) | omega) (by first | (simp; done) | (simp; omega) | omega) (by first | (simp; done) | (simp; omega) | omega))
theorem pi_c {n : Nat} {p0 p1 p2 o0 o1 o2 q0 q1 q2 : Int32} (hpm : pm o0 o1 o2) (t2 : q2.toInt = (n : Int) + o2.toInt) (t1 : q1.toInt = (n : Int) + o1.toInt) (t0 : q0.toInt = (n : Int) + o0.toInt) : PI (n + 3) ((([p0, p1, p2].set o2.toInt.toNat q2).set o1.toInt.toNat q1).set o0.toInt.toNat q0) ((((List.replicate (n + 3) (-1)).set q2.toInt.toNat o2).set q1.toInt.toNat o1).set q0.toInt.toNat o0) ((((([0, 0, 0] : List Int32).set o2.toInt.toNat (-1)).set o1.toInt.toNat (-1)).set o0.toInt.toNat (-1))) ([-1, -1, -1] : List Int32) ∧ ∀ j : Nat, j < 3 → (((([p0, p1, p2].set o2.toInt.toNat q2).set o1.toInt.toNat q1).set o0.toInt.toNat q0).getD j 0).toInt = n + j := by
 have hr := pmr hpm
 have hf := fl_ok (N := n + 3) (q0 := q0) (q1 := q1) (q2 := q2) (o0 := o0) (o1 := o1) (o2 := o2) (by omega) (by omega) (by omega) (by omega) (by omega) (by omega)
 obtain ⟨w0, w1, w2, ep, g0, g1, g2, hw⟩ : ∃ w0 w1 w2 : Int32, (([p0, p1, p2].set o2.toInt.toNat q2).set o1.toInt.toNat q1).set o0.toInt.toNat q0 = [w0, w1, w2] ∧ w0.toInt = n ∧ w1.toInt = n + 1 ∧ w2.toInt = n + 2 ∧ ∀ v : Int, (q0.toInt = v ∨ q1.toInt = v ∨ q2.toInt = v) ↔ (w0.toInt = v ∨ w1.toInt = v ∨ w2.toInt = v) := by
  unfold pm at hpm
  rcases hpm with ⟨rfl, rfl, rfl⟩ | ⟨rfl, rfl, rfl⟩ | ⟨rfl, rfl, rfl⟩ | ⟨rfl, rfl, rfl⟩ | ⟨rfl, rfl, rfl⟩ | ⟨rfl, rfl, rfl⟩
  ·have ev0 : (0 : Int32).toInt = 0 := rfl; have ev1 : (1 : Int32).toInt = 1 := rfl; have ev2 : (2 : Int32).toInt = 2 := rfl; exact ⟨q0, q1, q2, rfl, by omega, by omega, by omega, fun v => by omega⟩
  ·have ev0 : (0 : Int32).toInt = 0 := rfl; have ev1 : (1 : Int32).toInt = 1 := rfl; have ev2 : (2 : Int32).toInt = 2 := rfl; exact ⟨q0, q2, q1, rfl, by omega, by omega, by omega, fun v => by omega⟩
  ·have ev0 : (0 : Int32).toInt = 0 := rfl; have ev1 : (1 : Int32).toInt = 1 := rfl; have ev2 : (2 : Int32).toInt = 2 := rfl; exact ⟨q1, q0, q2, rfl, by omega, by omega, by omega, fun v => by omega⟩
  ·have ev0 : (0 : Int32).toInt = 0 := rfl; have ev1 : (1 : Int32).toInt = 1 := rfl; have ev2 : (2 : Int32).toInt = 2 := rfl; exact ⟨q2, q0, q1, rfl, by omega, by omega, by omega, fun v => by omega⟩
  ·have ev0 : (0 : Int32).toInt = 0 := rfl; have ev1 : (1 : Int32).toInt = 1 := rfl; have ev2 : (2 : Int32).toInt = 2 := rfl; exact ⟨q1, q2, q0, rfl, by omega, by omega, by omega, fun v => by omega⟩
  ·have ev0 : (0 : Int32).toInt = 0 := rfl; have ev1 : (1 : Int32).toInt = 1 := rfl; have ev2 : (2 : Int32).toInt = 2 := rfl; exact ⟨q2, q1, q0, rfl, by omega, by omega, by omega, fun v => by omega⟩
 have hj : ∀ j : Nat, j < 3 → ([w0, w1, w2].getD j 0).toInt = n + j := by
  intro j hj
  have hc : j = 0 ∨ j = 1 ∨ j = 2 := by omega
  rcases hc with rfl | rfl | rfl
  ·show w0.toInt = _; omega
  ·show w1.toInt = _; omega
  ·show w2.toInt = _; omega
 rw [ep]
 refine ⟨⟨rfl, by simp, by simp, rfl, ?_, ?_, ?_⟩, hj⟩
 ·intro j h3; rw [hj j h3]; omega
 ·intro q hq; rw [ex3, hf q hq, hw]
 ·have en : (((([0, 0, 0] : List Int32).set o2.toInt.toNat (-1)).set o1.toInt.toNat (-1)).set o0.toInt.toNat (-1)) = [-1, -1, -1] := by
   unfold pm at hpm
   rcases hpm with ⟨rfl, rfl, rfl⟩ | ⟨rfl, rfl, rfl⟩ | ⟨rfl, rfl, rfl⟩ | ⟨rfl, rfl, rfl⟩ | ⟨rfl, rfl, rfl⟩ | ⟨rfl, rfl, rfl⟩ <;> ( rfl)
  rw [en]
  exact nv3 (by first | (simp; done) | (simp; omega) | omega) (by first | (simp; done) | (simp; omega) | omega) (by first | (simp; done) | (simp; omega) | omega)
theorem mv_A {N : Nat} {pl fl nl vl : List Int32} {m to le nx pv : Int32} (hPI : PI N pl fl nl vl) (hto : 0 ≤ to.toInt ∧ to.toInt < N ∧ ∀ j : Nat, j < 3 → (pl.getD j 0).toInt ≠ to.toInt) (hm : 0 ≤ m.toInt ∧ m.toInt ≤ 2) (hpv : pv.toInt ≠ -1) (e_le : pl.getD m.toInt.toNat 0 = le) (e_nx : nl.getD m.toInt.toNat 0 = nx) (e_pv : vl.getD m.toInt.toNat 0 = pv) : MV N pl (fl.set to.toInt.toNat m) m to := by
 obtain ⟨hl1, hl2, hl3, hl4, h5, h6, h7⟩ := hPI
 have hto1 := hto.1
 have hto2 := hto.2.1
 refine ⟨by simp [hl2], fun q hq => ?_⟩
 rw [gset (by omega)]
 split
 ·constructor
  ·intro _; left; omega
  ·intro _; omega
 ·rw [h6 q hq]
  constructor
  ·rintro ⟨j, hj, e⟩
   right
   by_cases hjm : (j : Int) = m.toInt
   ·have em : m.toInt.toNat = j := by omega
    have q7 := (h7 m.toInt.toNat (by omega)).2.2.2
    rw [e_pv] at q7
    obtain ⟨j', a1, a2, a3⟩ := q7 hpv
    refine ⟨j', a1, by omega, ?_⟩
    rw [a3, em]; exact e
   ·exact ⟨j, hj, hjm, e⟩
  ·rintro (e | ⟨j, hj, -, e⟩)
   ·omega
   ·exact ⟨j, hj, e⟩
theorem mv_B {N : Nat} {pl fl nl vl : List Int32} {m to le nx pv : Int32} (hPI : PI N pl fl nl vl) (hto : 0 ≤ to.toInt ∧ to.toInt < N ∧ ∀ j : Nat, j < 3 → (pl.getD j 0).toInt ≠ to.toInt) (hm : 0 ≤ m.toInt ∧ m.toInt ≤ 2) (hpv : pv.toInt = -1) (e_le : pl.getD m.toInt.toNat 0 = le) (e_nx : nl.getD m.toInt.toNat 0 = nx) (e_pv : vl.getD m.toInt.toNat 0 = pv) : MV N pl ((fl.set le.toInt.toNat nx).set to.toInt.toNat m) m to := by
 obtain ⟨hl1, hl2, hl3, hl4, h5, h6, h7⟩ := hPI
 have hto1 := hto.1
 have hto2 := hto.2.1
 refine ⟨by simp [hl2], fun q hq => ?_⟩
 have hb := h5 m.toInt.toNat (by omega)
 rw [e_le] at hb
 have hmm : ((m.toInt.toNat : Nat) : Int) = m.toInt := by omega
 have hle : le.toInt.toNat < fl.length := by omega
 rw [gset (by simp [-Int32.toNat_toInt]; omega)]
 split
 ·constructor
  ·intro _; left; omega
  ·intro _; omega
 ·rw [gset hle]
  split
  ·rename_i hlq
   have q7 := (h7 m.toInt.toNat (by omega)).2.2.1
   rw [e_pv, e_nx, e_le] at q7
   rw [q7 hpv]
   clear q7 h5 h6 h7
   constructor
   ·rintro ⟨j, a1, a2, a3⟩
    exact Or.inr ⟨j, a1, fun z => a2 (by omega), by rw [a3]; omega⟩
   ·rintro (e | ⟨j, a1, a2, a3⟩)
    ·omega
    ·exact ⟨j, a1, fun z => a2 (by omega), by rw [a3]; omega⟩
  ·rw [h6 q hq]
   constructor
   ·rintro ⟨j, hj, e⟩
    right
    refine ⟨j, hj, ?_, e⟩
    intro hjm
    have em : m.toInt.toNat = j := by omega
    rw [em] at e_le
    rw [e_le] at e
    omega
   ·rintro (e | ⟨j, hj, -, e⟩)
    ·omega
    ·exact ⟨j, hj, e⟩
theorem fin_z {N : Nat} {fz : List Int32} {u0 u1 u2 p np : Int32} (hz : ∀ q : Nat, q < N → ((fz.getD q 0).toInt ≠ -1 ↔ (u0.toInt = q ∨ u1.toInt = q ∨ u2.toInt = q))) (hp : 0 ≤ p.toInt ∧ p.toInt < np.toInt) (hn : np.toInt = N) : ((fz.getD p.toInt.toNat 0).toInt ≠ -1) ↔ (u0.toInt = p.toInt ∨ u1.toInt = p.toInt ∨ u2.toInt = p.toInt) := by
 have e : ((p.toInt.toNat : Nat) : Int) = p.toInt := by omega
 have q := hz p.toInt.toNat (by omega)
 rw [e] at q
 exact q
theorem fin_g {N : Nat} {pl fl nl vl : List Int32} (h : PI N pl fl nl vl) {u0 u1 u2 : Int32} (h0 : u0.toInt = (pl.getD 0 0).toInt) (h1 : u1.toInt = (pl.getD 1 0).toInt) (h2 : u2.toInt = (pl.getD 2 0).toInt) : fl.length = N ∧ ∀ q : Nat, q < N → ((fl.getD q 0).toInt ≠ -1 ↔ (u0.toInt = q ∨ u1.toInt = q ∨ u2.toInt = q)) := by
 refine ⟨h.2.1, fun q hq => ?_⟩
 rw [h.2.2.2.2.2.1 q hq]
 constructor
 ·rintro ⟨j, hj, e⟩
  have hc : j = 0 ∨ j = 1 ∨ j = 2 := by omega
  rcases hc with rfl | rfl | rfl <;> omega
 ·rintro (e | e | e)
  ·exact ⟨0, by omega, by omega⟩
  ·exact ⟨1, by omega, by omega⟩
  ·exact ⟨2, by omega, by omega⟩
theorem fin_m0 {N : Nat} {pl fl : List Int32} {m to : Int32} (h : MV N pl fl m to) (hm : m.toInt = 0) {u1 u2 : Int32} (h1 : u1.toInt = (pl.getD 1 0).toInt) (h2 : u2.toInt = (pl.getD 2 0).toInt) : fl.length = N ∧ ∀ q : Nat, q < N → ((fl.getD q 0).toInt ≠ -1 ↔ (to.toInt = q ∨ u1.toInt = q ∨ u2.toInt = q)) := by
 refine ⟨h.1, fun q hq => ?_⟩
 rw [h.2 q hq]
 constructor
 ·rintro (e | ⟨j, hj, hm', e⟩)
  ·omega
  ·have hc : j = 0 ∨ j = 1 ∨ j = 2 := by omega
   rcases hc with rfl | rfl | rfl <;> omega
 ·rintro (e | e | e)
  ·exact Or.inl e.symm
  ·exact Or.inr ⟨1, by omega, by omega, by omega⟩
  ·exact Or.inr ⟨2, by omega, by omega, by omega⟩
theorem fin_m1 {N : Nat} {pl fl : List Int32} {m to : Int32} (h : MV N pl fl m to) (hm : m.toInt = 1) {u0 u2 : Int32} (h0 : u0.toInt = (pl.getD 0 0).toInt) (h2 : u2.toInt = (pl.getD 2 0).toInt) : fl.length = N ∧ ∀ q : Nat, q < N → ((fl.getD q 0).toInt ≠ -1 ↔ (u0.toInt = q ∨ to.toInt = q ∨ u2.toInt = q)) := by
 refine ⟨h.1, fun q hq => ?_⟩
 rw [h.2 q hq]
 constructor
 ·rintro (e | ⟨j, hj, hm', e⟩)
  ·omega
  ·have hc : j = 0 ∨ j = 1 ∨ j = 2 := by omega
   rcases hc with rfl | rfl | rfl <;> omega
 ·rintro (e | e | e)
  ·exact Or.inr ⟨0, by omega, by omega, by omega⟩
  ·exact Or.inl e.symm
  ·exact Or.inr ⟨2, by omega, by omega, by omega⟩
theorem fin_m2 {N : Nat} {pl fl : List Int32} {m to : Int32} (h : MV N pl fl m to) (hm : m.toInt = 2) {u0 u1 : Int32} (h0 : u0.toInt = (pl.getD 0 0).toInt) (h1 : u1.toInt = (pl.getD 1 0).toInt) : fl.length = N ∧ ∀ q : Nat, q < N → ((fl.getD q 0).toInt ≠ -1 ↔ (u0.toInt = q ∨ u1.toInt = q ∨ to.toInt = q)) := by
 refine ⟨h.1, fun q hq => ?_⟩
 rw [h.2 q hq]
 constructor
 ·rintro (e | ⟨j, hj, hm', e⟩)
  ·omega
  ·have hc : j = 0 ∨ j = 1 ∨ j = 2 := by omega
   rcases hc with rfl | rfl | rfl <;> omega
 ·rintro (e | e | e)
  ·exact Or.inr ⟨0, by omega, by omega, by omega⟩
  ·exact Or.inr ⟨1, by omega, by omega, by omega⟩
  ·exact Or.inl e.symm
theorem to_c {ds : List Int64} {pl : List Int32} (hds : (ds.map Int64.toInt).Pairwise (· < ·) ∧ 1 ≤ ds.length ∧ ds.length ≤ 4) (hp : ∀ j : Nat, j < 3 → (pl.getD j 0).toInt = ds.length + j) : 0 ≤ (0 : Int32).toInt ∧ (0 : Int32).toInt < ((ds.length + 3 : Nat) : Int) ∧ ∀ j : Nat, j < 3 → (pl.getD j 0).toInt ≠ (0 : Int32).toInt := by
 have e : (0 : Int32).toInt = 0 := rfl
 rw [e]
 refine ⟨by omega, by omega, fun j hj => ?_⟩
 rw [hp j hj]; omega
theorem to_w {ds : List Int64} {pl : List Int32} {p0 p1 p2 nm m to : Int32} (hnm : nm.toInt = (ds.length : Int)) (ht : to.toInt = nm.toInt + m.toInt) (hm : 0 ≤ m.toInt ∧ m.toInt ≤ 2) (hpl : pl = [p0, p1, p2]) (h0 : p0.toInt < ds.length) (h1 : p1.toInt < ds.length) (h2 : p2.toInt < ds.length) : 0 ≤ to.toInt ∧ to.toInt < ((ds.length + 3 : Nat) : Int) ∧ ∀ j : Nat, j < 3 → (pl.getD j 0).toInt ≠ to.toInt := by
 refine ⟨by omega, by omega, fun j hj => ?_⟩
 subst hpl
 have hc : j = 0 ∨ j = 1 ∨ j = 2 := by omega
 rcases hc with rfl | rfl | rfl
 ·show p0.toInt ≠ _; omega
 ·show p1.toInt ≠ _; omega
 ·show p2.toInt ≠ _; omega
theorem ad_start {args : Array Value} {s : State} (hrest : rest_1_c.before args s = true) : Sta s s.heap sB "$assertionsDisabled" "Z" (.int 1) := by
 obtain ⟨r1, q1⟩ := and_e (Cond.before_iff.mp hrest)
 obtain ⟨r2, q2⟩ := and_e q1
 obtain ⟨r3, -⟩ := and_e q2
 exact Sta.start (eqv_i (y := 1) (Term.int_eval _) r3) (Or.inl (Cond.before_iff.mpr r2))
theorem d21_0 : decode B21 0 = .ok (.aload_n 0, 1) := by decide +kernel
theorem d21_1 : decode B21 1 = .ok (.getfield 58, 3) := by decide +kernel
theorem d21_4 : decode B21 4 = .ok (.arraylength, 1) := by decide +kernel
theorem d21_5 : decode B21 5 = .ok (.ireturn, 1) := by decide +kernel
theorem c_srv (l : Launch) (Z : State) (a0 : Array Value) (hw : HW a0 Z) (n0 : Nat) (h : Heap) (i : Addr) (w : Addr) (P1 : Exa Z h i sI) (P2 : Fld Z h i sI "weights" "[J" (.ref w)) (P3 : Ary Z h w .long [(.long 1), (.long 2), (.long 3)]) : MeetsW l Z n0 (⟨sI, "servers", "()I"⟩ : MethodName) B21 1 (some .int) ({ frames := 0, cells := 0, slots := 0, locals := 0 } : Room) #[(.ref i)] h (fun v h' => v = some (.int 3) ∧ h = h') := by
 refine MeetsW.intro (plainFor_of_name pn_com_example_odograph_odograph_model_Instance) (L0 := #[vr i]) (fun m => rfl) ?_
 intro m G K0
 have K : Cx l ({ frames := 0, cells := 0, slots := 0, locals := 0 } : Room) Z n0 _ sI "servers" B21 1 (some .int) m G := K0
 have hw59 := tb hw (i:=59) rfl
 refine K.aloadN d21_0 (w':=1) rfl rfl rfl ?_
 refine K.getL d21_1 (w':=4) rfl hw59 P2 ?_
 refine K.alen d21_4 (w':=5) rfl P3 (fun n1 e_n1 => ?_)
 have t_n1 : n1.toInt = 3 := e_n1
 have cs_n1 : n1 = 3 := by
  have q : n1.toInt = 3 := by omega
  rcases q with q
  ·exact eqI q
 rcases cs_n1 with rfl
 ·exact K.reti d21_5 (by decide) (by decide) ⟨rfl, rfl⟩
theorem d29_0 : decode B29 0 = .ok (.aload_n 0, 1) := by decide +kernel
theorem d29_1 : decode B29 1 = .ok (.getfield 61, 3) := by decide +kernel
theorem d29_4 : decode B29 4 = .ok (.ifnonnull 7, 3) := by decide +kernel
theorem d29_7 : decode B29 7 = .ok (.iconst 1, 1) := by decide +kernel
theorem d29_8 : decode B29 8 = .ok (.goto 4, 3) := by decide +kernel
theorem d29_12 : decode B29 12 = .ok (.ireturn, 1) := by decide +kernel
theorem c_csc (l : Launch) (Z : State) (a0 : Array Value) (hw : HW a0 Z) (n0 : Nat) (h : Heap) (i : Addr) (P1 : Exa Z h i sI) (P2 : Fld Z h i sI "start" "[J" .null) : MeetsW l Z n0 (⟨sI, "coldStart", "()Z"⟩ : MethodName) B29 1 (some .boolean) ({ frames := 0, cells := 0, slots := 0, locals := 0 } : Room) #[(.ref i)] h (fun v h' => v = some (.int (b2 (True))) ∧ h = h') := by
 refine MeetsW.intro (plainFor_of_name pn_com_example_odograph_odograph_model_Instance) (L0 := #[vr i]) (fun m => rfl) ?_
 intro m G K0
 have K : Cx l ({ frames := 0, cells := 0, slots := 0, locals := 0 } : Room) Z n0 _ sI "coldStart" B29 1 (some .boolean) m G := K0
 have hw61 := tb hw (i:=61) rfl
 refine K.aloadN d29_0 (w':=1) rfl rfl rfl ?_
 refine K.getL d29_1 (w':=4) rfl hw61 P2 ?_
 refine K.ifnonnull0 d29_4 (w':=7) rfl ?_
 refine K.iconst d29_7 (w':=8) rfl (z := 1) rfl ?_
 refine K.goto d29_8 (by decide) (w':=12) (by decide) ?_
 exact K.retz d29_12 (Or.inr rfl) (by decide) (by decide) ⟨by rw [b2_t (by trivial)], rfl⟩
theorem d29_11 : decode B29 11 = .ok (.iconst 0, 1) := by decide +kernel
theorem c_csw (l : Launch) (Z : State) (a0 : Array Value) (hw : HW a0 Z) (n0 : Nat) (h : Heap) (i : Addr) (s : Addr) (P1 : Exa Z h i sI) (P2 : Fld Z h i sI "start" "[J" (.ref s)) : MeetsW l Z n0 (⟨sI, "coldStart", "()Z"⟩ : MethodName) B29 1 (some .boolean) ({ frames := 0, cells := 0, slots := 0, locals := 0 } : Room) #[(.ref i)] h (fun v h' => v = some (.int (b2 (False))) ∧ h = h') := by
 refine MeetsW.intro (plainFor_of_name pn_com_example_odograph_odograph_model_Instance) (L0 := #[vr i]) (fun m => rfl) ?_
 intro m G K0
 have K : Cx l ({ frames := 0, cells := 0, slots := 0, locals := 0 } : Room) Z n0 _ sI "coldStart" B29 1 (some .boolean) m G := K0
 have hw61 := tb hw (i:=61) rfl
 refine K.aloadN d29_0 (w':=1) rfl rfl rfl ?_
 refine K.getL d29_1 (w':=4) rfl hw61 P2 ?_
 refine K.ifnonnull1 d29_4 (by decide) (pc2 := 11) (by decide) ?_
 refine K.iconst d29_11 (w':=12) rfl (z := 0) rfl ?_
 exact K.retz d29_12 (Or.inl rfl) (by decide) (by decide) ⟨by rw [b2_f (by simp)], rfl⟩
theorem d20_0 : decode B20 0 = .ok (.aload_n 0, 1) := by decide +kernel
theorem d20_1 : decode B20 1 = .ok (.invokespecial 1, 3) := by decide +kernel
theorem d20_4 : decode B20 4 = .ok (.aload_n 1, 1) := by decide +kernel
theorem d20_5 : decode B20 5 = .ok (.invokevirtual 7, 3) := by decide +kernel
theorem pd_18 : parseMethodDescriptor "()I" = some ⟨[], some .int⟩ := by decide +kernel
theorem d20_8 : decode B20 8 = .ok (.istore 4, 2) := by decide +kernel
theorem d20_10 : decode B20 10 = .ok (.aload_n 0, 1) := by decide +kernel
theorem d20_11 : decode B20 11 = .ok (.aload_n 1, 1) := by decide +kernel
theorem d20_12 : decode B20 12 = .ok (.aload_n 2, 1) := by decide +kernel
theorem d20_13 : decode B20 13 = .ok (.invokevirtual 13, 3) := by decide +kernel
theorem pd_19 : parseMethodDescriptor "([J)[I" = some ⟨[(.array .long)], some (.array .int)⟩ := by decide +kernel
theorem d20_16 : decode B20 16 = .ok (.putfield 17, 3) := by decide +kernel
theorem d20_19 : decode B20 19 = .ok (.aload_n 0, 1) := by decide +kernel
theorem d20_20 : decode B20 20 = .ok (.aload_n 2, 1) := by decide +kernel
theorem d20_21 : decode B20 21 = .ok (.arraylength, 1) := by decide +kernel
theorem d20_22 : decode B20 22 = .ok (.iload 4, 2) := by decide +kernel
theorem d20_24 : decode B20 24 = .ok (.iadd, 1) := by decide +kernel
theorem d20_25 : decode B20 25 = .ok (.newarray .int, 2) := by decide +kernel
theorem d20_27 : decode B20 27 = .ok (.putfield 23, 3) := by decide +kernel
theorem d20_30 : decode B20 30 = .ok (.aload_n 0, 1) := by decide +kernel
theorem d20_31 : decode B20 31 = .ok (.iload 4, 2) := by decide +kernel
theorem d20_33 : decode B20 33 = .ok (.newarray .int, 2) := by decide +kernel
theorem d20_35 : decode B20 35 = .ok (.putfield 26, 3) := by decide +kernel
theorem d20_38 : decode B20 38 = .ok (.aload_n 0, 1) := by decide +kernel
theorem d20_39 : decode B20 39 = .ok (.iload 4, 2) := by decide +kernel
theorem d20_41 : decode B20 41 = .ok (.newarray .int, 2) := by decide +kernel
theorem d20_43 : decode B20 43 = .ok (.putfield 29, 3) := by decide +kernel
theorem d20_46 : decode B20 46 = .ok (.aload_n 0, 1) := by decide +kernel
theorem d20_47 : decode B20 47 = .ok (.new 32, 3) := by decide +kernel
theorem d20_50 : decode B20 50 = .ok (.dup, 1) := by decide +kernel
theorem d20_51 : decode B20 51 = .ok (.iload 4, 2) := by decide +kernel
theorem d20_53 : decode B20 53 = .ok (.invokespecial 34, 3) := by decide +kernel
theorem d20_56 : decode B20 56 = .ok (.putfield 37, 3) := by decide +kernel
theorem d20_59 : decode B20 59 = .ok (.aload_n 0, 1) := by decide +kernel
theorem d20_60 : decode B20 60 = .ok (.getfield 23, 3) := by decide +kernel
theorem d20_63 : decode B20 63 = .ok (.iconst (-1), 1) := by decide +kernel
theorem d20_64 : decode B20 64 = .ok (.invokestatic 41, 3) := by decide +kernel
theorem pd_20 : parseMethodDescriptor "([II)V" = some ⟨[(.array .int), .int], none⟩ := by decide +kernel
theorem d20_67 : decode B20 67 = .ok (.aload_n 0, 1) := by decide +kernel
theorem d20_68 : decode B20 68 = .ok (.getfield 29, 3) := by decide +kernel
theorem d20_71 : decode B20 71 = .ok (.iconst (-1), 1) := by decide +kernel
theorem d20_72 : decode B20 72 = .ok (.invokestatic 41, 3) := by decide +kernel
theorem d20_75 : decode B20 75 = .ok (.iload 4, 2) := by decide +kernel
theorem d20_77 : decode B20 77 = .ok (.iconst 1, 1) := by decide +kernel
theorem d20_78 : decode B20 78 = .ok (.isub, 1) := by decide +kernel
theorem d20_79 : decode B20 79 = .ok (.istore 5, 2) := by decide +kernel
theorem d20_81 : decode B20 81 = .ok (.iload 5, 2) := by decide +kernel
theorem d20_83 : decode B20 83 = .ok (.ifCond .lt 105, 3) := by decide +kernel
theorem d20_86 : decode B20 86 = .ok (.aload_n 3, 1) := by decide +kernel
theorem d20_87 : decode B20 87 = .ok (.iload 5, 2) := by decide +kernel
theorem d20_89 : decode B20 89 = .ok (.iaload, 1) := by decide +kernel
theorem d20_90 : decode B20 90 = .ok (.istore 6, 2) := by decide +kernel
theorem d20_92 : decode B20 92 = .ok (.aload_n 1, 1) := by decide +kernel
theorem d20_93 : decode B20 93 = .ok (.invokevirtual 47, 3) := by decide +kernel
theorem pd_21 : parseMethodDescriptor "()Z" = some ⟨[], some .boolean⟩ := by decide +kernel
theorem d20_96 : decode B20 96 = .ok (.ifCond .eq 15, 3) := by decide +kernel
theorem d20_99 : decode B20 99 = .ok (.aload_n 0, 1) := by decide +kernel
theorem d20_100 : decode B20 100 = .ok (.getfield 17, 3) := by decide +kernel
theorem d20_103 : decode B20 103 = .ok (.iload 6, 2) := by decide +kernel
theorem d20_105 : decode B20 105 = .ok (.aload_n 2, 1) := by decide +kernel
theorem d20_106 : decode B20 106 = .ok (.arraylength, 1) := by decide +kernel
theorem d20_107 : decode B20 107 = .ok (.iload 6, 2) := by decide +kernel
theorem d20_109 : decode B20 109 = .ok (.iadd, 1) := by decide +kernel
theorem d20_110 : decode B20 110 = .ok (.iastore, 1) := by decide +kernel
theorem d20_111 : decode B20 111 = .ok (.aload_n 0, 1) := by decide +kernel
theorem d20_112 : decode B20 112 = .ok (.getfield 17, 3) := by decide +kernel
theorem d20_115 : decode B20 115 = .ok (.iload 6, 2) := by decide +kernel
theorem d20_117 : decode B20 117 = .ok (.iaload, 1) := by decide +kernel
theorem d20_118 : decode B20 118 = .ok (.istore 7, 2) := by decide +kernel
theorem d20_120 : decode B20 120 = .ok (.aload_n 0, 1) := by decide +kernel
theorem d20_121 : decode B20 121 = .ok (.getfield 26, 3) := by decide +kernel
theorem d20_124 : decode B20 124 = .ok (.iload 6, 2) := by decide +kernel
theorem d20_126 : decode B20 126 = .ok (.aload_n 0, 1) := by decide +kernel
theorem d20_127 : decode B20 127 = .ok (.getfield 23, 3) := by decide +kernel
theorem d20_130 : decode B20 130 = .ok (.iload 7, 2) := by decide +kernel
theorem d20_132 : decode B20 132 = .ok (.iaload, 1) := by decide +kernel
theorem d20_133 : decode B20 133 = .ok (.iastore, 1) := by decide +kernel
theorem d20_134 : decode B20 134 = .ok (.aload_n 0, 1) := by decide +kernel
theorem d20_135 : decode B20 135 = .ok (.getfield 23, 3) := by decide +kernel
theorem d20_138 : decode B20 138 = .ok (.iload 7, 2) := by decide +kernel
theorem d20_140 : decode B20 140 = .ok (.iaload, 1) := by decide +kernel
theorem d20_141 : decode B20 141 = .ok (.iconst (-1), 1) := by decide +kernel
theorem d20_142 : decode B20 142 = .ok (.if_icmp .eq 31, 3) := by decide +kernel
theorem d20_173 : decode B20 173 = .ok (.aload_n 0, 1) := by decide +kernel
theorem d20_174 : decode B20 174 = .ok (.getfield 23, 3) := by decide +kernel
theorem d20_177 : decode B20 177 = .ok (.iload 7, 2) := by decide +kernel
theorem d20_179 : decode B20 179 = .ok (.iload 6, 2) := by decide +kernel
theorem d20_181 : decode B20 181 = .ok (.iastore, 1) := by decide +kernel
theorem d20_182 : decode B20 182 = .ok (.iinc 5 (-1), 3) := by decide +kernel
theorem d20_185 : decode B20 185 = .ok (.goto (-104), 3) := by decide +kernel
theorem d20_188 : decode B20 188 = .ok (.return_, 1) := by decide +kernel
theorem pn_com_example_odograph_odograph_online_Placement : plainName sP = true := by first | (simp [plainName, overriddenIn]; done) | decide +kernel
theorem c_plc (l : Launch) (Z : State) (a0 : Array Value) (hw : HW a0 Z) (n0 : Nat) (h : Heap) (a : Addr) (i : Addr) (b : Addr) (o : Addr) (w : Addr) (o0 : Int32) (o1 : Int32) (o2 : Int32) (ds : List Int64) (Z0 : n0 ≤ h.size) (P2 : Old Z n0 h) (P3 : Sta Z Z.heap sB "$assertionsDisabled" "Z" (.int 1)) (P4 : Exa Z h a sP) (P5 : n0 ≤ a) (P6 : Fld Z h a sP "position" "[I" .null) (P7 : Fld Z h a sP "first" "[I" .null) (P8 : Fld Z h a sP "next" "[I" .null) (P9 : Fld Z h a sP "previous" "[I" .null) (P10 : Fld Z h a sP "stacked" "Ljava/util/BitSet;" .null) (P11 : Exa Z h i sI) (P12 : i ≠ a) (P13 : Fld Z h i sI "weights" "[J" (.ref w)) (P14 : Ary Z h w .long [(.long 1), (.long 2), (.long 3)]) (P15 : w ≠ a) (P16 : Ary Z h b .long (ds.map Value.long)) (hds : (ds.map Int64.toInt).Pairwise (· < ·) ∧ 1 ≤ ds.length ∧ ds.length ≤ 4) (P18 : b ≠ a) (P19 : Ary Z h o .int [(.int o0), (.int o1), (.int o2)]) (P20 : o ≠ a) (hpm : pm o0 o1 o2) (P22 : Fld Z h i sI "start" "[J" .null) : MeetsW l Z n0 (⟨sP, "<init>", "(Lcom/example/odograph/odograph/model/Instance;[J[I)V"⟩ : MethodName) B20 8 none ({ frames := 3, cells := 6, slots := 20, locals := 41 } : Room) #[(.ref a), (.ref i), (.ref b), (.ref o)] h (fun v h' => ∃ (pa : Addr) (fa : Addr) (na : Addr) (va : Addr) (ba : Addr) (wa : Addr) (pl : List Int32) (fl : List Int32) (nl : List Int32) (vl : List Int32) (u : Int32) (x : Int64), v = none ∧ Keep h h' [a] ∧ Fld Z h' a sP "position" "[I" (.ref pa) ∧ Fld Z h' a sP "first" "[I" (.ref fa) ∧ Fld Z h' a sP "next" "[I" (.ref na) ∧ Fld Z h' a sP "previous" "[I" (.ref va) ∧ Fld Z h' a sP "stacked" "Ljava/util/BitSet;" (.ref ba) ∧ Ary Z h' pa .int (pl.map Value.int) ∧ Ary Z h' fa .int (fl.map Value.int) ∧ Ary Z h' na .int (nl.map Value.int) ∧ Ary Z h' va .int (vl.map Value.int) ∧ Exa Z h' ba sB ∧ Fld Z h' ba sB "words" "[J" (.ref wa) ∧ Fld Z h' ba sB "wordsInUse" "I" (.int u) ∧ Ary Z h' wa .long [(.long x)] ∧ h.size ≤ pa ∧ h.size ≤ fa ∧ h.size ≤ na ∧ h.size ≤ va ∧ h.size ≤ ba ∧ h.size ≤ wa ∧ n0 ≤ pa ∧ n0 ≤ fa ∧ n0 ≤ na ∧ n0 ≤ va ∧ n0 ≤ ba ∧ n0 ≤ wa ∧ pa ≠ fa ∧ pa ≠ na ∧ pa ≠ va ∧ pa ≠ ba ∧ pa ≠ wa ∧ fa ≠ na ∧ fa ≠ va ∧ fa ≠ ba ∧ fa ≠ wa ∧ na ≠ va ∧ na ≠ ba ∧ na ≠ wa ∧ va ≠ ba ∧ va ≠ wa ∧ ba ≠ wa ∧ (0 ≤ u.toInt ∧ u.toInt ≤ 1) ∧ (PI (ds.length + 3) pl fl nl vl ∧ (∀ j : Nat, j < 3 → (pl.getD j 0).toInt = ds.length + j))) := by
 refine MeetsW.intro (plainFor_of_name pn_com_example_odograph_odograph_online_Placement) (L0 := #[vr a, vr i, vr b, vr o, un, un, un, un]) (fun m => rfl) ?_
 intro m G K0
 have K : Cx l ({ frames := 3, cells := 6, slots := 20, locals := 41 } : Room) Z n0 _ sP "<init>" B20 8 none m G := K0
 have hw5 := tb hw (i:=5) rfl
 have hw11 := tb hw (i:=11) rfl
 have hw45 := tb hw (i:=45) rfl
 have hw46 := tb hw (i:=46) rfl
 have hw88 := tb hw (i:=88) rfl
 have hw118 := tb hw (i:=118) rfl
 have hw123 := tb hw (i:=123) rfl
 have hw124 := tb hw (i:=124) rfl
 have hw125 := tb hw (i:=125) rfl
 have hw126 := tb hw (i:=126) rfl
 have hw127 := tb hw (i:=127) rfl
 have hw128 := tb hw (i:=128) rfl
 have hw129 := tb hw (i:=129) rfl
 have hw130 := tb hw (i:=130) rfl
 have hw131 := tb hw (i:=131) rfl
 have hw132 := tb hw (i:=132) rfl
 have hw133 := tb hw (i:=133) rfl
 have hw140 := tb hw (i:=140) rfl
 have hw141 := tb hw (i:=141) rfl
 have hw142 := tb hw (i:=142) rfl
 have hw143 := tb hw (i:=143) rfl
 have hw144 := tb hw (i:=144) rfl
 have hw145 := tb hw (i:=145) rfl
 have hw146 := tb hw (i:=146) rfl
 have hw147 := tb hw (i:=147) rfl
 have hw148 := tb hw (i:=148) rfl
 have hw149 := tb hw (i:=149) rfl
 have hw150 := tb hw (i:=150) rfl
 have hw151 := tb hw (i:=151) rfl
 have hw152 := tb hw (i:=152) rfl
 have hw153 := tb hw (i:=153) rfl
 have hw156 := tb hw (i:=156) rfl
 have hw158 := tb hw (i:=158) rfl
 have hw168 := tb hw (i:=168) rfl
 have hw169 := tb hw (i:=169) rfl
 have hw170 := tb hw (i:=170) rfl
 have hw171 := tb hw (i:=171) rfl
 have hw172 := tb hw (i:=172) rfl
 have hw173 := tb hw (i:=173) rfl
 have hw174 := tb hw (i:=174) rfl
 have hw175 := tb hw (i:=175) rfl
 have hw176 := tb hw (i:=176) rfl
 have hw177 := tb hw (i:=177) rfl
 have hw178 := tb hw (i:=178) rfl
 refine K.aloadN d20_0 (w':=1) rfl rfl rfl ?_
 refine K.init0 d20_1 (w':=4) rfl hw123 hw45 hw46 rfl (by decide) (W := 0) (Nat.le_refl _) (by decide) ?_
 refine K.aloadN d20_4 (w':=5) rfl rfl rfl ?_
 refine K.callv (z := (⟨sI, "servers", "()I"⟩ : MethodName)) (argsL := []) (rest := []) d20_5 (w':=8) rfl (c_srv l Z a0 hw n0 h (i := i) (w := w) P11 P13 P14) P11 hw124 hw125 (nf_sel hw127 rfl) hw127 hw126 hw11 hw128 (by decide) pd_18 rfl rfl (W := 0) (Nat.le_refl _) (by decide) (by decide) (by decide) (by decide) (fun v_3 h_1 q_2 => ?_)
 obtain ⟨rfl, rfl⟩ := q_2
 show G h 0 0 (mkF m 8 #[vr a, vr i, vr b, vr o, un, un, un, un] [(.int 3)])
 refine K.istore d20_8 (w':=10) rfl (L' := #[vr a, vr i, vr b, vr o, vi 3, un, un, un]) rfl ?_
 refine K.aloadN d20_10 (w':=11) rfl rfl rfl ?_
 refine K.aloadN d20_11 (w':=12) rfl rfl rfl ?_
 refine K.aloadN d20_12 (w':=13) rfl rfl rfl ?_
 refine K.callv (z := (⟨sI, "startPositions", "([J)[I"⟩ : MethodName)) (argsL := [(.ref b)]) (rest := [(.ref a)]) d20_13 (w':=16) rfl (c_spc l Z a0 hw n0 h (a := i) (b := b) (w := w) (ds := ds) Z0 P11 P13 P14 P16 hds P22) P11 hw129 hw130 (nf_sel hw132 rfl) hw132 hw131 hw11 hw133 (by decide) pd_19 rfl rfl (W := 1) (Nat.le_refl _) (by decide) (by decide) (by decide) (by decide) (fun v_7 h_5 q_6 => ?_)
 obtain ⟨pa, p0, p1, p2, rfl, K_8, f_9, f_10, f_11⟩ := q_6
 have sb_pa : h.size ≤ pa := Nat.le_trans (Nat.le_refl _) f_9
 show G h_5 1 3 (mkF m 16 #[vr a, vr i, vr b, vr o, vi 3, un, un, un] [(.ref pa), (.ref a)])
 have f_12 := (P6.keep K_8 nin0)
 have f_13 := (P4.keep K_8)
 refine K.putf d20_16 (w':=19) rfl (host := "") (Or.inl hw140) Via.refl f_12 f_13 (Or.inr ⟨hw141, rfl, rfl⟩) hw118 (ty := (.array .int)) (by decide) rfl rfl P5 (fun h_14 W_15 => ?_)
 have f_16 := (P7.keep K_8 nin0)
 have f_17 := (P8.keep K_8 nin0)
 have f_18 := (P9.keep K_8 nin0)
 have f_19 := (P10.keep K_8 nin0)
 have f_20 := f_12.same W_15
 have f_21 := f_16.other W_15 (Or.inr (slot_ne (Or.inr hw143) (Or.inr hw141) (by decide) (t := (.array .int)) (t' := (.array .int)) (by decide) (by decide)))
 have f_22 := f_17.other W_15 (Or.inr (slot_ne (Or.inr hw145) (Or.inr hw141) (by decide) (t := (.array .int)) (t' := (.array .int)) (by decide) (by decide)))
 have f_23 := f_18.other W_15 (Or.inr (slot_ne (Or.inr hw147) (Or.inr hw141) (by decide) (t := (.array .int)) (t' := (.array .int)) (by decide) (by decide)))
 have f_24 := f_19.other W_15 (Or.inr (slot_ne (Or.inr hw170) (Or.inr hw141) (by decide) (t := (.object sB)) (t' := (.array .int)) (by decide) (by decide)))
 have ne_25 := (Ne.symm (Nat.ne_of_lt (Nat.lt_of_lt_of_le P4.lt (Nat.le_trans (Nat.le_refl _) f_9))))
 have f_26 := (f_11.other W_15 ne_25)
 have A_27 : Ary Z h_14 pa .int ([p0, p1, p2].map Value.int) := f_26
 refine K.aloadN d20_19 (w':=20) rfl rfl rfl ?_
 refine K.aloadN d20_20 (w':=21) rfl rfl rfl ?_
 have f_28 := ((P16.keep K_8 nin0).other W_15 P18)
 refine K.alen d20_21 (w':=22) rfl f_28 (fun z21 e_z21 => ?_)
 have t_z21 : z21.toInt = (ds.length : Nat) := by simpa using e_z21
 refine K.iload d20_22 (w':=24) rfl rfl ?_
 obtain ⟨nf, e_nf⟩ : ∃ z, z21 + (3 : Int32) = z := ⟨_, rfl⟩
 have r_nf : (nf.toInt - (z21.toInt + 3)) % 4294967296 = 0 := by have q := c_iadd z21 (3 : Int32); rw [e_nf] at q; exact q
 have g_nf := rng32 nf
 have t_nf : nf.toInt = (ds.length : Int) + 3 := by omega
 clear r_nf
 clear g_nf
 refine K.iadd d20_24 (w':=25) rfl e_nf ?_
 refine K.newa d20_25 (w':=27) rfl hw5 (k := (ds.length + 3)) (cap := 7) (by omega) (by omega) (by decide) (by decide) (by decide) (ad := "[I") (by decide) (fun h_29 fa g_fa E_30 A_31 x_fa => ?_)
 have sz_32 := Nat.le_trans Z0 (Nat.le_trans K_8.1 (Keep.of_wr W_15).1)
 have ge_fa : n0 ≤ fa := g_fa ▸ sz_32
 have hz_33 : h.size ≤ h_14.size := (Nat.le_trans K_8.1 (Keep.of_wr W_15).1)
 have sb_fa : h.size ≤ fa := g_fa ▸ hz_33
 have A_34 : Ary Z h_29 fa .int (List.replicate (ds.length + 3) (.int 0)) := A_31
 have f_35 := (f_21.ext E_30)
 have f_36 := ((f_13.wr W_15).ext E_30)
 refine K.putf d20_27 (w':=30) rfl (host := "") (Or.inl hw142) Via.refl f_35 f_36 (Or.inr ⟨hw143, rfl, rfl⟩) hw118 (ty := (.array .int)) (by decide) rfl rfl P5 (fun h_37 W_38 => ?_)
 have f_39 := (f_20.ext E_30)
 have f_40 := (f_22.ext E_30)
 have f_41 := (f_23.ext E_30)
 have f_42 := (f_24.ext E_30)
 have f_43 := f_39.other W_38 (Or.inr (slot_ne (Or.inr hw141) (Or.inr hw143) (by decide) (t := (.array .int)) (t' := (.array .int)) (by decide) (by decide)))
 have f_44 := f_35.same W_38
 have f_45 := f_40.other W_38 (Or.inr (slot_ne (Or.inr hw145) (Or.inr hw143) (by decide) (t := (.array .int)) (t' := (.array .int)) (by decide) (by decide)))
 have f_46 := f_41.other W_38 (Or.inr (slot_ne (Or.inr hw147) (Or.inr hw143) (by decide) (t := (.array .int)) (t' := (.array .int)) (by decide) (by decide)))
 have f_47 := f_42.other W_38 (Or.inr (slot_ne (Or.inr hw170) (Or.inr hw143) (by decide) (t := (.object sB)) (t' := (.array .int)) (by decide) (by decide)))
 refine K.aloadN d20_30 (w':=31) rfl rfl rfl ?_
 refine K.iload d20_31 (w':=33) rfl rfl ?_
 refine K.newa d20_33 (w':=35) rfl hw5 (k := 3) (cap := 3) rfl (by decide) (by decide) (by decide) (by decide) (ad := "[I") (by decide) (fun h_48 na g_na E_49 A_50 x_na => ?_)
 have sz_51 := Nat.le_trans sz_32 (Nat.le_trans E_30.1 (Keep.of_wr W_38).1)
 have ge_na : n0 ≤ na := g_na ▸ sz_51
 have hz_52 : h.size ≤ h_37.size := Nat.le_trans hz_33 (Nat.le_trans E_30.1 (Keep.of_wr W_38).1)
 have sb_na : h.size ≤ na := g_na ▸ hz_52
 have A_53 : Ary Z h_48 na .int [(.int 0), (.int 0), (.int 0)] := A_50
 have f_54 := (f_45.ext E_49)
 have f_55 := ((f_36.wr W_38).ext E_49)
 refine K.putf d20_35 (w':=38) rfl (host := "") (Or.inl hw144) Via.refl f_54 f_55 (Or.inr ⟨hw145, rfl, rfl⟩) hw118 (ty := (.array .int)) (by decide) rfl rfl P5 (fun h_56 W_57 => ?_)
 have f_58 := (f_43.ext E_49)
 have f_59 := (f_44.ext E_49)
 have f_60 := (f_46.ext E_49)
 have f_61 := (f_47.ext E_49)
 have f_62 := f_58.other W_57 (Or.inr (slot_ne (Or.inr hw141) (Or.inr hw145) (by decide) (t := (.array .int)) (t' := (.array .int)) (by decide) (by decide)))
 have f_63 := f_59.other W_57 (Or.inr (slot_ne (Or.inr hw143) (Or.inr hw145) (by decide) (t := (.array .int)) (t' := (.array .int)) (by decide) (by decide)))
 have f_64 := f_54.same W_57
 have f_65 := f_60.other W_57 (Or.inr (slot_ne (Or.inr hw147) (Or.inr hw145) (by decide) (t := (.array .int)) (t' := (.array .int)) (by decide) (by decide)))
 have f_66 := f_61.other W_57 (Or.inr (slot_ne (Or.inr hw170) (Or.inr hw145) (by decide) (t := (.object sB)) (t' := (.array .int)) (by decide) (by decide)))
 refine K.aloadN d20_38 (w':=39) rfl rfl rfl ?_
 refine K.iload d20_39 (w':=41) rfl rfl ?_
 refine K.newa d20_41 (w':=43) rfl hw5 (k := 3) (cap := 3) rfl (by decide) (by decide) (by decide) (by decide) (ad := "[I") (by decide) (fun h_67 va g_va E_68 A_69 x_va => ?_)
 have sz_70 := Nat.le_trans sz_51 (Nat.le_trans E_49.1 (Keep.of_wr W_57).1)
 have ge_va : n0 ≤ va := g_va ▸ sz_70
 have hz_71 : h.size ≤ h_56.size := Nat.le_trans hz_52 (Nat.le_trans E_49.1 (Keep.of_wr W_57).1)
 have sb_va : h.size ≤ va := g_va ▸ hz_71
 have A_72 : Ary Z h_67 va .int [(.int 0), (.int 0), (.int 0)] := A_69
 have f_73 := (f_65.ext E_68)
 have f_74 := ((f_55.wr W_57).ext E_68)
 refine K.putf d20_43 (w':=46) rfl (host := "") (Or.inl hw146) Via.refl f_73 f_74 (Or.inr ⟨hw147, rfl, rfl⟩) hw118 (ty := (.array .int)) (by decide) rfl rfl P5 (fun h_75 W_76 => ?_)
 have f_77 := (f_62.ext E_68)
 have f_78 := (f_63.ext E_68)
 have f_79 := (f_64.ext E_68)
 have f_80 := (f_66.ext E_68)
 have f_81 := f_77.other W_76 (Or.inr (slot_ne (Or.inr hw141) (Or.inr hw147) (by decide) (t := (.array .int)) (t' := (.array .int)) (by decide) (by decide)))
 have f_82 := f_78.other W_76 (Or.inr (slot_ne (Or.inr hw143) (Or.inr hw147) (by decide) (t := (.array .int)) (t' := (.array .int)) (by decide) (by decide)))
 have f_83 := f_79.other W_76 (Or.inr (slot_ne (Or.inr hw145) (Or.inr hw147) (by decide) (t := (.array .int)) (t' := (.array .int)) (by decide) (by decide)))
 have f_84 := f_73.same W_76
 have f_85 := f_80.other W_76 (Or.inr (slot_ne (Or.inr hw170) (Or.inr hw147) (by decide) (t := (.object sB)) (t' := (.array .int)) (by decide) (by decide)))
 refine K.aloadN d20_46 (w':=47) rfl rfl rfl ?_
 refine K.newo d20_47 (w':=50) rfl hw148 hw149 hw150 (by decide) (by decide) (fun h_86 ba g_ba E_87 x_ba D_ba => ?_)
 have sz_88 := Nat.le_trans sz_70 (Nat.le_trans E_68.1 (Keep.of_wr W_76).1)
 have ge_ba : n0 ≤ ba := g_ba ▸ sz_88
 have hz_89 : h.size ≤ h_75.size := Nat.le_trans hz_71 (Nat.le_trans E_68.1 (Keep.of_wr W_76).1)
 have sb_ba : h.size ≤ ba := g_ba ▸ hz_89
 have f_90 : Fld Z h_86 ba sB "wordsInUse" "I" (.int 0) := D_ba (Or.inl hw156) (ty := .int) (by decide)
 have f_91 : Fld Z h_86 ba sB "sizeIsSticky" "Z" (.int 0) := D_ba (Or.inl hw158) (ty := .boolean) (by decide)
 have f_92 : Fld Z h_86 ba sB "words" "[J" .null := D_ba (Or.inl hw168) (ty := (.array .long)) (by decide)
 refine K.dup d20_50 (w':=51) rfl rfl ?_
 refine K.iload d20_51 (w':=53) rfl rfl ?_
 have sz_93 := Nat.le_trans sz_88 E_87.1
 refine K.callc (argsL := [(.int 3)]) (rest := [(.ref ba), (.ref a)]) d20_53 (w':=56) rfl rfl (c_bi l Z a0 hw n0 h_86 (b := ba) sz_93 x_ba ge_ba f_92 f_90 f_91) hw151 hw152 hw150 hw153 (by decide) pd_16 rfl rfl (W := 2) (Nat.le_refl _) (by decide) (by decide) (by decide) (by decide) (fun v_96 h_94 q_95 => ?_)
 obtain ⟨wa, rfl, K_98, f_99, f_100, f_101, f_102, f_103⟩ := q_95
 have hz_104 : h.size ≤ h_86.size := Nat.le_trans hz_89 E_87.1
 have sb_wa : h.size ≤ wa := Nat.le_trans hz_104 f_99
 show G h_94 6 20 (mkF m 56 #[vr a, vr i, vr b, vr o, vi 3, un, un, un] [(.ref ba), (.ref a)])
 have ne_105 := (Nat.ne_of_lt (Nat.lt_of_lt_of_le P4.lt (Nat.le_trans (Nat.le_trans K_8.1 (Nat.le_trans (Keep.of_wr W_15).1 (Nat.le_trans E_30.1 (Nat.le_trans (Keep.of_wr W_38).1 (Nat.le_trans E_49.1 (Nat.le_trans (Keep.of_wr W_57).1 (Nat.le_trans E_68.1 (Keep.of_wr W_76).1))))))) (Nat.le_of_eq g_ba.symm))))
 have f_106 := ((f_85.ext E_87).keep K_98 (ninS ne_105 nin0))
 have f_107 := (((f_74.wr W_76).ext E_87).keep K_98)
 refine K.putf d20_56 (w':=59) rfl (host := "") (Or.inl hw169) Via.refl f_106 f_107 (Or.inr ⟨hw170, rfl, rfl⟩) hw118 (ty := (.object sB)) (by decide) rfl rfl P5 (fun h_108 W_109 => ?_)
 have f_110 := ((f_81.ext E_87).keep K_98 (ninS ne_105 nin0))
 have f_111 := ((f_82.ext E_87).keep K_98 (ninS ne_105 nin0))
 have f_112 := ((f_83.ext E_87).keep K_98 (ninS ne_105 nin0))
 have f_113 := ((f_84.ext E_87).keep K_98 (ninS ne_105 nin0))
 have f_114 := f_110.other W_109 (Or.inr (slot_ne (Or.inr hw141) (Or.inr hw170) (by decide) (t := (.array .int)) (t' := (.object sB)) (by decide) (by decide)))
 have f_115 := f_111.other W_109 (Or.inr (slot_ne (Or.inr hw143) (Or.inr hw170) (by decide) (t := (.array .int)) (t' := (.object sB)) (by decide) (by decide)))
 have f_116 := f_112.other W_109 (Or.inr (slot_ne (Or.inr hw145) (Or.inr hw170) (by decide) (t := (.array .int)) (t' := (.object sB)) (by decide) (by decide)))
 have f_117 := f_113.other W_109 (Or.inr (slot_ne (Or.inr hw147) (Or.inr hw170) (by decide) (t := (.array .int)) (t' := (.object sB)) (by decide) (by decide)))
 have f_118 := f_106.same W_109
 refine K.aloadN d20_59 (w':=60) rfl rfl rfl ?_
 refine K.getL d20_60 (w':=63) rfl hw142 f_115 ?_
 refine K.iconst d20_63 (w':=64) rfl (z := -1) rfl ?_
 have ne_119 := (Ne.symm (Nat.ne_of_lt (Nat.lt_of_lt_of_le P4.lt (Nat.le_trans (Nat.le_trans K_8.1 (Keep.of_wr W_15).1) (Nat.le_of_eq g_fa.symm)))))
 have ne_120 := (Nat.ne_of_lt (Nat.lt_of_lt_of_le x_fa.lt (Nat.le_trans (Nat.le_trans (Keep.of_wr W_38).1 (Nat.le_trans E_49.1 (Nat.le_trans (Keep.of_wr W_57).1 (Nat.le_trans E_68.1 (Keep.of_wr W_76).1)))) (Nat.le_of_eq g_ba.symm))))
 have f_121 := ((((((((A_34.other W_38 ne_119).ext E_49).other W_57 ne_119).ext E_68).other W_76 ne_119).ext E_87).keep K_98 (ninS ne_120 nin0)).other W_109 ne_119)
 refine K.calls (argsL := [(.ref fa), (.int (-1))]) (rest := []) d20_64 (w':=67) rfl (c_fil l Z a0 hw n0 h_108 (a := fa) (us := List.replicate (ds.length + 3) (.int 0)) f_121 ge_fa (by simp [-Int32.toNat_toInt]; omega)) hw171 hw172 hw88 hw173 (by decide) pd_20 rfl rfl (W := 0) (Nat.le_refl _) (by decide) (by decide) (by decide) (by decide) (fun v_124 h_122 q_123 => ?_)
 obtain ⟨rfl, K_126, f_127⟩ := q_123
 show G h_122 6 20 (mkF m 67 #[vr a, vr i, vr b, vr o, vi 3, un, un, un] [])
 have A_128 : Ary Z h_122 fa .int ((List.replicate (ds.length + 3) (-1)).map Value.int) := (by have q := f_127; simpa using q)
 refine K.aloadN d20_67 (w':=68) rfl rfl rfl ?_
 have f_129 := (f_117.keep K_126 (ninS (Ne.symm ne_119) nin0))
 refine K.getL d20_68 (w':=71) rfl hw146 f_129 ?_
 refine K.iconst d20_71 (w':=72) rfl (z := -1) rfl ?_
 have ne_130 := (Ne.symm (Nat.ne_of_lt (Nat.lt_of_lt_of_le P4.lt (Nat.le_trans (Nat.le_trans K_8.1 (Nat.le_trans (Keep.of_wr W_15).1 (Nat.le_trans E_30.1 (Nat.le_trans (Keep.of_wr W_38).1 (Nat.le_trans E_49.1 (Keep.of_wr W_57).1))))) (Nat.le_of_eq g_va.symm)))))
 have ne_131 := (Nat.ne_of_lt (Nat.lt_of_lt_of_le x_va.lt (Nat.le_trans (Keep.of_wr W_76).1 (Nat.le_of_eq g_ba.symm))))
 have ne_132 := (Ne.symm (Nat.ne_of_lt (Nat.lt_of_lt_of_le x_fa.lt (Nat.le_trans (Nat.le_trans (Keep.of_wr W_38).1 (Nat.le_trans E_49.1 (Keep.of_wr W_57).1)) (Nat.le_of_eq g_va.symm)))))
 have f_133 := (((((A_72.other W_76 ne_130).ext E_87).keep K_98 (ninS ne_131 nin0)).other W_109 ne_130).keep K_126 (ninS ne_132 nin0))
 refine K.calls (argsL := [(.ref va), (.int (-1))]) (rest := []) d20_72 (w':=75) rfl (c_fil l Z a0 hw n0 h_122 (a := va) (us := [(.int 0), (.int 0), (.int 0)]) f_133 ge_va (by simp)) hw171 hw172 hw88 hw173 (by decide) pd_20 rfl rfl (W := 0) (Nat.le_refl _) (by decide) (by decide) (by decide) (by decide) (fun v_136 h_134 q_135 => ?_)
 obtain ⟨rfl, K_138, f_139⟩ := q_135
 show G h_134 6 20 (mkF m 75 #[vr a, vr i, vr b, vr o, vi 3, un, un, un] [])
 have A_140 : Ary Z h_134 va .int (([-1, -1, -1] : List Int32).map Value.int) := f_139
 have ne_141 := (Ne.symm (Nat.ne_of_lt (Nat.lt_of_lt_of_le P4.lt (Nat.le_trans (Nat.le_trans K_8.1 (Nat.le_trans (Keep.of_wr W_15).1 (Nat.le_trans E_30.1 (Keep.of_wr W_38).1))) (Nat.le_of_eq g_na.symm)))))
 have ne_142 := (Nat.ne_of_lt (Nat.lt_of_lt_of_le x_na.lt (Nat.le_trans (Nat.le_trans (Keep.of_wr W_57).1 (Nat.le_trans E_68.1 (Keep.of_wr W_76).1)) (Nat.le_of_eq g_ba.symm))))
 have ne_143 := (Ne.symm (Nat.ne_of_lt (Nat.lt_of_lt_of_le x_fa.lt (Nat.le_trans (Keep.of_wr W_38).1 (Nat.le_of_eq g_na.symm)))))
 have ne_144 := (Nat.ne_of_lt (Nat.lt_of_lt_of_le x_na.lt (Nat.le_trans (Keep.of_wr W_57).1 (Nat.le_of_eq g_va.symm))))
 have f_145 := ((((((((A_53.other W_57 ne_141).ext E_68).other W_76 ne_141).ext E_87).keep K_98 (ninS ne_142 nin0)).other W_109 ne_141).keep K_126 (ninS ne_143 nin0)).keep K_138 (ninS ne_144 nin0))
 have A_146 : Ary Z h_134 na .int (([0, 0, 0] : List Int32).map Value.int) := f_145
 have hob := pmr hpm
 refine K.iload d20_75 (w':=77) rfl rfl ?_
 refine K.iconst d20_77 (w':=78) rfl (z := 1) rfl ?_
 refine K.isub d20_78 (w':=79) rfl (z := (2 : Int32)) (by decide) ?_
 refine K.istore d20_79 (w':=81) rfl (L' := #[vr a, vr i, vr b, vr o, vi 3, vi 2, un, un]) rfl ?_
 refine K.iload d20_81 (w':=83) rfl rfl ?_
 refine K.if_lt d20_83 (pc1 := 86) rfl (by decide) (pc2 := 188) (by decide) (a := 2) rfl (fun c83 => ?_) (fun c83 => ?_)
 ·exfalso; omega
 ·refine K.aloadN d20_86 (w':=87) rfl rfl rfl ?_
  refine K.iload d20_87 (w':=89) rfl rfl ?_
  have ne_147 := (Nat.ne_of_lt (Nat.lt_of_lt_of_le P19.lt (Nat.le_trans (Nat.le_trans K_8.1 (Nat.le_trans (Keep.of_wr W_15).1 (Nat.le_trans E_30.1 (Nat.le_trans (Keep.of_wr W_38).1 (Nat.le_trans E_49.1 (Nat.le_trans (Keep.of_wr W_57).1 (Nat.le_trans E_68.1 (Keep.of_wr W_76).1))))))) (Nat.le_of_eq g_ba.symm))))
  have ne_148 := (Nat.ne_of_lt (Nat.lt_of_lt_of_le P19.lt (Nat.le_trans (Nat.le_trans K_8.1 (Keep.of_wr W_15).1) (Nat.le_of_eq g_fa.symm))))
  have ne_149 := (Nat.ne_of_lt (Nat.lt_of_lt_of_le P19.lt (Nat.le_trans (Nat.le_trans K_8.1 (Nat.le_trans (Keep.of_wr W_15).1 (Nat.le_trans E_30.1 (Nat.le_trans (Keep.of_wr W_38).1 (Nat.le_trans E_49.1 (Keep.of_wr W_57).1))))) (Nat.le_of_eq g_va.symm))))
  have f_150 := (((((((((((((P19.keep K_8 nin0).other W_15 P20).ext E_30).other W_38 P20).ext E_49).other W_57 P20).ext E_68).other W_76 P20).ext E_87).keep K_98 (ninS ne_147 nin0)).other W_109 P20).keep K_126 (ninS ne_148 nin0)).keep K_138 (ninS ne_149 nin0))
  refine K.iald d20_89 (w':=90) rfl f_150 (i := 2) rfl rfl ?_
  refine K.istore d20_90 (w':=92) rfl (L' := #[vr a, vr i, vr b, vr o, vi 3, vi 2, vi o2, un]) rfl ?_
  refine K.aloadN d20_92 (w':=93) rfl rfl rfl ?_
  have f_151 := (((((((((((((P11.keep K_8).wr W_15).ext E_30).wr W_38).ext E_49).wr W_57).ext E_68).wr W_76).ext E_87).keep K_98).wr W_109).keep K_126).keep K_138)
  have ne_152 := (Nat.ne_of_lt (Nat.lt_of_lt_of_le P11.lt (Nat.le_trans (Nat.le_trans K_8.1 (Nat.le_trans (Keep.of_wr W_15).1 (Nat.le_trans E_30.1 (Nat.le_trans (Keep.of_wr W_38).1 (Nat.le_trans E_49.1 (Nat.le_trans (Keep.of_wr W_57).1 (Nat.le_trans E_68.1 (Keep.of_wr W_76).1))))))) (Nat.le_of_eq g_ba.symm))))
  have ne_153 := (Nat.ne_of_lt (Nat.lt_of_lt_of_le P11.lt (Nat.le_trans (Nat.le_trans K_8.1 (Keep.of_wr W_15).1) (Nat.le_of_eq g_fa.symm))))
  have ne_154 := (Nat.ne_of_lt (Nat.lt_of_lt_of_le P11.lt (Nat.le_trans (Nat.le_trans K_8.1 (Nat.le_trans (Keep.of_wr W_15).1 (Nat.le_trans E_30.1 (Nat.le_trans (Keep.of_wr W_38).1 (Nat.le_trans E_49.1 (Keep.of_wr W_57).1))))) (Nat.le_of_eq g_va.symm))))
  have f_155 := (((((((((((((P22.keep K_8 nin0).other W_15 (Or.inl P12)).ext E_30).other W_38 (Or.inl P12)).ext E_49).other W_57 (Or.inl P12)).ext E_68).other W_76 (Or.inl P12)).ext E_87).keep K_98 (ninS ne_152 nin0)).other W_109 (Or.inl P12)).keep K_126 (ninS ne_153 nin0)).keep K_138 (ninS ne_154 nin0))
  refine K.callv (z := (⟨sI, "coldStart", "()Z"⟩ : MethodName)) (argsL := []) (rest := []) d20_93 (w':=96) rfl (c_csc l Z a0 hw n0 h_134 (i := i) f_151 f_155) f_151 hw174 hw175 (nf_sel hw177 rfl) hw177 hw176 hw11 hw178 (by decide) pd_21 rfl rfl (W := 0) (Nat.le_refl _) (by decide) (by decide) (by decide) (by decide) (fun v_158 h_156 q_157 => ?_)
  obtain ⟨rfl, rfl⟩ := q_157
  show G h_134 6 20 (mkF m 96 #[vr a, vr i, vr b, vr o, vi 3, vi 2, vi o2, un] [(.int (b2 (True)))])
  refine K.ifeqB d20_96 (pc1 := 99) rfl (by decide) (pc2 := 111) (by decide) (fun c96 => ?_) (fun c96 => ?_)
  ·exfalso; exact c96 trivial
  ·refine K.aloadN d20_99 (w':=100) rfl rfl rfl ?_
   have f_160 := ((f_114.keep K_126 (ninS (Ne.symm ne_119) nin0)).keep K_138 (ninS (Ne.symm ne_130) nin0))
   refine K.getL d20_100 (w':=103) rfl hw140 f_160 ?_
   refine K.iload d20_103 (w':=105) rfl rfl ?_
   refine K.aloadN d20_105 (w':=106) rfl rfl rfl ?_
   have ne_161 := (Nat.ne_of_lt (Nat.lt_of_lt_of_le P16.lt (Nat.le_trans (Nat.le_trans K_8.1 (Nat.le_trans (Keep.of_wr W_15).1 (Nat.le_trans E_30.1 (Nat.le_trans (Keep.of_wr W_38).1 (Nat.le_trans E_49.1 (Nat.le_trans (Keep.of_wr W_57).1 (Nat.le_trans E_68.1 (Keep.of_wr W_76).1))))))) (Nat.le_of_eq g_ba.symm))))
   have ne_162 := (Nat.ne_of_lt (Nat.lt_of_lt_of_le P16.lt (Nat.le_trans (Nat.le_trans K_8.1 (Keep.of_wr W_15).1) (Nat.le_of_eq g_fa.symm))))
   have ne_163 := (Nat.ne_of_lt (Nat.lt_of_lt_of_le P16.lt (Nat.le_trans (Nat.le_trans K_8.1 (Nat.le_trans (Keep.of_wr W_15).1 (Nat.le_trans E_30.1 (Nat.le_trans (Keep.of_wr W_38).1 (Nat.le_trans E_49.1 (Keep.of_wr W_57).1))))) (Nat.le_of_eq g_va.symm))))
   have f_164 := (((((((((((f_28.ext E_30).other W_38 P18).ext E_49).other W_57 P18).ext E_68).other W_76 P18).ext E_87).keep K_98 (ninS ne_161 nin0)).other W_109 P18).keep K_126 (ninS ne_162 nin0)).keep K_138 (ninS ne_163 nin0))
   refine K.alen d20_106 (w':=107) rfl f_164 (fun z106 e_z106 => ?_)
   have t_z106 : z106.toInt = (ds.length : Nat) := by simpa using e_z106
   refine K.iload d20_107 (w':=109) rfl rfl ?_
   obtain ⟨q2, e_q2⟩ : ∃ z, z106 + o2 = z := ⟨_, rfl⟩
   have r_q2 : (q2.toInt - (z106.toInt + o2.toInt)) % 4294967296 = 0 := by have q := c_iadd z106 o2; rw [e_q2] at q; exact q
   have g_q2 := rng32 q2
   have t_q2 : q2.toInt = (ds.length : Int) + o2.toInt := by omega
   clear r_q2
   clear g_q2
   refine K.iadd d20_109 (w':=110) rfl e_q2 ?_
   have ne_165 := (Nat.ne_of_lt (Nat.lt_of_lt_of_le f_11.lt (Nat.le_trans (Nat.le_trans (Keep.of_wr W_15).1 (Nat.le_trans E_30.1 (Nat.le_trans (Keep.of_wr W_38).1 (Nat.le_trans E_49.1 (Nat.le_trans (Keep.of_wr W_57).1 (Nat.le_trans E_68.1 (Keep.of_wr W_76).1)))))) (Nat.le_of_eq g_ba.symm))))
   have ne_166 := (Nat.ne_of_lt (Nat.lt_of_lt_of_le f_11.lt (Nat.le_trans (Keep.of_wr W_15).1 (Nat.le_of_eq g_fa.symm))))
   have ne_167 := (Nat.ne_of_lt (Nat.lt_of_lt_of_le f_11.lt (Nat.le_trans (Nat.le_trans (Keep.of_wr W_15).1 (Nat.le_trans E_30.1 (Nat.le_trans (Keep.of_wr W_38).1 (Nat.le_trans E_49.1 (Keep.of_wr W_57).1)))) (Nat.le_of_eq g_va.symm))))
   have f_168 := (((((((((((A_27.ext E_30).other W_38 ne_25).ext E_49).other W_57 ne_25).ext E_68).other W_76 ne_25).ext E_87).keep K_98 (ninS ne_165 nin0)).other W_109 ne_25).keep K_126 (ninS ne_166 nin0)).keep K_138 (ninS ne_167 nin0))
   refine K.iast d20_110 (w':=111) rfl f_168 (i := o2.toInt.toNat) (by omega) (by simp [-Int32.toNat_toInt]; omega) f_10 (fun h_169 W_170 A_171 => ?_)
   have A_172 : Ary Z h_169 pa .int (([p0, p1, p2].set o2.toInt.toNat q2).map Value.int) := (by have q := A_171; rw [← List.map_set] at q; exact q)
   refine K.aloadN d20_111 (w':=112) rfl rfl rfl ?_
   have f_173 := (f_160.other W_170 (Or.inl (Ne.symm ne_25)))
   refine K.getL d20_112 (w':=115) rfl hw140 f_173 ?_
   refine K.iload d20_115 (w':=117) rfl rfl ?_
   refine K.iald d20_117 (w':=118) rfl A_172 (i := o2.toInt.toNat) (by omega) (v := (.int q2)) (mget (set_eq (by simp [-Int32.toNat_toInt]; omega))) ?_
   refine K.istore d20_118 (w':=120) rfl (L' := #[vr a, vr i, vr b, vr o, vi 3, vi 2, vi o2, vi q2]) rfl ?_
   refine K.aloadN d20_120 (w':=121) rfl rfl rfl ?_
   have f_174 := (((f_116.keep K_126 (ninS (Ne.symm ne_119) nin0)).keep K_138 (ninS (Ne.symm ne_130) nin0)).other W_170 (Or.inl (Ne.symm ne_25)))
   refine K.getL d20_121 (w':=124) rfl hw144 f_174 ?_
   refine K.iload d20_124 (w':=126) rfl rfl ?_
   refine K.aloadN d20_126 (w':=127) rfl rfl rfl ?_
   have f_175 := (((f_115.keep K_126 (ninS (Ne.symm ne_119) nin0)).keep K_138 (ninS (Ne.symm ne_130) nin0)).other W_170 (Or.inl (Ne.symm ne_25)))
   refine K.getL d20_127 (w':=130) rfl hw142 f_175 ?_
   refine K.iload d20_130 (w':=132) rfl rfl ?_
   have f_176 := ((A_128.keep K_138 (ninS (Ne.symm ne_132) nin0)).other W_170 (Ne.symm ne_166))
   refine K.iald d20_132 (w':=133) rfl f_176 (i := q2.toInt.toNat) (by omega) (v := (.int (-1))) (mget (rep_get (by omega))) ?_
   have ne_177 := (Ne.symm (Nat.ne_of_lt (Nat.lt_of_lt_of_le f_11.lt (Nat.le_trans (Nat.le_trans (Keep.of_wr W_15).1 (Nat.le_trans E_30.1 (Keep.of_wr W_38).1)) (Nat.le_of_eq g_na.symm)))))
   have f_178 := (A_146.other W_170 ne_177)
   refine K.iast d20_133 (w':=134) rfl f_178 (i := o2.toInt.toNat) (by omega) (by simp [-Int32.toNat_toInt]; omega) ge_na (fun h_179 W_180 A_181 => ?_)
   have A_182 : Ary Z h_179 na .int ((([0, 0, 0] : List Int32).set o2.toInt.toNat (-1)).map Value.int) := (by have q := A_181; rw [← List.map_set] at q; exact q)
   refine K.aloadN d20_134 (w':=135) rfl rfl rfl ?_
   have f_183 := (f_175.other W_180 (Or.inl (Ne.symm ne_141)))
   refine K.getL d20_135 (w':=138) rfl hw142 f_183 ?_
   refine K.iload d20_138 (w':=140) rfl rfl ?_
   have f_184 := (f_176.other W_180 (Ne.symm ne_143))
   refine K.iald d20_140 (w':=141) rfl f_184 (i := q2.toInt.toNat) (by omega) (v := (.int (-1))) (mget (rep_get (by omega))) ?_
   refine K.iconst d20_141 (w':=142) rfl (z := -1) rfl ?_
   refine K.icmp_eq d20_142 (pc1 := 145) rfl (by decide) (pc2 := 173) (by decide) (a := (-1)) (b := (-1)) rfl rfl (fun c142 => ?_) (fun c142 => ?_)
   ·refine K.aloadN d20_173 (w':=174) rfl rfl rfl ?_
    refine K.getL d20_174 (w':=177) rfl hw142 f_183 ?_
    refine K.iload d20_177 (w':=179) rfl rfl ?_
    refine K.iload d20_179 (w':=181) rfl rfl ?_
    refine K.iast d20_181 (w':=182) rfl f_184 (i := q2.toInt.toNat) (by omega) (by simp [-Int32.toNat_toInt]; omega) ge_fa (fun h_185 W_186 A_187 => ?_)
    have A_188 : Ary Z h_185 fa .int (((List.replicate (ds.length + 3) (-1)).set q2.toInt.toNat o2).map Value.int) := (by have q := A_187; rw [← List.map_set] at q; exact q)
    refine K.iinc d20_182 (w':=185) rfl rfl (z := (1 : Int32)) rfl (L' := #[vr a, vr i, vr b, vr o, vi 3, vi 1, vi o2, vi q2]) rfl ?_
    refine K.goto d20_185 (by decide) (w':=81) (by decide) ?_
    refine K.iload d20_81 (w':=83) rfl rfl ?_
    refine K.if_lt d20_83 (pc1 := 86) rfl (by decide) (pc2 := 188) (by decide) (a := 1) rfl (fun c83_1 => ?_) (fun c83_1 => ?_)
    ·exfalso; omega
    ·refine K.aloadN d20_86 (w':=87) rfl rfl rfl ?_
     refine K.iload d20_87 (w':=89) rfl rfl ?_
     have ne_189 := (Nat.ne_of_lt (Nat.lt_of_lt_of_le P19.lt (Nat.le_trans (Nat.le_refl _) f_9)))
     have ne_190 := (Nat.ne_of_lt (Nat.lt_of_lt_of_le P19.lt (Nat.le_trans (Nat.le_trans K_8.1 (Nat.le_trans (Keep.of_wr W_15).1 (Nat.le_trans E_30.1 (Keep.of_wr W_38).1))) (Nat.le_of_eq g_na.symm))))
     have f_191 := (((f_150.other W_170 ne_189).other W_180 ne_190).other W_186 ne_148)
     refine K.iald d20_89 (w':=90) rfl f_191 (i := 1) rfl rfl ?_
     refine K.istore d20_90 (w':=92) rfl (L' := #[vr a, vr i, vr b, vr o, vi 3, vi 1, vi o1, vi q2]) rfl ?_
     refine K.aloadN d20_92 (w':=93) rfl rfl rfl ?_
     have f_192 := (((f_151.wr W_170).wr W_180).wr W_186)
     have ne_193 := (Nat.ne_of_lt (Nat.lt_of_lt_of_le P11.lt (Nat.le_trans (Nat.le_refl _) f_9)))
     have ne_194 := (Nat.ne_of_lt (Nat.lt_of_lt_of_le P11.lt (Nat.le_trans (Nat.le_trans K_8.1 (Nat.le_trans (Keep.of_wr W_15).1 (Nat.le_trans E_30.1 (Keep.of_wr W_38).1))) (Nat.le_of_eq g_na.symm))))
     have f_195 := (((f_155.other W_170 (Or.inl ne_193)).other W_180 (Or.inl ne_194)).other W_186 (Or.inl ne_153))
     refine K.callv (z := (⟨sI, "coldStart", "()Z"⟩ : MethodName)) (argsL := []) (rest := []) d20_93 (w':=96) rfl (c_csc l Z a0 hw n0 h_185 (i := i) f_192 f_195) f_192 hw174 hw175 (nf_sel hw177 rfl) hw177 hw176 hw11 hw178 (by decide) pd_21 rfl rfl (W := 0) (Nat.le_refl _) (by decide) (by decide) (by decide) (by decide) (fun v_198 h_196 q_197 => ?_)
     obtain ⟨rfl, rfl⟩ := q_197
     show G h_185 6 20 (mkF m 96 #[vr a, vr i, vr b, vr o, vi 3, vi 1, vi o1, vi q2] [(.int (b2 (True)))])
     refine K.ifeqB d20_96 (pc1 := 99) rfl (by decide) (pc2 := 111) (by decide) (fun c96_1 => ?_) (fun c96_1 => ?_)
     ·exfalso; exact c96_1 trivial
     ·refine K.aloadN d20_99 (w':=100) rfl rfl rfl ?_
      have f_200 := ((f_173.other W_180 (Or.inl (Ne.symm ne_141))).other W_186 (Or.inl (Ne.symm ne_119)))
      refine K.getL d20_100 (w':=103) rfl hw140 f_200 ?_
      refine K.iload d20_103 (w':=105) rfl rfl ?_
      refine K.aloadN d20_105 (w':=106) rfl rfl rfl ?_
      have ne_201 := (Nat.ne_of_lt (Nat.lt_of_lt_of_le P16.lt (Nat.le_trans (Nat.le_refl _) f_9)))
      have ne_202 := (Nat.ne_of_lt (Nat.lt_of_lt_of_le P16.lt (Nat.le_trans (Nat.le_trans K_8.1 (Nat.le_trans (Keep.of_wr W_15).1 (Nat.le_trans E_30.1 (Keep.of_wr W_38).1))) (Nat.le_of_eq g_na.symm))))
      have f_203 := (((f_164.other W_170 ne_201).other W_180 ne_202).other W_186 ne_162)
      refine K.alen d20_106 (w':=107) rfl f_203 (fun z106_1 e_z106_1 => ?_)
      have t_z106_1 : z106_1.toInt = (ds.length : Nat) := by simpa using e_z106_1
      refine K.iload d20_107 (w':=109) rfl rfl ?_
      obtain ⟨q1, e_q1⟩ : ∃ z, z106_1 + o1 = z := ⟨_, rfl⟩
      have r_q1 : (q1.toInt - (z106_1.toInt + o1.toInt)) % 4294967296 = 0 := by have q := c_iadd z106_1 o1; rw [e_q1] at q; exact q
      have g_q1 := rng32 q1
      have t_q1 : q1.toInt = (ds.length : Int) + o1.toInt := by omega
      clear r_q1
      clear g_q1
      refine K.iadd d20_109 (w':=110) rfl e_q1 ?_
      have f_204 := ((A_172.other W_180 (Ne.symm ne_177)).other W_186 ne_166)
      refine K.iast d20_110 (w':=111) rfl f_204 (i := o1.toInt.toNat) (by omega) (by simp [-Int32.toNat_toInt]; omega) f_10 (fun h_205 W_206 A_207 => ?_)
      have A_208 : Ary Z h_205 pa .int ((([p0, p1, p2].set o2.toInt.toNat q2).set o1.toInt.toNat q1).map Value.int) := (by have q := A_207; rw [← List.map_set] at q; exact q)
      refine K.aloadN d20_111 (w':=112) rfl rfl rfl ?_
      have f_209 := (f_200.other W_206 (Or.inl (Ne.symm ne_25)))
      refine K.getL d20_112 (w':=115) rfl hw140 f_209 ?_
      refine K.iload d20_115 (w':=117) rfl rfl ?_
      refine K.iald d20_117 (w':=118) rfl A_208 (i := o1.toInt.toNat) (by omega) (v := (.int q1)) (mget (set_eq (by simp [-Int32.toNat_toInt]; omega))) ?_
      refine K.istore d20_118 (w':=120) rfl (L' := #[vr a, vr i, vr b, vr o, vi 3, vi 1, vi o1, vi q1]) rfl ?_
      refine K.aloadN d20_120 (w':=121) rfl rfl rfl ?_
      have f_210 := (((f_174.other W_180 (Or.inl (Ne.symm ne_141))).other W_186 (Or.inl (Ne.symm ne_119))).other W_206 (Or.inl (Ne.symm ne_25)))
      refine K.getL d20_121 (w':=124) rfl hw144 f_210 ?_
      refine K.iload d20_124 (w':=126) rfl rfl ?_
      refine K.aloadN d20_126 (w':=127) rfl rfl rfl ?_
      have f_211 := ((f_183.other W_186 (Or.inl (Ne.symm ne_119))).other W_206 (Or.inl (Ne.symm ne_25)))
      refine K.getL d20_127 (w':=130) rfl hw142 f_211 ?_
      refine K.iload d20_130 (w':=132) rfl rfl ?_
      have f_212 := (A_188.other W_206 (Ne.symm ne_166))
      refine K.iald d20_132 (w':=133) rfl f_212 (i := q1.toInt.toNat) (by omega) (v := (.int (-1))) (mget (set_ne (rep_get (by omega)) (cne t_q2 t_q1 (pmd hpm).2.2 (by omega) (by omega)))) ?_
      have f_213 := ((A_182.other W_186 ne_143).other W_206 ne_177)
      refine K.iast d20_133 (w':=134) rfl f_213 (i := o1.toInt.toNat) (by omega) (by simp [-Int32.toNat_toInt]; omega) ge_na (fun h_214 W_215 A_216 => ?_)
      have A_217 : Ary Z h_214 na .int (((([0, 0, 0] : List Int32).set o2.toInt.toNat (-1)).set o1.toInt.toNat (-1)).map Value.int) := (by have q := A_216; rw [← List.map_set] at q; exact q)
      refine K.aloadN d20_134 (w':=135) rfl rfl rfl ?_
      have f_218 := (f_211.other W_215 (Or.inl (Ne.symm ne_141)))
      refine K.getL d20_135 (w':=138) rfl hw142 f_218 ?_
      refine K.iload d20_138 (w':=140) rfl rfl ?_
      have f_219 := (f_212.other W_215 (Ne.symm ne_143))
      refine K.iald d20_140 (w':=141) rfl f_219 (i := q1.toInt.toNat) (by omega) (v := (.int (-1))) (mget (set_ne (rep_get (by omega)) (cne t_q2 t_q1 (pmd hpm).2.2 (by omega) (by omega)))) ?_
      refine K.iconst d20_141 (w':=142) rfl (z := -1) rfl ?_
      refine K.icmp_eq d20_142 (pc1 := 145) rfl (by decide) (pc2 := 173) (by decide) (a := (-1)) (b := (-1)) rfl rfl (fun c142_1 => ?_) (fun c142_1 => ?_)
      ·refine K.aloadN d20_173 (w':=174) rfl rfl rfl ?_
       refine K.getL d20_174 (w':=177) rfl hw142 f_218 ?_
       refine K.iload d20_177 (w':=179) rfl rfl ?_
       refine K.iload d20_179 (w':=181) rfl rfl ?_
       refine K.iast d20_181 (w':=182) rfl f_219 (i := q1.toInt.toNat) (by omega) (by simp [-Int32.toNat_toInt]; omega) ge_fa (fun h_220 W_221 A_222 => ?_)
       have A_223 : Ary Z h_220 fa .int ((((List.replicate (ds.length + 3) (-1)).set q2.toInt.toNat o2).set q1.toInt.toNat o1).map Value.int) := (by have q := A_222; rw [← List.map_set] at q; exact q)
       refine K.iinc d20_182 (w':=185) rfl rfl (z := (0 : Int32)) rfl (L' := #[vr a, vr i, vr b, vr o, vi 3, vi 0, vi o1, vi q1]) rfl ?_
       refine K.goto d20_185 (by decide) (w':=81) (by decide) ?_
       refine K.iload d20_81 (w':=83) rfl rfl ?_
       refine K.if_lt d20_83 (pc1 := 86) rfl (by decide) (pc2 := 188) (by decide) (a := 0) rfl (fun c83_2 => ?_) (fun c83_2 => ?_)
       ·exfalso; omega
       ·refine K.aloadN d20_86 (w':=87) rfl rfl rfl ?_
        refine K.iload d20_87 (w':=89) rfl rfl ?_
        have f_224 := (((f_191.other W_206 ne_189).other W_215 ne_190).other W_221 ne_148)
        refine K.iald d20_89 (w':=90) rfl f_224 (i := 0) rfl rfl ?_
        refine K.istore d20_90 (w':=92) rfl (L' := #[vr a, vr i, vr b, vr o, vi 3, vi 0, vi o0, vi q1]) rfl ?_
        refine K.aloadN d20_92 (w':=93) rfl rfl rfl ?_
        have f_225 := (((f_192.wr W_206).wr W_215).wr W_221)
        have f_226 := (((f_195.other W_206 (Or.inl ne_193)).other W_215 (Or.inl ne_194)).other W_221 (Or.inl ne_153))
        refine K.callv (z := (⟨sI, "coldStart", "()Z"⟩ : MethodName)) (argsL := []) (rest := []) d20_93 (w':=96) rfl (c_csc l Z a0 hw n0 h_220 (i := i) f_225 f_226) f_225 hw174 hw175 (nf_sel hw177 rfl) hw177 hw176 hw11 hw178 (by decide) pd_21 rfl rfl (W := 0) (Nat.le_refl _) (by decide) (by decide) (by decide) (by decide) (fun v_229 h_227 q_228 => ?_)
        obtain ⟨rfl, rfl⟩ := q_228
        show G h_220 6 20 (mkF m 96 #[vr a, vr i, vr b, vr o, vi 3, vi 0, vi o0, vi q1] [(.int (b2 (True)))])
        refine K.ifeqB d20_96 (pc1 := 99) rfl (by decide) (pc2 := 111) (by decide) (fun c96_2 => ?_) (fun c96_2 => ?_)
        ·exfalso; exact c96_2 trivial
        ·refine K.aloadN d20_99 (w':=100) rfl rfl rfl ?_
         have f_231 := ((f_209.other W_215 (Or.inl (Ne.symm ne_141))).other W_221 (Or.inl (Ne.symm ne_119)))
         refine K.getL d20_100 (w':=103) rfl hw140 f_231 ?_
         refine K.iload d20_103 (w':=105) rfl rfl ?_
         refine K.aloadN d20_105 (w':=106) rfl rfl rfl ?_
         have f_232 := (((f_203.other W_206 ne_201).other W_215 ne_202).other W_221 ne_162)
         refine K.alen d20_106 (w':=107) rfl f_232 (fun z106_2 e_z106_2 => ?_)
         have t_z106_2 : z106_2.toInt = (ds.length : Nat) := by simpa using e_z106_2
         refine K.iload d20_107 (w':=109) rfl rfl ?_
         obtain ⟨q0, e_q0⟩ : ∃ z, z106_2 + o0 = z := ⟨_, rfl⟩
         have r_q0 : (q0.toInt - (z106_2.toInt + o0.toInt)) % 4294967296 = 0 := by have q := c_iadd z106_2 o0; rw [e_q0] at q; exact q
         have g_q0 := rng32 q0
         have t_q0 : q0.toInt = (ds.length : Int) + o0.toInt := by omega
         clear r_q0
         clear g_q0
         refine K.iadd d20_109 (w':=110) rfl e_q0 ?_
         have f_233 := ((A_208.other W_215 (Ne.symm ne_177)).other W_221 ne_166)
         refine K.iast d20_110 (w':=111) rfl f_233 (i := o0.toInt.toNat) (by omega) (by simp [-Int32.toNat_toInt]; omega) f_10 (fun h_234 W_235 A_236 => ?_)
         have A_237 : Ary Z h_234 pa .int (((([p0, p1, p2].set o2.toInt.toNat q2).set o1.toInt.toNat q1).set o0.toInt.toNat q0).map Value.int) := (by have q := A_236; rw [← List.map_set] at q; exact q)
         refine K.aloadN d20_111 (w':=112) rfl rfl rfl ?_
         have f_238 := (f_231.other W_235 (Or.inl (Ne.symm ne_25)))
         refine K.getL d20_112 (w':=115) rfl hw140 f_238 ?_
         refine K.iload d20_115 (w':=117) rfl rfl ?_
         refine K.iald d20_117 (w':=118) rfl A_237 (i := o0.toInt.toNat) (by omega) (v := (.int q0)) (mget (set_eq (by simp [-Int32.toNat_toInt]; omega))) ?_
         refine K.istore d20_118 (w':=120) rfl (L' := #[vr a, vr i, vr b, vr o, vi 3, vi 0, vi o0, vi q0]) rfl ?_
         refine K.aloadN d20_120 (w':=121) rfl rfl rfl ?_
         have f_239 := (((f_210.other W_215 (Or.inl (Ne.symm ne_141))).other W_221 (Or.inl (Ne.symm ne_119))).other W_235 (Or.inl (Ne.symm ne_25)))
         refine K.getL d20_121 (w':=124) rfl hw144 f_239 ?_
         refine K.iload d20_124 (w':=126) rfl rfl ?_
         refine K.aloadN d20_126 (w':=127) rfl rfl rfl ?_
         have f_240 := ((f_218.other W_221 (Or.inl (Ne.symm ne_119))).other W_235 (Or.inl (Ne.symm ne_25)))
         refine K.getL d20_127 (w':=130) rfl hw142 f_240 ?_
         refine K.iload d20_130 (w':=132) rfl rfl ?_
         have f_241 := (A_223.other W_235 (Ne.symm ne_166))
         refine K.iald d20_132 (w':=133) rfl f_241 (i := q0.toInt.toNat) (by omega) (v := (.int (-1))) (mget (set_ne (set_ne (rep_get (by omega)) (cne t_q2 t_q0 (pmd hpm).2.1 (by omega) (by omega))) (cne t_q1 t_q0 (pmd hpm).1 (by omega) (by omega)))) ?_
         have f_242 := ((A_217.other W_221 ne_143).other W_235 ne_177)
         refine K.iast d20_133 (w':=134) rfl f_242 (i := o0.toInt.toNat) (by omega) (by simp [-Int32.toNat_toInt]; omega) ge_na (fun h_243 W_244 A_245 => ?_)
         have A_246 : Ary Z h_243 na .int ((((([0, 0, 0] : List Int32).set o2.toInt.toNat (-1)).set o1.toInt.toNat (-1)).set o0.toInt.toNat (-1)).map Value.int) := (by have q := A_245; rw [← List.map_set] at q; exact q)
         refine K.aloadN d20_134 (w':=135) rfl rfl rfl ?_
         have f_247 := (f_240.other W_244 (Or.inl (Ne.symm ne_141)))
         refine K.getL d20_135 (w':=138) rfl hw142 f_247 ?_
         refine K.iload d20_138 (w':=140) rfl rfl ?_
         have f_248 := (f_241.other W_244 (Ne.symm ne_143))
         refine K.iald d20_140 (w':=141) rfl f_248 (i := q0.toInt.toNat) (by omega) (v := (.int (-1))) (mget (set_ne (set_ne (rep_get (by omega)) (cne t_q2 t_q0 (pmd hpm).2.1 (by omega) (by omega))) (cne t_q1 t_q0 (pmd hpm).1 (by omega) (by omega)))) ?_
         refine K.iconst d20_141 (w':=142) rfl (z := -1) rfl ?_
         refine K.icmp_eq d20_142 (pc1 := 145) rfl (by decide) (pc2 := 173) (by decide) (a := (-1)) (b := (-1)) rfl rfl (fun c142_2 => ?_) (fun c142_2 => ?_)
         ·refine K.aloadN d20_173 (w':=174) rfl rfl rfl ?_
          refine K.getL d20_174 (w':=177) rfl hw142 f_247 ?_
          refine K.iload d20_177 (w':=179) rfl rfl ?_
          refine K.iload d20_179 (w':=181) rfl rfl ?_
          refine K.iast d20_181 (w':=182) rfl f_248 (i := q0.toInt.toNat) (by omega) (by simp [-Int32.toNat_toInt]; omega) ge_fa (fun h_249 W_250 A_251 => ?_)
          have A_252 : Ary Z h_249 fa .int (((((List.replicate (ds.length + 3) (-1)).set q2.toInt.toNat o2).set q1.toInt.toNat o1).set q0.toInt.toNat o0).map Value.int) := (by have q := A_251; rw [← List.map_set] at q; exact q)
          refine K.iinc d20_182 (w':=185) rfl rfl (z := (-1 : Int32)) rfl (L' := #[vr a, vr i, vr b, vr o, vi 3, vi (-1), vi o0, vi q0]) rfl ?_
          refine K.goto d20_185 (by decide) (w':=81) (by decide) ?_
          refine K.iload d20_81 (w':=83) rfl rfl ?_
          refine K.if_lt d20_83 (pc1 := 86) rfl (by decide) (pc2 := 188) (by decide) (a := (-1)) rfl (fun c83_3 => ?_) (fun c83_3 => ?_)
          ·have f_253 := ((((((((((((f_101.other W_109 (Or.inl (Ne.symm ne_105))).keep K_126 (ninS (Ne.symm ne_120) nin0)).keep K_138 (ninS (Ne.symm ne_131) nin0)).other W_170 (Or.inl (Ne.symm ne_165))).other W_180 (Or.inl (Ne.symm ne_142))).other W_186 (Or.inl (Ne.symm ne_120))).other W_206 (Or.inl (Ne.symm ne_165))).other W_215 (Or.inl (Ne.symm ne_142))).other W_221 (Or.inl (Ne.symm ne_120))).other W_235 (Or.inl (Ne.symm ne_165))).other W_244 (Or.inl (Ne.symm ne_142))).other W_250 (Or.inl (Ne.symm ne_120)))
           have f_254 := ((((((((((((f_102.other W_109 (Or.inl (Ne.symm ne_105))).keep K_126 (ninS (Ne.symm ne_120) nin0)).keep K_138 (ninS (Ne.symm ne_131) nin0)).other W_170 (Or.inl (Ne.symm ne_165))).other W_180 (Or.inl (Ne.symm ne_142))).other W_186 (Or.inl (Ne.symm ne_120))).other W_206 (Or.inl (Ne.symm ne_165))).other W_215 (Or.inl (Ne.symm ne_142))).other W_221 (Or.inl (Ne.symm ne_120))).other W_235 (Or.inl (Ne.symm ne_165))).other W_244 (Or.inl (Ne.symm ne_142))).other W_250 (Or.inl (Ne.symm ne_120)))
           have ne_255 := (Ne.symm (Nat.ne_of_lt (Nat.lt_of_lt_of_le P4.lt (Nat.le_trans (Nat.le_trans K_8.1 (Nat.le_trans (Keep.of_wr W_15).1 (Nat.le_trans E_30.1 (Nat.le_trans (Keep.of_wr W_38).1 (Nat.le_trans E_49.1 (Nat.le_trans (Keep.of_wr W_57).1 (Nat.le_trans E_68.1 (Nat.le_trans (Keep.of_wr W_76).1 E_87.1)))))))) f_99))))
           have ne_256 := (Ne.symm (Nat.ne_of_lt (Nat.lt_of_lt_of_le x_fa.lt (Nat.le_trans (Nat.le_trans (Keep.of_wr W_38).1 (Nat.le_trans E_49.1 (Nat.le_trans (Keep.of_wr W_57).1 (Nat.le_trans E_68.1 (Nat.le_trans (Keep.of_wr W_76).1 E_87.1))))) f_99))))
           have ne_257 := (Ne.symm (Nat.ne_of_lt (Nat.lt_of_lt_of_le x_va.lt (Nat.le_trans (Nat.le_trans (Keep.of_wr W_76).1 E_87.1) f_99))))
           have ne_258 := (Ne.symm (Nat.ne_of_lt (Nat.lt_of_lt_of_le f_11.lt (Nat.le_trans (Nat.le_trans (Keep.of_wr W_15).1 (Nat.le_trans E_30.1 (Nat.le_trans (Keep.of_wr W_38).1 (Nat.le_trans E_49.1 (Nat.le_trans (Keep.of_wr W_57).1 (Nat.le_trans E_68.1 (Nat.le_trans (Keep.of_wr W_76).1 E_87.1))))))) f_99))))
           have ne_259 := (Ne.symm (Nat.ne_of_lt (Nat.lt_of_lt_of_le x_na.lt (Nat.le_trans (Nat.le_trans (Keep.of_wr W_57).1 (Nat.le_trans E_68.1 (Nat.le_trans (Keep.of_wr W_76).1 E_87.1))) f_99))))
           have f_260 := ((((((((((((f_103.other W_109 ne_255).keep K_126 (ninS ne_256 nin0)).keep K_138 (ninS ne_257 nin0)).other W_170 ne_258).other W_180 ne_259).other W_186 ne_256).other W_206 ne_258).other W_215 ne_259).other W_221 ne_256).other W_235 ne_258).other W_244 ne_259).other W_250 ne_256)
           have f_261 := ((f_238.other W_244 (Or.inl (Ne.symm ne_141))).other W_250 (Or.inl (Ne.symm ne_119)))
           have f_262 := (f_247.other W_250 (Or.inl (Ne.symm ne_119)))
           have f_263 := ((f_239.other W_244 (Or.inl (Ne.symm ne_141))).other W_250 (Or.inl (Ne.symm ne_119)))
           have f_264 := ((((((((((f_129.keep K_138 (ninS (Ne.symm ne_130) nin0)).other W_170 (Or.inl (Ne.symm ne_25))).other W_180 (Or.inl (Ne.symm ne_141))).other W_186 (Or.inl (Ne.symm ne_119))).other W_206 (Or.inl (Ne.symm ne_25))).other W_215 (Or.inl (Ne.symm ne_141))).other W_221 (Or.inl (Ne.symm ne_119))).other W_235 (Or.inl (Ne.symm ne_25))).other W_244 (Or.inl (Ne.symm ne_141))).other W_250 (Or.inl (Ne.symm ne_119)))
           have f_265 := (((((((((((f_118.keep K_126 (ninS (Ne.symm ne_119) nin0)).keep K_138 (ninS (Ne.symm ne_130) nin0)).other W_170 (Or.inl (Ne.symm ne_25))).other W_180 (Or.inl (Ne.symm ne_141))).other W_186 (Or.inl (Ne.symm ne_119))).other W_206 (Or.inl (Ne.symm ne_25))).other W_215 (Or.inl (Ne.symm ne_141))).other W_221 (Or.inl (Ne.symm ne_119))).other W_235 (Or.inl (Ne.symm ne_25))).other W_244 (Or.inl (Ne.symm ne_141))).other W_250 (Or.inl (Ne.symm ne_119)))
           have f_266 := ((A_237.other W_244 (Ne.symm ne_177)).other W_250 ne_166)
           have f_267 := (A_246.other W_250 ne_143)
           have f_268 := (((((((((A_140.other W_170 (Ne.symm ne_167)).other W_180 (Ne.symm ne_144)).other W_186 ne_132).other W_206 (Ne.symm ne_167)).other W_215 (Ne.symm ne_144)).other W_221 ne_132).other W_235 (Ne.symm ne_167)).other W_244 (Ne.symm ne_144)).other W_250 ne_132)
           have f_269 := (((((((((((((x_ba.keep K_98).wr W_109).keep K_126).keep K_138).wr W_170).wr W_180).wr W_186).wr W_206).wr W_215).wr W_221).wr W_235).wr W_244).wr W_250)
           have ne_270 := (Nat.ne_of_lt (Nat.lt_of_lt_of_le x_ba.lt (Nat.le_trans (Nat.le_refl _) f_99)))
           exact K.ret0 d20_188 (by decide) (by decide) ⟨pa, fa, na, va, ba, wa, ((([p0, p1, p2].set o2.toInt.toNat q2).set o1.toInt.toNat q1).set o0.toInt.toNat q0), ((((List.replicate (ds.length + 3) (-1)).set q2.toInt.toNat o2).set q1.toInt.toNat o1).set q0.toInt.toNat o0), (((([0, 0, 0] : List Int32).set o2.toInt.toNat (-1)).set o1.toInt.toNat (-1)).set o0.toInt.toNat (-1)), ([-1, -1, -1] : List Int32), (0 : Int32), (0 : Int64), rfl, (((((((((((((((((((((((Keep.refl h [a]).trans K_8 all0).wr W_15 (Or.inl (by simp))).ext E_30).wr W_38 (Or.inl (by simp))).ext E_49).wr W_57 (Or.inl (by simp))).ext E_68).wr W_76 (Or.inl (by simp))).ext E_87).trans K_98 (allS (Or.inr sb_ba) all0)).wr W_109 (Or.inl (by simp))).trans K_126 (allS (Or.inr sb_fa) all0)).trans K_138 (allS (Or.inr sb_va) all0)).wr W_170 (Or.inr sb_pa)).wr W_180 (Or.inr sb_na)).wr W_186 (Or.inr sb_fa)).wr W_206 (Or.inr sb_pa)).wr W_215 (Or.inr sb_na)).wr W_221 (Or.inr sb_fa)).wr W_235 (Or.inr sb_pa)).wr W_244 (Or.inr sb_na)).wr W_250 (Or.inr sb_fa)), f_261, f_262, f_263, f_264, f_265, f_266, A_252, f_267, f_268, f_269, f_253, f_254, f_260, sb_pa, sb_fa, sb_na, sb_va, sb_ba, sb_wa, f_10, ge_fa, ge_na, ge_va, ge_ba, f_100, ne_166, (Ne.symm ne_177), ne_167, ne_165, (Ne.symm ne_258), (Ne.symm ne_143), (Ne.symm ne_132), ne_120, (Ne.symm ne_256), ne_144, ne_142, (Ne.symm ne_259), ne_131, (Ne.symm ne_257), ne_270, by first | decide | omega, by exact pi_c hpm t_q2 t_q1 t_q0⟩
          ·exfalso; omega
         ·exfalso; omega
      ·exfalso; omega
   ·exfalso; omega
theorem d20_145 : decode B20 145 = .ok (.aload_n 0, 1) := by decide +kernel
theorem d20_146 : decode B20 146 = .ok (.getfield 29, 3) := by decide +kernel
theorem d20_149 : decode B20 149 = .ok (.aload_n 0, 1) := by decide +kernel
theorem d20_150 : decode B20 150 = .ok (.getfield 23, 3) := by decide +kernel
theorem d20_153 : decode B20 153 = .ok (.iload 7, 2) := by decide +kernel
theorem d20_155 : decode B20 155 = .ok (.iaload, 1) := by decide +kernel
theorem d20_156 : decode B20 156 = .ok (.iload 6, 2) := by decide +kernel
theorem d20_158 : decode B20 158 = .ok (.iastore, 1) := by decide +kernel
theorem d20_159 : decode B20 159 = .ok (.aload_n 0, 1) := by decide +kernel
theorem d20_160 : decode B20 160 = .ok (.getfield 37, 3) := by decide +kernel
theorem d20_163 : decode B20 163 = .ok (.aload_n 0, 1) := by decide +kernel
theorem d20_164 : decode B20 164 = .ok (.getfield 23, 3) := by decide +kernel
theorem d20_167 : decode B20 167 = .ok (.iload 7, 2) := by decide +kernel
theorem d20_169 : decode B20 169 = .ok (.iaload, 1) := by decide +kernel
theorem d20_170 : decode B20 170 = .ok (.invokevirtual 51, 3) := by decide +kernel
theorem c_plw (l : Launch) (Z : State) (a0 : Array Value) (hw : HW a0 Z) (n0 : Nat) (h : Heap) (a : Addr) (i : Addr) (b : Addr) (o : Addr) (w : Addr) (s : Addr) (s0 : Int64) (s1 : Int64) (s2 : Int64) (o0 : Int32) (o1 : Int32) (o2 : Int32) (ds : List Int64) (Z0 : n0 ≤ h.size) (P2 : Old Z n0 h) (P3 : Sta Z Z.heap sB "$assertionsDisabled" "Z" (.int 1)) (P4 : Exa Z h a sP) (P5 : n0 ≤ a) (P6 : Fld Z h a sP "position" "[I" .null) (P7 : Fld Z h a sP "first" "[I" .null) (P8 : Fld Z h a sP "next" "[I" .null) (P9 : Fld Z h a sP "previous" "[I" .null) (P10 : Fld Z h a sP "stacked" "Ljava/util/BitSet;" .null) (P11 : Exa Z h i sI) (P12 : i ≠ a) (P13 : Fld Z h i sI "weights" "[J" (.ref w)) (P14 : Ary Z h w .long [(.long 1), (.long 2), (.long 3)]) (P15 : w ≠ a) (P16 : Ary Z h b .long (ds.map Value.long)) (hds : (ds.map Int64.toInt).Pairwise (· < ·) ∧ 1 ≤ ds.length ∧ ds.length ≤ 4) (P18 : b ≠ a) (P19 : Ary Z h o .int [(.int o0), (.int o1), (.int o2)]) (P20 : o ≠ a) (hpm : pm o0 o1 o2) (P22 : Fld Z h i sI "start" "[J" (.ref s)) (P23 : Ary Z h s .long [(.long s0), (.long s1), (.long s2)]) (P24 : s ≠ a) (hin : (∃ d ∈ ds, d.toInt = s0.toInt) ∧ (∃ d ∈ ds, d.toInt = s1.toInt) ∧ (∃ d ∈ ds, d.toInt = s2.toInt)) : MeetsW l Z n0 (⟨sP, "<init>", "(Lcom/example/odograph/odograph/model/Instance;[J[I)V"⟩ : MethodName) B20 8 none ({ frames := 3, cells := 6, slots := 20, locals := 53 } : Room) #[(.ref a), (.ref i), (.ref b), (.ref o)] h (fun v h' => ∃ (pa : Addr) (fa : Addr) (na : Addr) (va : Addr) (ba : Addr) (wa : Addr) (pl : List Int32) (fl : List Int32) (nl : List Int32) (vl : List Int32) (u : Int32) (x : Int64) (p0 : Int32) (p1 : Int32) (p2 : Int32), v = none ∧ Keep h h' [a] ∧ Fld Z h' a sP "position" "[I" (.ref pa) ∧ Fld Z h' a sP "first" "[I" (.ref fa) ∧ Fld Z h' a sP "next" "[I" (.ref na) ∧ Fld Z h' a sP "previous" "[I" (.ref va) ∧ Fld Z h' a sP "stacked" "Ljava/util/BitSet;" (.ref ba) ∧ Ary Z h' pa .int (pl.map Value.int) ∧ Ary Z h' fa .int (fl.map Value.int) ∧ Ary Z h' na .int (nl.map Value.int) ∧ Ary Z h' va .int (vl.map Value.int) ∧ Exa Z h' ba sB ∧ Fld Z h' ba sB "words" "[J" (.ref wa) ∧ Fld Z h' ba sB "wordsInUse" "I" (.int u) ∧ Ary Z h' wa .long [(.long x)] ∧ h.size ≤ pa ∧ h.size ≤ fa ∧ h.size ≤ na ∧ h.size ≤ va ∧ h.size ≤ ba ∧ h.size ≤ wa ∧ n0 ≤ pa ∧ n0 ≤ fa ∧ n0 ≤ na ∧ n0 ≤ va ∧ n0 ≤ ba ∧ n0 ≤ wa ∧ pa ≠ fa ∧ pa ≠ na ∧ pa ≠ va ∧ pa ≠ ba ∧ pa ≠ wa ∧ fa ≠ na ∧ fa ≠ va ∧ fa ≠ ba ∧ fa ≠ wa ∧ na ≠ va ∧ na ≠ ba ∧ na ≠ wa ∧ va ≠ ba ∧ va ≠ wa ∧ ba ≠ wa ∧ (0 ≤ u.toInt ∧ u.toInt ≤ 1) ∧ (PI (ds.length + 3) pl fl nl vl ∧ (∃ i : Nat, p0.toInt = i ∧ i < ds.length ∧ ∃ d, ds[i]? = some d ∧ d.toInt = s0.toInt) ∧ (∃ i : Nat, p1.toInt = i ∧ i < ds.length ∧ ∃ d, ds[i]? = some d ∧ d.toInt = s1.toInt) ∧ (∃ i : Nat, p2.toInt = i ∧ i < ds.length ∧ ∃ d, ds[i]? = some d ∧ d.toInt = s2.toInt) ∧ pl = [p0, p1, p2])) := by
 refine MeetsW.intro (plainFor_of_name pn_com_example_odograph_odograph_online_Placement) (L0 := #[vr a, vr i, vr b, vr o, un, un, un, un]) (fun m => rfl) ?_
 intro m G K0
 have K : Cx l ({ frames := 3, cells := 6, slots := 20, locals := 53 } : Room) Z n0 _ sP "<init>" B20 8 none m G := K0
 have hw5 := tb hw (i:=5) rfl
 have hw11 := tb hw (i:=11) rfl
 have hw45 := tb hw (i:=45) rfl
 have hw46 := tb hw (i:=46) rfl
 have hw88 := tb hw (i:=88) rfl
 have hw118 := tb hw (i:=118) rfl
 have hw123 := tb hw (i:=123) rfl
 have hw124 := tb hw (i:=124) rfl
 have hw125 := tb hw (i:=125) rfl
 have hw126 := tb hw (i:=126) rfl
 have hw127 := tb hw (i:=127) rfl
 have hw128 := tb hw (i:=128) rfl
 have hw129 := tb hw (i:=129) rfl
 have hw130 := tb hw (i:=130) rfl
 have hw131 := tb hw (i:=131) rfl
 have hw132 := tb hw (i:=132) rfl
 have hw133 := tb hw (i:=133) rfl
 have hw140 := tb hw (i:=140) rfl
 have hw141 := tb hw (i:=141) rfl
 have hw142 := tb hw (i:=142) rfl
 have hw143 := tb hw (i:=143) rfl
 have hw144 := tb hw (i:=144) rfl
 have hw145 := tb hw (i:=145) rfl
 have hw146 := tb hw (i:=146) rfl
 have hw147 := tb hw (i:=147) rfl
 have hw148 := tb hw (i:=148) rfl
 have hw149 := tb hw (i:=149) rfl
 have hw150 := tb hw (i:=150) rfl
 have hw151 := tb hw (i:=151) rfl
 have hw152 := tb hw (i:=152) rfl
 have hw153 := tb hw (i:=153) rfl
 have hw156 := tb hw (i:=156) rfl
 have hw158 := tb hw (i:=158) rfl
 have hw168 := tb hw (i:=168) rfl
 have hw169 := tb hw (i:=169) rfl
 have hw170 := tb hw (i:=170) rfl
 have hw171 := tb hw (i:=171) rfl
 have hw172 := tb hw (i:=172) rfl
 have hw173 := tb hw (i:=173) rfl
 have hw174 := tb hw (i:=174) rfl
 have hw175 := tb hw (i:=175) rfl
 have hw176 := tb hw (i:=176) rfl
 have hw177 := tb hw (i:=177) rfl
 have hw178 := tb hw (i:=178) rfl
 have hw179 := tb hw (i:=179) rfl
 have hw180 := tb hw (i:=180) rfl
 have hw181 := tb hw (i:=181) rfl
 have hw182 := tb hw (i:=182) rfl
 have hw183 := tb hw (i:=183) rfl
 refine K.aloadN d20_0 (w':=1) rfl rfl rfl ?_
 refine K.init0 d20_1 (w':=4) rfl hw123 hw45 hw46 rfl (by decide) (W := 0) (Nat.le_refl _) (by decide) ?_
 refine K.aloadN d20_4 (w':=5) rfl rfl rfl ?_
 refine K.callv (z := (⟨sI, "servers", "()I"⟩ : MethodName)) (argsL := []) (rest := []) d20_5 (w':=8) rfl (c_srv l Z a0 hw n0 h (i := i) (w := w) P11 P13 P14) P11 hw124 hw125 (nf_sel hw127 rfl) hw127 hw126 hw11 hw128 (by decide) pd_18 rfl rfl (W := 0) (Nat.le_refl _) (by decide) (by decide) (by decide) (by decide) (fun v_3 h_1 q_2 => ?_)
 obtain ⟨rfl, rfl⟩ := q_2
 show G h 0 0 (mkF m 8 #[vr a, vr i, vr b, vr o, un, un, un, un] [(.int 3)])
 refine K.istore d20_8 (w':=10) rfl (L' := #[vr a, vr i, vr b, vr o, vi 3, un, un, un]) rfl ?_
 refine K.aloadN d20_10 (w':=11) rfl rfl rfl ?_
 refine K.aloadN d20_11 (w':=12) rfl rfl rfl ?_
 refine K.aloadN d20_12 (w':=13) rfl rfl rfl ?_
 refine K.callv (z := (⟨sI, "startPositions", "([J)[I"⟩ : MethodName)) (argsL := [(.ref b)]) (rest := [(.ref a)]) d20_13 (w':=16) rfl (c_spw l Z a0 hw n0 h (a := i) (b := b) (w := w) (s := s) (s0 := s0) (s1 := s1) (s2 := s2) (ds := ds) Z0 P11 P13 P14 P16 hds P22 P23 hin) P11 hw129 hw130 (nf_sel hw132 rfl) hw132 hw131 hw11 hw133 (by decide) pd_19 rfl rfl (W := 1) (Nat.le_refl _) (by decide) (by decide) (by decide) (by decide) (fun v_7 h_5 q_6 => ?_)
 obtain ⟨pa, p0, p1, p2, rfl, K_8, f_9, f_10, f_11, hpp_pa⟩ := q_6
 have sb_pa : h.size ≤ pa := Nat.le_trans (Nat.le_refl _) f_9
 show G h_5 1 3 (mkF m 16 #[vr a, vr i, vr b, vr o, vi 3, un, un, un] [(.ref pa), (.ref a)])
 have f_12 := (P6.keep K_8 nin0)
 have f_13 := (P4.keep K_8)
 refine K.putf d20_16 (w':=19) rfl (host := "") (Or.inl hw140) Via.refl f_12 f_13 (Or.inr ⟨hw141, rfl, rfl⟩) hw118 (ty := (.array .int)) (by decide) rfl rfl P5 (fun h_14 W_15 => ?_)
 have f_16 := (P7.keep K_8 nin0)
 have f_17 := (P8.keep K_8 nin0)
 have f_18 := (P9.keep K_8 nin0)
 have f_19 := (P10.keep K_8 nin0)
 have f_20 := f_12.same W_15
 have f_21 := f_16.other W_15 (Or.inr (slot_ne (Or.inr hw143) (Or.inr hw141) (by decide) (t := (.array .int)) (t' := (.array .int)) (by decide) (by decide)))
 have f_22 := f_17.other W_15 (Or.inr (slot_ne (Or.inr hw145) (Or.inr hw141) (by decide) (t := (.array .int)) (t' := (.array .int)) (by decide) (by decide)))
 have f_23 := f_18.other W_15 (Or.inr (slot_ne (Or.inr hw147) (Or.inr hw141) (by decide) (t := (.array .int)) (t' := (.array .int)) (by decide) (by decide)))
 have f_24 := f_19.other W_15 (Or.inr (slot_ne (Or.inr hw170) (Or.inr hw141) (by decide) (t := (.object sB)) (t' := (.array .int)) (by decide) (by decide)))
 have ne_25 := (Ne.symm (Nat.ne_of_lt (Nat.lt_of_lt_of_le P4.lt (Nat.le_trans (Nat.le_refl _) f_9))))
 have f_26 := (f_11.other W_15 ne_25)
 have A_27 : Ary Z h_14 pa .int ([p0, p1, p2].map Value.int) := f_26
 have hpp_b : (0 ≤ p0.toInt ∧ p0.toInt < ds.length) ∧ (0 ≤ p1.toInt ∧ p1.toInt < ds.length) ∧ (0 ≤ p2.toInt ∧ p2.toInt < ds.length) := by obtain ⟨⟨i0, a0', b0', -⟩, ⟨i1, a1, b1, -⟩, ⟨i2, a2, b2', -⟩⟩ := hpp_pa; omega
 refine K.aloadN d20_19 (w':=20) rfl rfl rfl ?_
 refine K.aloadN d20_20 (w':=21) rfl rfl rfl ?_
 have f_28 := ((P16.keep K_8 nin0).other W_15 P18)
 refine K.alen d20_21 (w':=22) rfl f_28 (fun z21 e_z21 => ?_)
 have t_z21 : z21.toInt = (ds.length : Nat) := by simpa using e_z21
 refine K.iload d20_22 (w':=24) rfl rfl ?_
 obtain ⟨nf, e_nf⟩ : ∃ z, z21 + (3 : Int32) = z := ⟨_, rfl⟩
 have r_nf : (nf.toInt - (z21.toInt + 3)) % 4294967296 = 0 := by have q := c_iadd z21 (3 : Int32); rw [e_nf] at q; exact q
 have g_nf := rng32 nf
 have t_nf : nf.toInt = (ds.length : Int) + 3 := by omega
 clear r_nf
 clear g_nf
 refine K.iadd d20_24 (w':=25) rfl e_nf ?_
 refine K.newa d20_25 (w':=27) rfl hw5 (k := (ds.length + 3)) (cap := 7) (by omega) (by omega) (by decide) (by decide) (by decide) (ad := "[I") (by decide) (fun h_29 fa g_fa E_30 A_31 x_fa => ?_)
 have sz_32 := Nat.le_trans Z0 (Nat.le_trans K_8.1 (Keep.of_wr W_15).1)
 have ge_fa : n0 ≤ fa := g_fa ▸ sz_32
 have hz_33 : h.size ≤ h_14.size := (Nat.le_trans K_8.1 (Keep.of_wr W_15).1)
 have sb_fa : h.size ≤ fa := g_fa ▸ hz_33
 have A_34 : Ary Z h_29 fa .int (List.replicate (ds.length + 3) (.int 0)) := A_31
 have f_35 := (f_21.ext E_30)
 have f_36 := ((f_13.wr W_15).ext E_30)
 refine K.putf d20_27 (w':=30) rfl (host := "") (Or.inl hw142) Via.refl f_35 f_36 (Or.inr ⟨hw143, rfl, rfl⟩) hw118 (ty := (.array .int)) (by decide) rfl rfl P5 (fun h_37 W_38 => ?_)
 have f_39 := (f_20.ext E_30)
 have f_40 := (f_22.ext E_30)
 have f_41 := (f_23.ext E_30)
 have f_42 := (f_24.ext E_30)
 have f_43 := f_39.other W_38 (Or.inr (slot_ne (Or.inr hw141) (Or.inr hw143) (by decide) (t := (.array .int)) (t' := (.array .int)) (by decide) (by decide)))
 have f_44 := f_35.same W_38
 have f_45 := f_40.other W_38 (Or.inr (slot_ne (Or.inr hw145) (Or.inr hw143) (by decide) (t := (.array .int)) (t' := (.array .int)) (by decide) (by decide)))
 have f_46 := f_41.other W_38 (Or.inr (slot_ne (Or.inr hw147) (Or.inr hw143) (by decide) (t := (.array .int)) (t' := (.array .int)) (by decide) (by decide)))
 have f_47 := f_42.other W_38 (Or.inr (slot_ne (Or.inr hw170) (Or.inr hw143) (by decide) (t := (.object sB)) (t' := (.array .int)) (by decide) (by decide)))
 refine K.aloadN d20_30 (w':=31) rfl rfl rfl ?_
 refine K.iload d20_31 (w':=33) rfl rfl ?_
 refine K.newa d20_33 (w':=35) rfl hw5 (k := 3) (cap := 3) rfl (by decide) (by decide) (by decide) (by decide) (ad := "[I") (by decide) (fun h_48 na g_na E_49 A_50 x_na => ?_)
 have sz_51 := Nat.le_trans sz_32 (Nat.le_trans E_30.1 (Keep.of_wr W_38).1)
 have ge_na : n0 ≤ na := g_na ▸ sz_51
 have hz_52 : h.size ≤ h_37.size := Nat.le_trans hz_33 (Nat.le_trans E_30.1 (Keep.of_wr W_38).1)
 have sb_na : h.size ≤ na := g_na ▸ hz_52
 have A_53 : Ary Z h_48 na .int [(.int 0), (.int 0), (.int 0)] := A_50
 have f_54 := (f_45.ext E_49)
 have f_55 := ((f_36.wr W_38).ext E_49)
 refine K.putf d20_35 (w':=38) rfl (host := "") (Or.inl hw144) Via.refl f_54 f_55 (Or.inr ⟨hw145, rfl, rfl⟩) hw118 (ty := (.array .int)) (by decide) rfl rfl P5 (fun h_56 W_57 => ?_)
 have f_58 := (f_43.ext E_49)
 have f_59 := (f_44.ext E_49)
 have f_60 := (f_46.ext E_49)
 have f_61 := (f_47.ext E_49)
 have f_62 := f_58.other W_57 (Or.inr (slot_ne (Or.inr hw141) (Or.inr hw145) (by decide) (t := (.array .int)) (t' := (.array .int)) (by decide) (by decide)))
 have f_63 := f_59.other W_57 (Or.inr (slot_ne (Or.inr hw143) (Or.inr hw145) (by decide) (t := (.array .int)) (t' := (.array .int)) (by decide) (by decide)))
 have f_64 := f_54.same W_57
 have f_65 := f_60.other W_57 (Or.inr (slot_ne (Or.inr hw147) (Or.inr hw145) (by decide) (t := (.array .int)) (t' := (.array .int)) (by decide) (by decide)))
 have f_66 := f_61.other W_57 (Or.inr (slot_ne (Or.inr hw170) (Or.inr hw145) (by decide) (t := (.object sB)) (t' := (.array .int)) (by decide) (by decide)))
 refine K.aloadN d20_38 (w':=39) rfl rfl rfl ?_
 refine K.iload d20_39 (w':=41) rfl rfl ?_
 refine K.newa d20_41 (w':=43) rfl hw5 (k := 3) (cap := 3) rfl (by decide) (by decide) (by decide) (by decide) (ad := "[I") (by decide) (fun h_67 va g_va E_68 A_69 x_va => ?_)
 have sz_70 := Nat.le_trans sz_51 (Nat.le_trans E_49.1 (Keep.of_wr W_57).1)
 have ge_va : n0 ≤ va := g_va ▸ sz_70
 have hz_71 : h.size ≤ h_56.size := Nat.le_trans hz_52 (Nat.le_trans E_49.1 (Keep.of_wr W_57).1)
 have sb_va : h.size ≤ va := g_va ▸ hz_71
 have A_72 : Ary Z h_67 va .int [(.int 0), (.int 0), (.int 0)] := A_69
 have f_73 := (f_65.ext E_68)
 have f_74 := ((f_55.wr W_57).ext E_68)
 refine K.putf d20_43 (w':=46) rfl (host := "") (Or.inl hw146) Via.refl f_73 f_74 (Or.inr ⟨hw147, rfl, rfl⟩) hw118 (ty := (.array .int)) (by decide) rfl rfl P5 (fun h_75 W_76 => ?_)
 have f_77 := (f_62.ext E_68)
 have f_78 := (f_63.ext E_68)
 have f_79 := (f_64.ext E_68)
 have f_80 := (f_66.ext E_68)
 have f_81 := f_77.other W_76 (Or.inr (slot_ne (Or.inr hw141) (Or.inr hw147) (by decide) (t := (.array .int)) (t' := (.array .int)) (by decide) (by decide)))
 have f_82 := f_78.other W_76 (Or.inr (slot_ne (Or.inr hw143) (Or.inr hw147) (by decide) (t := (.array .int)) (t' := (.array .int)) (by decide) (by decide)))
 have f_83 := f_79.other W_76 (Or.inr (slot_ne (Or.inr hw145) (Or.inr hw147) (by decide) (t := (.array .int)) (t' := (.array .int)) (by decide) (by decide)))
 have f_84 := f_73.same W_76
 have f_85 := f_80.other W_76 (Or.inr (slot_ne (Or.inr hw170) (Or.inr hw147) (by decide) (t := (.object sB)) (t' := (.array .int)) (by decide) (by decide)))
 refine K.aloadN d20_46 (w':=47) rfl rfl rfl ?_
 refine K.newo d20_47 (w':=50) rfl hw148 hw149 hw150 (by decide) (by decide) (fun h_86 ba g_ba E_87 x_ba D_ba => ?_)
 have sz_88 := Nat.le_trans sz_70 (Nat.le_trans E_68.1 (Keep.of_wr W_76).1)
 have ge_ba : n0 ≤ ba := g_ba ▸ sz_88
 have hz_89 : h.size ≤ h_75.size := Nat.le_trans hz_71 (Nat.le_trans E_68.1 (Keep.of_wr W_76).1)
 have sb_ba : h.size ≤ ba := g_ba ▸ hz_89
 have f_90 : Fld Z h_86 ba sB "wordsInUse" "I" (.int 0) := D_ba (Or.inl hw156) (ty := .int) (by decide)
 have f_91 : Fld Z h_86 ba sB "sizeIsSticky" "Z" (.int 0) := D_ba (Or.inl hw158) (ty := .boolean) (by decide)
 have f_92 : Fld Z h_86 ba sB "words" "[J" .null := D_ba (Or.inl hw168) (ty := (.array .long)) (by decide)
 refine K.dup d20_50 (w':=51) rfl rfl ?_
 refine K.iload d20_51 (w':=53) rfl rfl ?_
 have sz_93 := Nat.le_trans sz_88 E_87.1
 refine K.callc (argsL := [(.int 3)]) (rest := [(.ref ba), (.ref a)]) d20_53 (w':=56) rfl rfl (c_bi l Z a0 hw n0 h_86 (b := ba) sz_93 x_ba ge_ba f_92 f_90 f_91) hw151 hw152 hw150 hw153 (by decide) pd_16 rfl rfl (W := 2) (Nat.le_refl _) (by decide) (by decide) (by decide) (by decide) (fun v_96 h_94 q_95 => ?_)
 obtain ⟨wa, rfl, K_98, f_99, f_100, f_101, f_102, f_103⟩ := q_95
 have hz_104 : h.size ≤ h_86.size := Nat.le_trans hz_89 E_87.1
 have sb_wa : h.size ≤ wa := Nat.le_trans hz_104 f_99
 show G h_94 6 20 (mkF m 56 #[vr a, vr i, vr b, vr o, vi 3, un, un, un] [(.ref ba), (.ref a)])
 have ne_105 := (Nat.ne_of_lt (Nat.lt_of_lt_of_le P4.lt (Nat.le_trans (Nat.le_trans K_8.1 (Nat.le_trans (Keep.of_wr W_15).1 (Nat.le_trans E_30.1 (Nat.le_trans (Keep.of_wr W_38).1 (Nat.le_trans E_49.1 (Nat.le_trans (Keep.of_wr W_57).1 (Nat.le_trans E_68.1 (Keep.of_wr W_76).1))))))) (Nat.le_of_eq g_ba.symm))))
 have f_106 := ((f_85.ext E_87).keep K_98 (ninS ne_105 nin0))
 have f_107 := (((f_74.wr W_76).ext E_87).keep K_98)
 refine K.putf d20_56 (w':=59) rfl (host := "") (Or.inl hw169) Via.refl f_106 f_107 (Or.inr ⟨hw170, rfl, rfl⟩) hw118 (ty := (.object sB)) (by decide) rfl rfl P5 (fun h_108 W_109 => ?_)
 have f_110 := ((f_81.ext E_87).keep K_98 (ninS ne_105 nin0))
 have f_111 := ((f_82.ext E_87).keep K_98 (ninS ne_105 nin0))
 have f_112 := ((f_83.ext E_87).keep K_98 (ninS ne_105 nin0))
 have f_113 := ((f_84.ext E_87).keep K_98 (ninS ne_105 nin0))
 have f_114 := f_110.other W_109 (Or.inr (slot_ne (Or.inr hw141) (Or.inr hw170) (by decide) (t := (.array .int)) (t' := (.object sB)) (by decide) (by decide)))
 have f_115 := f_111.other W_109 (Or.inr (slot_ne (Or.inr hw143) (Or.inr hw170) (by decide) (t := (.array .int)) (t' := (.object sB)) (by decide) (by decide)))
 have f_116 := f_112.other W_109 (Or.inr (slot_ne (Or.inr hw145) (Or.inr hw170) (by decide) (t := (.array .int)) (t' := (.object sB)) (by decide) (by decide)))
 have f_117 := f_113.other W_109 (Or.inr (slot_ne (Or.inr hw147) (Or.inr hw170) (by decide) (t := (.array .int)) (t' := (.object sB)) (by decide) (by decide)))
 have f_118 := f_106.same W_109
 refine K.aloadN d20_59 (w':=60) rfl rfl rfl ?_
 refine K.getL d20_60 (w':=63) rfl hw142 f_115 ?_
 refine K.iconst d20_63 (w':=64) rfl (z := -1) rfl ?_
 have ne_119 := (Ne.symm (Nat.ne_of_lt (Nat.lt_of_lt_of_le P4.lt (Nat.le_trans (Nat.le_trans K_8.1 (Keep.of_wr W_15).1) (Nat.le_of_eq g_fa.symm)))))
 have ne_120 := (Nat.ne_of_lt (Nat.lt_of_lt_of_le x_fa.lt (Nat.le_trans (Nat.le_trans (Keep.of_wr W_38).1 (Nat.le_trans E_49.1 (Nat.le_trans (Keep.of_wr W_57).1 (Nat.le_trans E_68.1 (Keep.of_wr W_76).1)))) (Nat.le_of_eq g_ba.symm))))
 have f_121 := ((((((((A_34.other W_38 ne_119).ext E_49).other W_57 ne_119).ext E_68).other W_76 ne_119).ext E_87).keep K_98 (ninS ne_120 nin0)).other W_109 ne_119)
 refine K.calls (argsL := [(.ref fa), (.int (-1))]) (rest := []) d20_64 (w':=67) rfl (c_fil l Z a0 hw n0 h_108 (a := fa) (us := List.replicate (ds.length + 3) (.int 0)) f_121 ge_fa (by simp [-Int32.toNat_toInt]; omega)) hw171 hw172 hw88 hw173 (by decide) pd_20 rfl rfl (W := 0) (Nat.le_refl _) (by decide) (by decide) (by decide) (by decide) (fun v_124 h_122 q_123 => ?_)
 obtain ⟨rfl, K_126, f_127⟩ := q_123
 show G h_122 6 20 (mkF m 67 #[vr a, vr i, vr b, vr o, vi 3, un, un, un] [])
 have A_128 : Ary Z h_122 fa .int ((List.replicate (ds.length + 3) (-1)).map Value.int) := (by have q := f_127; simpa using q)
 refine K.aloadN d20_67 (w':=68) rfl rfl rfl ?_
 have f_129 := (f_117.keep K_126 (ninS (Ne.symm ne_119) nin0))
 refine K.getL d20_68 (w':=71) rfl hw146 f_129 ?_
 refine K.iconst d20_71 (w':=72) rfl (z := -1) rfl ?_
 have ne_130 := (Ne.symm (Nat.ne_of_lt (Nat.lt_of_lt_of_le P4.lt (Nat.le_trans (Nat.le_trans K_8.1 (Nat.le_trans (Keep.of_wr W_15).1 (Nat.le_trans E_30.1 (Nat.le_trans (Keep.of_wr W_38).1 (Nat.le_trans E_49.1 (Keep.of_wr W_57).1))))) (Nat.le_of_eq g_va.symm)))))
 have ne_131 := (Nat.ne_of_lt (Nat.lt_of_lt_of_le x_va.lt (Nat.le_trans (Keep.of_wr W_76).1 (Nat.le_of_eq g_ba.symm))))
 have ne_132 := (Ne.symm (Nat.ne_of_lt (Nat.lt_of_lt_of_le x_fa.lt (Nat.le_trans (Nat.le_trans (Keep.of_wr W_38).1 (Nat.le_trans E_49.1 (Keep.of_wr W_57).1)) (Nat.le_of_eq g_va.symm)))))
 have f_133 := (((((A_72.other W_76 ne_130).ext E_87).keep K_98 (ninS ne_131 nin0)).other W_109 ne_130).keep K_126 (ninS ne_132 nin0))
 refine K.calls (argsL := [(.ref va), (.int (-1))]) (rest := []) d20_72 (w':=75) rfl (c_fil l Z a0 hw n0 h_122 (a := va) (us := [(.int 0), (.int 0), (.int 0)]) f_133 ge_va (by simp)) hw171 hw172 hw88 hw173 (by decide) pd_20 rfl rfl (W := 0) (Nat.le_refl _) (by decide) (by decide) (by decide) (by decide) (fun v_136 h_134 q_135 => ?_)
 obtain ⟨rfl, K_138, f_139⟩ := q_135
 show G h_134 6 20 (mkF m 75 #[vr a, vr i, vr b, vr o, vi 3, un, un, un] [])
 have A_140 : Ary Z h_134 va .int (([-1, -1, -1] : List Int32).map Value.int) := f_139
 have ne_141 := (Ne.symm (Nat.ne_of_lt (Nat.lt_of_lt_of_le P4.lt (Nat.le_trans (Nat.le_trans K_8.1 (Nat.le_trans (Keep.of_wr W_15).1 (Nat.le_trans E_30.1 (Keep.of_wr W_38).1))) (Nat.le_of_eq g_na.symm)))))
 have ne_142 := (Nat.ne_of_lt (Nat.lt_of_lt_of_le x_na.lt (Nat.le_trans (Nat.le_trans (Keep.of_wr W_57).1 (Nat.le_trans E_68.1 (Keep.of_wr W_76).1)) (Nat.le_of_eq g_ba.symm))))
 have ne_143 := (Ne.symm (Nat.ne_of_lt (Nat.lt_of_lt_of_le x_fa.lt (Nat.le_trans (Keep.of_wr W_38).1 (Nat.le_of_eq g_na.symm)))))
 have ne_144 := (Nat.ne_of_lt (Nat.lt_of_lt_of_le x_na.lt (Nat.le_trans (Keep.of_wr W_57).1 (Nat.le_of_eq g_va.symm))))
 have f_145 := ((((((((A_53.other W_57 ne_141).ext E_68).other W_76 ne_141).ext E_87).keep K_98 (ninS ne_142 nin0)).other W_109 ne_141).keep K_126 (ninS ne_143 nin0)).keep K_138 (ninS ne_144 nin0))
 have A_146 : Ary Z h_134 na .int (([0, 0, 0] : List Int32).map Value.int) := f_145
 have hob := pmr hpm
 refine K.iload d20_75 (w':=77) rfl rfl ?_
 refine K.iconst d20_77 (w':=78) rfl (z := 1) rfl ?_
 refine K.isub d20_78 (w':=79) rfl (z := (2 : Int32)) (by decide) ?_
 refine K.istore d20_79 (w':=81) rfl (L' := #[vr a, vr i, vr b, vr o, vi 3, vi 2, un, un]) rfl ?_
 refine K.iload d20_81 (w':=83) rfl rfl ?_
 refine K.if_lt d20_83 (pc1 := 86) rfl (by decide) (pc2 := 188) (by decide) (a := 2) rfl (fun c83 => ?_) (fun c83 => ?_)
 ·exfalso; omega
 ·refine K.aloadN d20_86 (w':=87) rfl rfl rfl ?_
  refine K.iload d20_87 (w':=89) rfl rfl ?_
  have ne_147 := (Nat.ne_of_lt (Nat.lt_of_lt_of_le P19.lt (Nat.le_trans (Nat.le_trans K_8.1 (Nat.le_trans (Keep.of_wr W_15).1 (Nat.le_trans E_30.1 (Nat.le_trans (Keep.of_wr W_38).1 (Nat.le_trans E_49.1 (Nat.le_trans (Keep.of_wr W_57).1 (Nat.le_trans E_68.1 (Keep.of_wr W_76).1))))))) (Nat.le_of_eq g_ba.symm))))
  have ne_148 := (Nat.ne_of_lt (Nat.lt_of_lt_of_le P19.lt (Nat.le_trans (Nat.le_trans K_8.1 (Keep.of_wr W_15).1) (Nat.le_of_eq g_fa.symm))))
  have ne_149 := (Nat.ne_of_lt (Nat.lt_of_lt_of_le P19.lt (Nat.le_trans (Nat.le_trans K_8.1 (Nat.le_trans (Keep.of_wr W_15).1 (Nat.le_trans E_30.1 (Nat.le_trans (Keep.of_wr W_38).1 (Nat.le_trans E_49.1 (Keep.of_wr W_57).1))))) (Nat.le_of_eq g_va.symm))))
  have f_150 := (((((((((((((P19.keep K_8 nin0).other W_15 P20).ext E_30).other W_38 P20).ext E_49).other W_57 P20).ext E_68).other W_76 P20).ext E_87).keep K_98 (ninS ne_147 nin0)).other W_109 P20).keep K_126 (ninS ne_148 nin0)).keep K_138 (ninS ne_149 nin0))
  refine K.iald d20_89 (w':=90) rfl f_150 (i := 2) rfl rfl ?_
  refine K.istore d20_90 (w':=92) rfl (L' := #[vr a, vr i, vr b, vr o, vi 3, vi 2, vi o2, un]) rfl ?_
  refine K.aloadN d20_92 (w':=93) rfl rfl rfl ?_
  have f_151 := (((((((((((((P11.keep K_8).wr W_15).ext E_30).wr W_38).ext E_49).wr W_57).ext E_68).wr W_76).ext E_87).keep K_98).wr W_109).keep K_126).keep K_138)
  have ne_152 := (Nat.ne_of_lt (Nat.lt_of_lt_of_le P11.lt (Nat.le_trans (Nat.le_trans K_8.1 (Nat.le_trans (Keep.of_wr W_15).1 (Nat.le_trans E_30.1 (Nat.le_trans (Keep.of_wr W_38).1 (Nat.le_trans E_49.1 (Nat.le_trans (Keep.of_wr W_57).1 (Nat.le_trans E_68.1 (Keep.of_wr W_76).1))))))) (Nat.le_of_eq g_ba.symm))))
  have ne_153 := (Nat.ne_of_lt (Nat.lt_of_lt_of_le P11.lt (Nat.le_trans (Nat.le_trans K_8.1 (Keep.of_wr W_15).1) (Nat.le_of_eq g_fa.symm))))
  have ne_154 := (Nat.ne_of_lt (Nat.lt_of_lt_of_le P11.lt (Nat.le_trans (Nat.le_trans K_8.1 (Nat.le_trans (Keep.of_wr W_15).1 (Nat.le_trans E_30.1 (Nat.le_trans (Keep.of_wr W_38).1 (Nat.le_trans E_49.1 (Keep.of_wr W_57).1))))) (Nat.le_of_eq g_va.symm))))
  have f_155 := (((((((((((((P22.keep K_8 nin0).other W_15 (Or.inl P12)).ext E_30).other W_38 (Or.inl P12)).ext E_49).other W_57 (Or.inl P12)).ext E_68).other W_76 (Or.inl P12)).ext E_87).keep K_98 (ninS ne_152 nin0)).other W_109 (Or.inl P12)).keep K_126 (ninS ne_153 nin0)).keep K_138 (ninS ne_154 nin0))
  refine K.callv (z := (⟨sI, "coldStart", "()Z"⟩ : MethodName)) (argsL := []) (rest := []) d20_93 (w':=96) rfl (c_csw l Z a0 hw n0 h_134 (i := i) (s := s) f_151 f_155) f_151 hw174 hw175 (nf_sel hw177 rfl) hw177 hw176 hw11 hw178 (by decide) pd_21 rfl rfl (W := 0) (Nat.le_refl _) (by decide) (by decide) (by decide) (by decide) (fun v_158 h_156 q_157 => ?_)
  obtain ⟨rfl, rfl⟩ := q_157
  show G h_134 6 20 (mkF m 96 #[vr a, vr i, vr b, vr o, vi 3, vi 2, vi o2, un] [(.int (b2 (False)))])
  refine K.ifeqB d20_96 (pc1 := 99) rfl (by decide) (pc2 := 111) (by decide) (fun c96 => ?_) (fun c96 => ?_)
  ·refine K.aloadN d20_111 (w':=112) rfl rfl rfl ?_
   have f_160 := ((f_114.keep K_126 (ninS (Ne.symm ne_119) nin0)).keep K_138 (ninS (Ne.symm ne_130) nin0))
   refine K.getL d20_112 (w':=115) rfl hw140 f_160 ?_
   refine K.iload d20_115 (w':=117) rfl rfl ?_
   have ne_161 := (Nat.ne_of_lt (Nat.lt_of_lt_of_le f_11.lt (Nat.le_trans (Nat.le_trans (Keep.of_wr W_15).1 (Nat.le_trans E_30.1 (Nat.le_trans (Keep.of_wr W_38).1 (Nat.le_trans E_49.1 (Nat.le_trans (Keep.of_wr W_57).1 (Nat.le_trans E_68.1 (Keep.of_wr W_76).1)))))) (Nat.le_of_eq g_ba.symm))))
   have ne_162 := (Nat.ne_of_lt (Nat.lt_of_lt_of_le f_11.lt (Nat.le_trans (Keep.of_wr W_15).1 (Nat.le_of_eq g_fa.symm))))
   have ne_163 := (Nat.ne_of_lt (Nat.lt_of_lt_of_le f_11.lt (Nat.le_trans (Nat.le_trans (Keep.of_wr W_15).1 (Nat.le_trans E_30.1 (Nat.le_trans (Keep.of_wr W_38).1 (Nat.le_trans E_49.1 (Keep.of_wr W_57).1)))) (Nat.le_of_eq g_va.symm))))
   have f_164 := (((((((((((A_27.ext E_30).other W_38 ne_25).ext E_49).other W_57 ne_25).ext E_68).other W_76 ne_25).ext E_87).keep K_98 (ninS ne_161 nin0)).other W_109 ne_25).keep K_126 (ninS ne_162 nin0)).keep K_138 (ninS ne_163 nin0))
   obtain ⟨q2, hq2⟩ : ∃ z, s3 o2 p0 p1 p2 = z := ⟨_, rfl⟩
   have hb2 : 0 ≤ q2.toInt ∧ q2.toInt < ds.length := by rw [← hq2]; unfold s3; (repeat' split) <;> omega
   refine K.iald d20_117 (w':=118) rfl f_164 (i := o2.toInt.toNat) (by omega) (v := (.int q2)) (mget (by rw [← hq2]; exact s3_get (by omega))) ?_
   refine K.istore d20_118 (w':=120) rfl (L' := #[vr a, vr i, vr b, vr o, vi 3, vi 2, vi o2, vi q2]) rfl ?_
   refine K.aloadN d20_120 (w':=121) rfl rfl rfl ?_
   have f_165 := ((f_116.keep K_126 (ninS (Ne.symm ne_119) nin0)).keep K_138 (ninS (Ne.symm ne_130) nin0))
   refine K.getL d20_121 (w':=124) rfl hw144 f_165 ?_
   refine K.iload d20_124 (w':=126) rfl rfl ?_
   refine K.aloadN d20_126 (w':=127) rfl rfl rfl ?_
   have f_166 := ((f_115.keep K_126 (ninS (Ne.symm ne_119) nin0)).keep K_138 (ninS (Ne.symm ne_130) nin0))
   refine K.getL d20_127 (w':=130) rfl hw142 f_166 ?_
   refine K.iload d20_130 (w':=132) rfl rfl ?_
   have f_167 := (A_128.keep K_138 (ninS (Ne.symm ne_132) nin0))
   refine K.iald d20_132 (w':=133) rfl f_167 (i := q2.toInt.toNat) (by omega) (v := (.int (-1))) (mget (rep_get (by omega))) ?_
   refine K.iast d20_133 (w':=134) rfl A_146 (i := o2.toInt.toNat) (by omega) (by simp [-Int32.toNat_toInt]; omega) ge_na (fun h_168 W_169 A_170 => ?_)
   have A_171 : Ary Z h_168 na .int ((([0, 0, 0] : List Int32).set o2.toInt.toNat (-1)).map Value.int) := (by have q := A_170; rw [← List.map_set] at q; exact q)
   refine K.aloadN d20_134 (w':=135) rfl rfl rfl ?_
   have f_172 := (f_166.other W_169 (Or.inl (Ne.symm ne_141)))
   refine K.getL d20_135 (w':=138) rfl hw142 f_172 ?_
   refine K.iload d20_138 (w':=140) rfl rfl ?_
   have f_173 := (f_167.other W_169 (Ne.symm ne_143))
   refine K.iald d20_140 (w':=141) rfl f_173 (i := q2.toInt.toNat) (by omega) (v := (.int (-1))) (mget (rep_get (by omega))) ?_
   refine K.iconst d20_141 (w':=142) rfl (z := -1) rfl ?_
   refine K.icmp_eq d20_142 (pc1 := 145) rfl (by decide) (pc2 := 173) (by decide) (a := (-1)) (b := (-1)) rfl rfl (fun c142 => ?_) (fun c142 => ?_)
   ·refine K.aloadN d20_173 (w':=174) rfl rfl rfl ?_
    refine K.getL d20_174 (w':=177) rfl hw142 f_172 ?_
    refine K.iload d20_177 (w':=179) rfl rfl ?_
    refine K.iload d20_179 (w':=181) rfl rfl ?_
    refine K.iast d20_181 (w':=182) rfl f_173 (i := q2.toInt.toNat) (by omega) (by simp [-Int32.toNat_toInt]; omega) ge_fa (fun h_174 W_175 A_176 => ?_)
    have A_177 : Ary Z h_174 fa .int (((List.replicate (ds.length + 3) (-1)).set q2.toInt.toNat o2).map Value.int) := (by have q := A_176; rw [← List.map_set] at q; exact q)
    refine K.iinc d20_182 (w':=185) rfl rfl (z := (1 : Int32)) rfl (L' := #[vr a, vr i, vr b, vr o, vi 3, vi 1, vi o2, vi q2]) rfl ?_
    refine K.goto d20_185 (by decide) (w':=81) (by decide) ?_
    refine K.iload d20_81 (w':=83) rfl rfl ?_
    refine K.if_lt d20_83 (pc1 := 86) rfl (by decide) (pc2 := 188) (by decide) (a := 1) rfl (fun c83_1 => ?_) (fun c83_1 => ?_)
    ·exfalso; omega
    ·refine K.aloadN d20_86 (w':=87) rfl rfl rfl ?_
     refine K.iload d20_87 (w':=89) rfl rfl ?_
     have ne_178 := (Nat.ne_of_lt (Nat.lt_of_lt_of_le P19.lt (Nat.le_trans (Nat.le_trans K_8.1 (Nat.le_trans (Keep.of_wr W_15).1 (Nat.le_trans E_30.1 (Keep.of_wr W_38).1))) (Nat.le_of_eq g_na.symm))))
     have f_179 := ((f_150.other W_169 ne_178).other W_175 ne_148)
     refine K.iald d20_89 (w':=90) rfl f_179 (i := 1) rfl rfl ?_
     refine K.istore d20_90 (w':=92) rfl (L' := #[vr a, vr i, vr b, vr o, vi 3, vi 1, vi o1, vi q2]) rfl ?_
     refine K.aloadN d20_92 (w':=93) rfl rfl rfl ?_
     have f_180 := ((f_151.wr W_169).wr W_175)
     have ne_181 := (Nat.ne_of_lt (Nat.lt_of_lt_of_le P11.lt (Nat.le_trans (Nat.le_trans K_8.1 (Nat.le_trans (Keep.of_wr W_15).1 (Nat.le_trans E_30.1 (Keep.of_wr W_38).1))) (Nat.le_of_eq g_na.symm))))
     have f_182 := ((f_155.other W_169 (Or.inl ne_181)).other W_175 (Or.inl ne_153))
     refine K.callv (z := (⟨sI, "coldStart", "()Z"⟩ : MethodName)) (argsL := []) (rest := []) d20_93 (w':=96) rfl (c_csw l Z a0 hw n0 h_174 (i := i) (s := s) f_180 f_182) f_180 hw174 hw175 (nf_sel hw177 rfl) hw177 hw176 hw11 hw178 (by decide) pd_21 rfl rfl (W := 0) (Nat.le_refl _) (by decide) (by decide) (by decide) (by decide) (fun v_185 h_183 q_184 => ?_)
     obtain ⟨rfl, rfl⟩ := q_184
     show G h_174 6 20 (mkF m 96 #[vr a, vr i, vr b, vr o, vi 3, vi 1, vi o1, vi q2] [(.int (b2 (False)))])
     refine K.ifeqB d20_96 (pc1 := 99) rfl (by decide) (pc2 := 111) (by decide) (fun c96_1 => ?_) (fun c96_1 => ?_)
     ·refine K.aloadN d20_111 (w':=112) rfl rfl rfl ?_
      have f_187 := ((f_160.other W_169 (Or.inl (Ne.symm ne_141))).other W_175 (Or.inl (Ne.symm ne_119)))
      refine K.getL d20_112 (w':=115) rfl hw140 f_187 ?_
      refine K.iload d20_115 (w':=117) rfl rfl ?_
      have ne_188 := (Nat.ne_of_lt (Nat.lt_of_lt_of_le f_11.lt (Nat.le_trans (Nat.le_trans (Keep.of_wr W_15).1 (Nat.le_trans E_30.1 (Keep.of_wr W_38).1)) (Nat.le_of_eq g_na.symm))))
      have f_189 := ((f_164.other W_169 ne_188).other W_175 ne_162)
      obtain ⟨q1, hq1⟩ : ∃ z, s3 o1 p0 p1 p2 = z := ⟨_, rfl⟩
      have hb1 : 0 ≤ q1.toInt ∧ q1.toInt < ds.length := by rw [← hq1]; unfold s3; (repeat' split) <;> omega
      refine K.iald d20_117 (w':=118) rfl f_189 (i := o1.toInt.toNat) (by omega) (v := (.int q1)) (mget (by rw [← hq1]; exact s3_get (by omega))) ?_
      by_cases e12 : q1.toInt = q2.toInt
      ·refine K.istore d20_118 (w':=120) rfl (L' := #[vr a, vr i, vr b, vr o, vi 3, vi 1, vi o1, vi q1]) rfl ?_
       refine K.aloadN d20_120 (w':=121) rfl rfl rfl ?_
       have f_190 := ((f_165.other W_169 (Or.inl (Ne.symm ne_141))).other W_175 (Or.inl (Ne.symm ne_119)))
       refine K.getL d20_121 (w':=124) rfl hw144 f_190 ?_
       refine K.iload d20_124 (w':=126) rfl rfl ?_
       refine K.aloadN d20_126 (w':=127) rfl rfl rfl ?_
       have f_191 := (f_172.other W_175 (Or.inl (Ne.symm ne_119)))
       refine K.getL d20_127 (w':=130) rfl hw142 f_191 ?_
       refine K.iload d20_130 (w':=132) rfl rfl ?_
       refine K.iald d20_132 (w':=133) rfl A_177 (i := q1.toInt.toNat) (by omega) (v := (.int o2)) (mget (by rw [e12]; exact set_eq (by simp [-Int32.toNat_toInt]; omega))) ?_
       have f_192 := (A_171.other W_175 ne_143)
       refine K.iast d20_133 (w':=134) rfl f_192 (i := o1.toInt.toNat) (by omega) (by simp [-Int32.toNat_toInt]; omega) ge_na (fun h_193 W_194 A_195 => ?_)
       have A_196 : Ary Z h_193 na .int (((([0, 0, 0] : List Int32).set o2.toInt.toNat (-1)).set o1.toInt.toNat o2).map Value.int) := (by have q := A_195; rw [← List.map_set] at q; exact q)
       refine K.aloadN d20_134 (w':=135) rfl rfl rfl ?_
       have f_197 := (f_191.other W_194 (Or.inl (Ne.symm ne_141)))
       refine K.getL d20_135 (w':=138) rfl hw142 f_197 ?_
       refine K.iload d20_138 (w':=140) rfl rfl ?_
       have f_198 := (A_177.other W_194 (Ne.symm ne_143))
       refine K.iald d20_140 (w':=141) rfl f_198 (i := q1.toInt.toNat) (by omega) (v := (.int o2)) (mget (by rw [e12]; exact set_eq (by simp [-Int32.toNat_toInt]; omega))) ?_
       refine K.iconst d20_141 (w':=142) rfl (z := -1) rfl ?_
       refine K.icmp_eq d20_142 (pc1 := 145) rfl (by decide) (pc2 := 173) (by decide) (a := o2.toInt) (b := (-1)) rfl rfl (fun c142_1 => ?_) (fun c142_1 => ?_)
       ·exfalso; omega
       ·refine K.aloadN d20_145 (w':=146) rfl rfl rfl ?_
        have f_199 := ((((f_129.keep K_138 (ninS (Ne.symm ne_130) nin0)).other W_169 (Or.inl (Ne.symm ne_141))).other W_175 (Or.inl (Ne.symm ne_119))).other W_194 (Or.inl (Ne.symm ne_141)))
        refine K.getL d20_146 (w':=149) rfl hw146 f_199 ?_
        refine K.aloadN d20_149 (w':=150) rfl rfl rfl ?_
        refine K.getL d20_150 (w':=153) rfl hw142 f_197 ?_
        refine K.iload d20_153 (w':=155) rfl rfl ?_
        refine K.iald d20_155 (w':=156) rfl f_198 (i := q1.toInt.toNat) (by omega) (v := (.int o2)) (mget (by rw [e12]; exact set_eq (by simp [-Int32.toNat_toInt]; omega))) ?_
        refine K.iload d20_156 (w':=158) rfl rfl ?_
        have f_200 := (((A_140.other W_169 (Ne.symm ne_144)).other W_175 ne_132).other W_194 (Ne.symm ne_144))
        refine K.iast d20_158 (w':=159) rfl f_200 (i := o2.toInt.toNat) (by omega) (by simp [-Int32.toNat_toInt]; omega) ge_va (fun h_201 W_202 A_203 => ?_)
        have A_204 : Ary Z h_201 va .int ((([-1, -1, -1] : List Int32).set o2.toInt.toNat o1).map Value.int) := (by have q := A_203; rw [← List.map_set] at q; exact q)
        refine K.aloadN d20_159 (w':=160) rfl rfl rfl ?_
        have f_205 := ((((((f_118.keep K_126 (ninS (Ne.symm ne_119) nin0)).keep K_138 (ninS (Ne.symm ne_130) nin0)).other W_169 (Or.inl (Ne.symm ne_141))).other W_175 (Or.inl (Ne.symm ne_119))).other W_194 (Or.inl (Ne.symm ne_141))).other W_202 (Or.inl (Ne.symm ne_130)))
        refine K.getL d20_160 (w':=163) rfl hw169 f_205 ?_
        refine K.aloadN d20_163 (w':=164) rfl rfl rfl ?_
        have f_206 := (f_197.other W_202 (Or.inl (Ne.symm ne_130)))
        refine K.getL d20_164 (w':=167) rfl hw142 f_206 ?_
        refine K.iload d20_167 (w':=169) rfl rfl ?_
        have f_207 := (f_198.other W_202 (Ne.symm ne_132))
        refine K.iald d20_169 (w':=170) rfl f_207 (i := q1.toInt.toNat) (by omega) (v := (.int o2)) (mget (by rw [e12]; exact set_eq (by simp [-Int32.toNat_toInt]; omega))) ?_
        have f_208 := ((((((((x_ba.keep K_98).wr W_109).keep K_126).keep K_138).wr W_169).wr W_175).wr W_194).wr W_202)
        have f_209 := (((((((f_101.other W_109 (Or.inl (Ne.symm ne_105))).keep K_126 (ninS (Ne.symm ne_120) nin0)).keep K_138 (ninS (Ne.symm ne_131) nin0)).other W_169 (Or.inl (Ne.symm ne_142))).other W_175 (Or.inl (Ne.symm ne_120))).other W_194 (Or.inl (Ne.symm ne_142))).other W_202 (Or.inl (Ne.symm ne_131)))
        have f_210 := (((((((f_102.other W_109 (Or.inl (Ne.symm ne_105))).keep K_126 (ninS (Ne.symm ne_120) nin0)).keep K_138 (ninS (Ne.symm ne_131) nin0)).other W_169 (Or.inl (Ne.symm ne_142))).other W_175 (Or.inl (Ne.symm ne_120))).other W_194 (Or.inl (Ne.symm ne_142))).other W_202 (Or.inl (Ne.symm ne_131)))
        have f_211 := (((((((((((((((((P2.keep K_8 all0).wr W_15 P5).ext E_30).wr W_38 P5).ext E_49).wr W_57 P5).ext E_68).wr W_76 P5).ext E_87).keep K_98 (allS ge_ba all0)).wr W_109 P5).keep K_126 (allS ge_fa all0)).keep K_138 (allS ge_va all0)).wr W_169 ge_na).wr W_175 ge_fa).wr W_194 ge_na).wr W_202 ge_va)
        have ne_212 := (Nat.ne_of_lt (Nat.lt_of_lt_of_le x_ba.lt (Nat.le_trans (Nat.le_refl _) f_99)))
        have ne_213 := (Ne.symm (Nat.ne_of_lt (Nat.lt_of_lt_of_le P4.lt (Nat.le_trans (Nat.le_trans K_8.1 (Nat.le_trans (Keep.of_wr W_15).1 (Nat.le_trans E_30.1 (Nat.le_trans (Keep.of_wr W_38).1 (Nat.le_trans E_49.1 (Nat.le_trans (Keep.of_wr W_57).1 (Nat.le_trans E_68.1 (Nat.le_trans (Keep.of_wr W_76).1 E_87.1)))))))) f_99))))
        have ne_214 := (Ne.symm (Nat.ne_of_lt (Nat.lt_of_lt_of_le x_fa.lt (Nat.le_trans (Nat.le_trans (Keep.of_wr W_38).1 (Nat.le_trans E_49.1 (Nat.le_trans (Keep.of_wr W_57).1 (Nat.le_trans E_68.1 (Nat.le_trans (Keep.of_wr W_76).1 E_87.1))))) f_99))))
        have ne_215 := (Ne.symm (Nat.ne_of_lt (Nat.lt_of_lt_of_le x_va.lt (Nat.le_trans (Nat.le_trans (Keep.of_wr W_76).1 E_87.1) f_99))))
        have ne_216 := (Ne.symm (Nat.ne_of_lt (Nat.lt_of_lt_of_le x_na.lt (Nat.le_trans (Nat.le_trans (Keep.of_wr W_57).1 (Nat.le_trans E_68.1 (Nat.le_trans (Keep.of_wr W_76).1 E_87.1))) f_99))))
        have f_217 := (((((((f_103.other W_109 ne_213).keep K_126 (ninS ne_214 nin0)).keep K_138 (ninS ne_215 nin0)).other W_169 ne_216).other W_175 ne_214).other W_194 ne_216).other W_202 ne_215)
        refine K.callv (z := (⟨sB, "set", "(I)V"⟩ : MethodName)) (argsL := [(.int o2)]) (rest := []) d20_170 (w':=173) rfl (c_bs_ l Z a0 hw n0 h_201 (b := ba) (w := wa) (u := (0 : Int32)) (x := (0 : Int64)) (i := o2) f_211 P3 f_208 ge_ba f_100 ne_212 f_209 f_210 f_217 (by first | decide | omega) (by omega)) f_208 hw179 hw180 (nf_sel hw182 rfl) hw182 hw181 hw150 hw183 (by decide) pd_16 rfl rfl (W := 0) (Nat.le_refl _) (by decide) (by decide) (by decide) (by decide) (fun v_220 h_218 q_219 => ?_)
        obtain ⟨u1_222, x1_223, rfl, K_224, f_225, f_226, f_227, hu1_w_221⟩ := q_219
        show G h_218 6 20 (mkF m 173 #[vr a, vr i, vr b, vr o, vi 3, vi 1, vi o1, vi q1] [])
        refine K.aloadN d20_173 (w':=174) rfl rfl rfl ?_
        have f_228 := (f_206.keep K_224 (ninS ne_105 (ninS (Ne.symm ne_213) nin0)))
        refine K.getL d20_174 (w':=177) rfl hw142 f_228 ?_
        refine K.iload d20_177 (w':=179) rfl rfl ?_
        refine K.iload d20_179 (w':=181) rfl rfl ?_
        have f_229 := (f_207.keep K_224 (ninS ne_120 (ninS (Ne.symm ne_214) nin0)))
        refine K.iast d20_181 (w':=182) rfl f_229 (i := q1.toInt.toNat) (by omega) (by simp [-Int32.toNat_toInt]; omega) ge_fa (fun h_230 W_231 A_232 => ?_)
        have A_233 : Ary Z h_230 fa .int ((((List.replicate (ds.length + 3) (-1)).set q2.toInt.toNat o2).set q1.toInt.toNat o1).map Value.int) := (by have q := A_232; rw [← List.map_set] at q; exact q)
        refine K.iinc d20_182 (w':=185) rfl rfl (z := (0 : Int32)) rfl (L' := #[vr a, vr i, vr b, vr o, vi 3, vi 0, vi o1, vi q1]) rfl ?_
        refine K.goto d20_185 (by decide) (w':=81) (by decide) ?_
        refine K.iload d20_81 (w':=83) rfl rfl ?_
        refine K.if_lt d20_83 (pc1 := 86) rfl (by decide) (pc2 := 188) (by decide) (a := 0) rfl (fun c83_2 => ?_) (fun c83_2 => ?_)
        ·exfalso; omega
        ·refine K.aloadN d20_86 (w':=87) rfl rfl rfl ?_
         refine K.iload d20_87 (w':=89) rfl rfl ?_
         have ne_234 := (Nat.ne_of_lt (Nat.lt_of_lt_of_le P19.lt (Nat.le_trans (Nat.le_trans K_8.1 (Nat.le_trans (Keep.of_wr W_15).1 (Nat.le_trans E_30.1 (Nat.le_trans (Keep.of_wr W_38).1 (Nat.le_trans E_49.1 (Nat.le_trans (Keep.of_wr W_57).1 (Nat.le_trans E_68.1 (Nat.le_trans (Keep.of_wr W_76).1 E_87.1)))))))) f_99)))
         have f_235 := ((((f_179.other W_194 ne_178).other W_202 ne_149).keep K_224 (ninS ne_147 (ninS ne_234 nin0))).other W_231 ne_148)
         refine K.iald d20_89 (w':=90) rfl f_235 (i := 0) rfl rfl ?_
         refine K.istore d20_90 (w':=92) rfl (L' := #[vr a, vr i, vr b, vr o, vi 3, vi 0, vi o0, vi q1]) rfl ?_
         refine K.aloadN d20_92 (w':=93) rfl rfl rfl ?_
         have f_236 := ((((f_180.wr W_194).wr W_202).keep K_224).wr W_231)
         have ne_237 := (Nat.ne_of_lt (Nat.lt_of_lt_of_le P11.lt (Nat.le_trans (Nat.le_trans K_8.1 (Nat.le_trans (Keep.of_wr W_15).1 (Nat.le_trans E_30.1 (Nat.le_trans (Keep.of_wr W_38).1 (Nat.le_trans E_49.1 (Nat.le_trans (Keep.of_wr W_57).1 (Nat.le_trans E_68.1 (Nat.le_trans (Keep.of_wr W_76).1 E_87.1)))))))) f_99)))
         have f_238 := ((((f_182.other W_194 (Or.inl ne_181)).other W_202 (Or.inl ne_154)).keep K_224 (ninS ne_152 (ninS ne_237 nin0))).other W_231 (Or.inl ne_153))
         refine K.callv (z := (⟨sI, "coldStart", "()Z"⟩ : MethodName)) (argsL := []) (rest := []) d20_93 (w':=96) rfl (c_csw l Z a0 hw n0 h_230 (i := i) (s := s) f_236 f_238) f_236 hw174 hw175 (nf_sel hw177 rfl) hw177 hw176 hw11 hw178 (by decide) pd_21 rfl rfl (W := 0) (Nat.le_refl _) (by decide) (by decide) (by decide) (by decide) (fun v_241 h_239 q_240 => ?_)
         obtain ⟨rfl, rfl⟩ := q_240
         show G h_230 6 20 (mkF m 96 #[vr a, vr i, vr b, vr o, vi 3, vi 0, vi o0, vi q1] [(.int (b2 (False)))])
         refine K.ifeqB d20_96 (pc1 := 99) rfl (by decide) (pc2 := 111) (by decide) (fun c96_2 => ?_) (fun c96_2 => ?_)
         ·refine K.aloadN d20_111 (w':=112) rfl rfl rfl ?_
          have f_243 := ((((f_187.other W_194 (Or.inl (Ne.symm ne_141))).other W_202 (Or.inl (Ne.symm ne_130))).keep K_224 (ninS ne_105 (ninS (Ne.symm ne_213) nin0))).other W_231 (Or.inl (Ne.symm ne_119)))
          refine K.getL d20_112 (w':=115) rfl hw140 f_243 ?_
          refine K.iload d20_115 (w':=117) rfl rfl ?_
          have ne_244 := (Nat.ne_of_lt (Nat.lt_of_lt_of_le f_11.lt (Nat.le_trans (Nat.le_trans (Keep.of_wr W_15).1 (Nat.le_trans E_30.1 (Nat.le_trans (Keep.of_wr W_38).1 (Nat.le_trans E_49.1 (Nat.le_trans (Keep.of_wr W_57).1 (Nat.le_trans E_68.1 (Nat.le_trans (Keep.of_wr W_76).1 E_87.1))))))) f_99)))
          have f_245 := ((((f_189.other W_194 ne_188).other W_202 ne_163).keep K_224 (ninS ne_161 (ninS ne_244 nin0))).other W_231 ne_162)
          obtain ⟨q0, hq0⟩ : ∃ z, s3 o0 p0 p1 p2 = z := ⟨_, rfl⟩
          have hb0 : 0 ≤ q0.toInt ∧ q0.toInt < ds.length := by rw [← hq0]; unfold s3; (repeat' split) <;> omega
          refine K.iald d20_117 (w':=118) rfl f_245 (i := o0.toInt.toNat) (by omega) (v := (.int q0)) (mget (by rw [← hq0]; exact s3_get (by omega))) ?_
          by_cases e01 : q0.toInt = q1.toInt
          ·refine K.istore d20_118 (w':=120) rfl (L' := #[vr a, vr i, vr b, vr o, vi 3, vi 0, vi o0, vi q0]) rfl ?_
           refine K.aloadN d20_120 (w':=121) rfl rfl rfl ?_
           have f_246 := ((((f_190.other W_194 (Or.inl (Ne.symm ne_141))).other W_202 (Or.inl (Ne.symm ne_130))).keep K_224 (ninS ne_105 (ninS (Ne.symm ne_213) nin0))).other W_231 (Or.inl (Ne.symm ne_119)))
           refine K.getL d20_121 (w':=124) rfl hw144 f_246 ?_
           refine K.iload d20_124 (w':=126) rfl rfl ?_
           refine K.aloadN d20_126 (w':=127) rfl rfl rfl ?_
           have f_247 := (f_228.other W_231 (Or.inl (Ne.symm ne_119)))
           refine K.getL d20_127 (w':=130) rfl hw142 f_247 ?_
           refine K.iload d20_130 (w':=132) rfl rfl ?_
           refine K.iald d20_132 (w':=133) rfl A_233 (i := q0.toInt.toNat) (by omega) (v := (.int o1)) (mget (by rw [e01]; exact set_eq (by simp [-Int32.toNat_toInt]; omega))) ?_
           have f_248 := (((A_196.other W_202 ne_144).keep K_224 (ninS ne_142 (ninS (Ne.symm ne_216) nin0))).other W_231 ne_143)
           refine K.iast d20_133 (w':=134) rfl f_248 (i := o0.toInt.toNat) (by omega) (by simp [-Int32.toNat_toInt]; omega) ge_na (fun h_249 W_250 A_251 => ?_)
           have A_252 : Ary Z h_249 na .int ((((([0, 0, 0] : List Int32).set o2.toInt.toNat (-1)).set o1.toInt.toNat o2).set o0.toInt.toNat o1).map Value.int) := (by have q := A_251; rw [← List.map_set] at q; exact q)
           refine K.aloadN d20_134 (w':=135) rfl rfl rfl ?_
           have f_253 := (f_247.other W_250 (Or.inl (Ne.symm ne_141)))
           refine K.getL d20_135 (w':=138) rfl hw142 f_253 ?_
           refine K.iload d20_138 (w':=140) rfl rfl ?_
           have f_254 := (A_233.other W_250 (Ne.symm ne_143))
           refine K.iald d20_140 (w':=141) rfl f_254 (i := q0.toInt.toNat) (by omega) (v := (.int o1)) (mget (by rw [e01]; exact set_eq (by simp [-Int32.toNat_toInt]; omega))) ?_
           refine K.iconst d20_141 (w':=142) rfl (z := -1) rfl ?_
           refine K.icmp_eq d20_142 (pc1 := 145) rfl (by decide) (pc2 := 173) (by decide) (a := o1.toInt) (b := (-1)) rfl rfl (fun c142_2 => ?_) (fun c142_2 => ?_)
           ·exfalso; omega
           ·refine K.aloadN d20_145 (w':=146) rfl rfl rfl ?_
            have f_255 := ((((f_199.other W_202 (Or.inl (Ne.symm ne_130))).keep K_224 (ninS ne_105 (ninS (Ne.symm ne_213) nin0))).other W_231 (Or.inl (Ne.symm ne_119))).other W_250 (Or.inl (Ne.symm ne_141)))
            refine K.getL d20_146 (w':=149) rfl hw146 f_255 ?_
            refine K.aloadN d20_149 (w':=150) rfl rfl rfl ?_
            refine K.getL d20_150 (w':=153) rfl hw142 f_253 ?_
            refine K.iload d20_153 (w':=155) rfl rfl ?_
            refine K.iald d20_155 (w':=156) rfl f_254 (i := q0.toInt.toNat) (by omega) (v := (.int o1)) (mget (by rw [e01]; exact set_eq (by simp [-Int32.toNat_toInt]; omega))) ?_
            refine K.iload d20_156 (w':=158) rfl rfl ?_
            have f_256 := (((A_204.keep K_224 (ninS ne_131 (ninS (Ne.symm ne_215) nin0))).other W_231 ne_132).other W_250 (Ne.symm ne_144))
            refine K.iast d20_158 (w':=159) rfl f_256 (i := o1.toInt.toNat) (by omega) (by simp [-Int32.toNat_toInt]; omega) ge_va (fun h_257 W_258 A_259 => ?_)
            have A_260 : Ary Z h_257 va .int (((([-1, -1, -1] : List Int32).set o2.toInt.toNat o1).set o1.toInt.toNat o0).map Value.int) := (by have q := A_259; rw [← List.map_set] at q; exact q)
            refine K.aloadN d20_159 (w':=160) rfl rfl rfl ?_
            have f_261 := ((((f_205.keep K_224 (ninS ne_105 (ninS (Ne.symm ne_213) nin0))).other W_231 (Or.inl (Ne.symm ne_119))).other W_250 (Or.inl (Ne.symm ne_141))).other W_258 (Or.inl (Ne.symm ne_130)))
            refine K.getL d20_160 (w':=163) rfl hw169 f_261 ?_
            refine K.aloadN d20_163 (w':=164) rfl rfl rfl ?_
            have f_262 := (f_253.other W_258 (Or.inl (Ne.symm ne_130)))
            refine K.getL d20_164 (w':=167) rfl hw142 f_262 ?_
            refine K.iload d20_167 (w':=169) rfl rfl ?_
            have f_263 := (f_254.other W_258 (Ne.symm ne_132))
            refine K.iald d20_169 (w':=170) rfl f_263 (i := q0.toInt.toNat) (by omega) (v := (.int o1)) (mget (by rw [e01]; exact set_eq (by simp [-Int32.toNat_toInt]; omega))) ?_
            have f_264 := ((((f_208.keep K_224).wr W_231).wr W_250).wr W_258)
            have f_265 := (((f_225.other W_231 (Or.inl (Ne.symm ne_120))).other W_250 (Or.inl (Ne.symm ne_142))).other W_258 (Or.inl (Ne.symm ne_131)))
            have f_266 := (((f_226.other W_231 (Or.inl (Ne.symm ne_120))).other W_250 (Or.inl (Ne.symm ne_142))).other W_258 (Or.inl (Ne.symm ne_131)))
            have f_267 := ((((f_211.keep K_224 (allS ge_ba (allS f_100 all0))).wr W_231 ge_fa).wr W_250 ge_na).wr W_258 ge_va)
            have f_268 := (((f_227.other W_231 ne_214).other W_250 ne_216).other W_258 ne_215)
            refine K.callv (z := (⟨sB, "set", "(I)V"⟩ : MethodName)) (argsL := [(.int o1)]) (rest := []) d20_170 (w':=173) rfl (c_bs_ l Z a0 hw n0 h_257 (b := ba) (w := wa) (u := u1_222) (x := x1_223) (i := o1) f_267 P3 f_264 ge_ba f_100 ne_212 f_265 f_266 f_268 (by first | decide | omega) (by omega)) f_264 hw179 hw180 (nf_sel hw182 rfl) hw182 hw181 hw150 hw183 (by decide) pd_16 rfl rfl (W := 0) (Nat.le_refl _) (by decide) (by decide) (by decide) (by decide) (fun v_271 h_269 q_270 => ?_)
            obtain ⟨u1_273, x1_274, rfl, K_275, f_276, f_277, f_278, hu1_w_272⟩ := q_270
            show G h_269 6 20 (mkF m 173 #[vr a, vr i, vr b, vr o, vi 3, vi 0, vi o0, vi q0] [])
            refine K.aloadN d20_173 (w':=174) rfl rfl rfl ?_
            have f_279 := (f_262.keep K_275 (ninS ne_105 (ninS (Ne.symm ne_213) nin0)))
            refine K.getL d20_174 (w':=177) rfl hw142 f_279 ?_
            refine K.iload d20_177 (w':=179) rfl rfl ?_
            refine K.iload d20_179 (w':=181) rfl rfl ?_
            have f_280 := (f_263.keep K_275 (ninS ne_120 (ninS (Ne.symm ne_214) nin0)))
            refine K.iast d20_181 (w':=182) rfl f_280 (i := q0.toInt.toNat) (by omega) (by simp [-Int32.toNat_toInt]; omega) ge_fa (fun h_281 W_282 A_283 => ?_)
            have A_284 : Ary Z h_281 fa .int (((((List.replicate (ds.length + 3) (-1)).set q2.toInt.toNat o2).set q1.toInt.toNat o1).set q0.toInt.toNat o0).map Value.int) := (by have q := A_283; rw [← List.map_set] at q; exact q)
            refine K.iinc d20_182 (w':=185) rfl rfl (z := (-1 : Int32)) rfl (L' := #[vr a, vr i, vr b, vr o, vi 3, vi (-1), vi o0, vi q0]) rfl ?_
            refine K.goto d20_185 (by decide) (w':=81) (by decide) ?_
            refine K.iload d20_81 (w':=83) rfl rfl ?_
            refine K.if_lt d20_83 (pc1 := 86) rfl (by decide) (pc2 := 188) (by decide) (a := (-1)) rfl (fun c83_3 => ?_) (fun c83_3 => ?_)
            ·have f_285 := (f_276.other W_282 (Or.inl (Ne.symm ne_120)))
             have f_286 := (f_277.other W_282 (Or.inl (Ne.symm ne_120)))
             have f_287 := (f_278.other W_282 ne_214)
             have f_288 := ((((f_243.other W_250 (Or.inl (Ne.symm ne_141))).other W_258 (Or.inl (Ne.symm ne_130))).keep K_275 (ninS ne_105 (ninS (Ne.symm ne_213) nin0))).other W_282 (Or.inl (Ne.symm ne_119)))
             have f_289 := (f_279.other W_282 (Or.inl (Ne.symm ne_119)))
             have f_290 := ((((f_246.other W_250 (Or.inl (Ne.symm ne_141))).other W_258 (Or.inl (Ne.symm ne_130))).keep K_275 (ninS ne_105 (ninS (Ne.symm ne_213) nin0))).other W_282 (Or.inl (Ne.symm ne_119)))
             have f_291 := (((f_255.other W_258 (Or.inl (Ne.symm ne_130))).keep K_275 (ninS ne_105 (ninS (Ne.symm ne_213) nin0))).other W_282 (Or.inl (Ne.symm ne_119)))
             have f_292 := ((f_261.keep K_275 (ninS ne_105 (ninS (Ne.symm ne_213) nin0))).other W_282 (Or.inl (Ne.symm ne_119)))
             have f_293 := ((((f_245.other W_250 ne_188).other W_258 ne_163).keep K_275 (ninS ne_161 (ninS ne_244 nin0))).other W_282 ne_162)
             have f_294 := (((A_252.other W_258 ne_144).keep K_275 (ninS ne_142 (ninS (Ne.symm ne_216) nin0))).other W_282 ne_143)
             have f_295 := ((A_260.keep K_275 (ninS ne_131 (ninS (Ne.symm ne_215) nin0))).other W_282 ne_132)
             have f_296 := ((f_264.keep K_275).wr W_282)
             exact K.ret0 d20_188 (by decide) (by decide) ⟨pa, fa, na, va, ba, wa, [p0, p1, p2], ((((List.replicate (ds.length + 3) (-1)).set q2.toInt.toNat o2).set q1.toInt.toNat o1).set q0.toInt.toNat o0), (((([0, 0, 0] : List Int32).set o2.toInt.toNat (-1)).set o1.toInt.toNat o2).set o0.toInt.toNat o1), ((([-1, -1, -1] : List Int32).set o2.toInt.toNat o1).set o1.toInt.toNat o0), u1_273, x1_274, p0, p1, p2, rfl, ((((((((((((((((((((((((Keep.refl h [a]).trans K_8 all0).wr W_15 (Or.inl (by simp))).ext E_30).wr W_38 (Or.inl (by simp))).ext E_49).wr W_57 (Or.inl (by simp))).ext E_68).wr W_76 (Or.inl (by simp))).ext E_87).trans K_98 (allS (Or.inr sb_ba) all0)).wr W_109 (Or.inl (by simp))).trans K_126 (allS (Or.inr sb_fa) all0)).trans K_138 (allS (Or.inr sb_va) all0)).wr W_169 (Or.inr sb_na)).wr W_175 (Or.inr sb_fa)).wr W_194 (Or.inr sb_na)).wr W_202 (Or.inr sb_va)).trans K_224 (allS (Or.inr sb_ba) (allS (Or.inr sb_wa) all0))).wr W_231 (Or.inr sb_fa)).wr W_250 (Or.inr sb_na)).wr W_258 (Or.inr sb_va)).trans K_275 (allS (Or.inr sb_ba) (allS (Or.inr sb_wa) all0))).wr W_282 (Or.inr sb_fa)), f_288, f_289, f_290, f_291, f_292, f_293, A_284, f_294, f_295, f_296, f_285, f_286, f_287, sb_pa, sb_fa, sb_na, sb_va, sb_ba, sb_wa, f_10, ge_fa, ge_na, ge_va, ge_ba, f_100, ne_162, ne_188, ne_163, ne_161, ne_244, (Ne.symm ne_143), (Ne.symm ne_132), ne_120, (Ne.symm ne_214), ne_144, ne_142, (Ne.symm ne_216), ne_131, (Ne.symm ne_215), ne_212, by first | decide | omega, by exact ⟨pi_C hpm hpp_b hq0 hq1 hq2 e12 e01, hpp_pa.1, hpp_pa.2.1, hpp_pa.2.2, rfl⟩⟩
            ·exfalso; omega
          ·refine K.istore d20_118 (w':=120) rfl (L' := #[vr a, vr i, vr b, vr o, vi 3, vi 0, vi o0, vi q0]) rfl ?_
           refine K.aloadN d20_120 (w':=121) rfl rfl rfl ?_
           have f_297 := ((((f_190.other W_194 (Or.inl (Ne.symm ne_141))).other W_202 (Or.inl (Ne.symm ne_130))).keep K_224 (ninS ne_105 (ninS (Ne.symm ne_213) nin0))).other W_231 (Or.inl (Ne.symm ne_119)))
           refine K.getL d20_121 (w':=124) rfl hw144 f_297 ?_
           refine K.iload d20_124 (w':=126) rfl rfl ?_
           refine K.aloadN d20_126 (w':=127) rfl rfl rfl ?_
           have f_298 := (f_228.other W_231 (Or.inl (Ne.symm ne_119)))
           refine K.getL d20_127 (w':=130) rfl hw142 f_298 ?_
           refine K.iload d20_130 (w':=132) rfl rfl ?_
           refine K.iald d20_132 (w':=133) rfl A_233 (i := q0.toInt.toNat) (by omega) (v := (.int (-1))) (mget (set_ne (set_ne (rep_get (by omega)) (by omega)) (by omega))) ?_
           have f_299 := (((A_196.other W_202 ne_144).keep K_224 (ninS ne_142 (ninS (Ne.symm ne_216) nin0))).other W_231 ne_143)
           refine K.iast d20_133 (w':=134) rfl f_299 (i := o0.toInt.toNat) (by omega) (by simp [-Int32.toNat_toInt]; omega) ge_na (fun h_300 W_301 A_302 => ?_)
           have A_303 : Ary Z h_300 na .int ((((([0, 0, 0] : List Int32).set o2.toInt.toNat (-1)).set o1.toInt.toNat o2).set o0.toInt.toNat (-1)).map Value.int) := (by have q := A_302; rw [← List.map_set] at q; exact q)
           refine K.aloadN d20_134 (w':=135) rfl rfl rfl ?_
           have f_304 := (f_298.other W_301 (Or.inl (Ne.symm ne_141)))
           refine K.getL d20_135 (w':=138) rfl hw142 f_304 ?_
           refine K.iload d20_138 (w':=140) rfl rfl ?_
           have f_305 := (A_233.other W_301 (Ne.symm ne_143))
           refine K.iald d20_140 (w':=141) rfl f_305 (i := q0.toInt.toNat) (by omega) (v := (.int (-1))) (mget (set_ne (set_ne (rep_get (by omega)) (by omega)) (by omega))) ?_
           refine K.iconst d20_141 (w':=142) rfl (z := -1) rfl ?_
           refine K.icmp_eq d20_142 (pc1 := 145) rfl (by decide) (pc2 := 173) (by decide) (a := (-1)) (b := (-1)) rfl rfl (fun c142_2 => ?_) (fun c142_2 => ?_)
           ·refine K.aloadN d20_173 (w':=174) rfl rfl rfl ?_
            refine K.getL d20_174 (w':=177) rfl hw142 f_304 ?_
            refine K.iload d20_177 (w':=179) rfl rfl ?_
            refine K.iload d20_179 (w':=181) rfl rfl ?_
            refine K.iast d20_181 (w':=182) rfl f_305 (i := q0.toInt.toNat) (by omega) (by simp [-Int32.toNat_toInt]; omega) ge_fa (fun h_306 W_307 A_308 => ?_)
            have A_309 : Ary Z h_306 fa .int (((((List.replicate (ds.length + 3) (-1)).set q2.toInt.toNat o2).set q1.toInt.toNat o1).set q0.toInt.toNat o0).map Value.int) := (by have q := A_308; rw [← List.map_set] at q; exact q)
            refine K.iinc d20_182 (w':=185) rfl rfl (z := (-1 : Int32)) rfl (L' := #[vr a, vr i, vr b, vr o, vi 3, vi (-1), vi o0, vi q0]) rfl ?_
            refine K.goto d20_185 (by decide) (w':=81) (by decide) ?_
            refine K.iload d20_81 (w':=83) rfl rfl ?_
            refine K.if_lt d20_83 (pc1 := 86) rfl (by decide) (pc2 := 188) (by decide) (a := (-1)) rfl (fun c83_3 => ?_) (fun c83_3 => ?_)
            ·have f_310 := (((f_225.other W_231 (Or.inl (Ne.symm ne_120))).other W_301 (Or.inl (Ne.symm ne_142))).other W_307 (Or.inl (Ne.symm ne_120)))
             have f_311 := (((f_226.other W_231 (Or.inl (Ne.symm ne_120))).other W_301 (Or.inl (Ne.symm ne_142))).other W_307 (Or.inl (Ne.symm ne_120)))
             have f_312 := (((f_227.other W_231 ne_214).other W_301 ne_216).other W_307 ne_214)
             have f_313 := ((f_243.other W_301 (Or.inl (Ne.symm ne_141))).other W_307 (Or.inl (Ne.symm ne_119)))
             have f_314 := (f_304.other W_307 (Or.inl (Ne.symm ne_119)))
             have f_315 := ((f_297.other W_301 (Or.inl (Ne.symm ne_141))).other W_307 (Or.inl (Ne.symm ne_119)))
             have f_316 := (((((f_199.other W_202 (Or.inl (Ne.symm ne_130))).keep K_224 (ninS ne_105 (ninS (Ne.symm ne_213) nin0))).other W_231 (Or.inl (Ne.symm ne_119))).other W_301 (Or.inl (Ne.symm ne_141))).other W_307 (Or.inl (Ne.symm ne_119)))
             have f_317 := ((((f_205.keep K_224 (ninS ne_105 (ninS (Ne.symm ne_213) nin0))).other W_231 (Or.inl (Ne.symm ne_119))).other W_301 (Or.inl (Ne.symm ne_141))).other W_307 (Or.inl (Ne.symm ne_119)))
             have f_318 := ((f_245.other W_301 ne_188).other W_307 ne_162)
             have f_319 := (A_303.other W_307 ne_143)
             have f_320 := ((((A_204.keep K_224 (ninS ne_131 (ninS (Ne.symm ne_215) nin0))).other W_231 ne_132).other W_301 (Ne.symm ne_144)).other W_307 ne_132)
             have f_321 := ((((f_208.keep K_224).wr W_231).wr W_301).wr W_307)
             exact K.ret0 d20_188 (by decide) (by decide) ⟨pa, fa, na, va, ba, wa, [p0, p1, p2], ((((List.replicate (ds.length + 3) (-1)).set q2.toInt.toNat o2).set q1.toInt.toNat o1).set q0.toInt.toNat o0), (((([0, 0, 0] : List Int32).set o2.toInt.toNat (-1)).set o1.toInt.toNat o2).set o0.toInt.toNat (-1)), (([-1, -1, -1] : List Int32).set o2.toInt.toNat o1), u1_222, x1_223, p0, p1, p2, rfl, ((((((((((((((((((((((Keep.refl h [a]).trans K_8 all0).wr W_15 (Or.inl (by simp))).ext E_30).wr W_38 (Or.inl (by simp))).ext E_49).wr W_57 (Or.inl (by simp))).ext E_68).wr W_76 (Or.inl (by simp))).ext E_87).trans K_98 (allS (Or.inr sb_ba) all0)).wr W_109 (Or.inl (by simp))).trans K_126 (allS (Or.inr sb_fa) all0)).trans K_138 (allS (Or.inr sb_va) all0)).wr W_169 (Or.inr sb_na)).wr W_175 (Or.inr sb_fa)).wr W_194 (Or.inr sb_na)).wr W_202 (Or.inr sb_va)).trans K_224 (allS (Or.inr sb_ba) (allS (Or.inr sb_wa) all0))).wr W_231 (Or.inr sb_fa)).wr W_301 (Or.inr sb_na)).wr W_307 (Or.inr sb_fa)), f_313, f_314, f_315, f_316, f_317, f_318, A_309, f_319, f_320, f_321, f_310, f_311, f_312, sb_pa, sb_fa, sb_na, sb_va, sb_ba, sb_wa, f_10, ge_fa, ge_na, ge_va, ge_ba, f_100, ne_162, ne_188, ne_163, ne_161, ne_244, (Ne.symm ne_143), (Ne.symm ne_132), ne_120, (Ne.symm ne_214), ne_144, ne_142, (Ne.symm ne_216), ne_131, (Ne.symm ne_215), ne_212, by first | decide | omega, by exact ⟨pi_B hpm hpp_b hq0 hq1 hq2 e12 e01, hpp_pa.1, hpp_pa.2.1, hpp_pa.2.2, rfl⟩⟩
            ·exfalso; omega
           ·exfalso; omega
         ·exfalso; exact c96_2
      ·refine K.istore d20_118 (w':=120) rfl (L' := #[vr a, vr i, vr b, vr o, vi 3, vi 1, vi o1, vi q1]) rfl ?_
       refine K.aloadN d20_120 (w':=121) rfl rfl rfl ?_
       have f_322 := ((f_165.other W_169 (Or.inl (Ne.symm ne_141))).other W_175 (Or.inl (Ne.symm ne_119)))
       refine K.getL d20_121 (w':=124) rfl hw144 f_322 ?_
       refine K.iload d20_124 (w':=126) rfl rfl ?_
       refine K.aloadN d20_126 (w':=127) rfl rfl rfl ?_
       have f_323 := (f_172.other W_175 (Or.inl (Ne.symm ne_119)))
       refine K.getL d20_127 (w':=130) rfl hw142 f_323 ?_
       refine K.iload d20_130 (w':=132) rfl rfl ?_
       refine K.iald d20_132 (w':=133) rfl A_177 (i := q1.toInt.toNat) (by omega) (v := (.int (-1))) (mget (set_ne (rep_get (by omega)) (by omega))) ?_
       have f_324 := (A_171.other W_175 ne_143)
       refine K.iast d20_133 (w':=134) rfl f_324 (i := o1.toInt.toNat) (by omega) (by simp [-Int32.toNat_toInt]; omega) ge_na (fun h_325 W_326 A_327 => ?_)
       have A_328 : Ary Z h_325 na .int (((([0, 0, 0] : List Int32).set o2.toInt.toNat (-1)).set o1.toInt.toNat (-1)).map Value.int) := (by have q := A_327; rw [← List.map_set] at q; exact q)
       refine K.aloadN d20_134 (w':=135) rfl rfl rfl ?_
       have f_329 := (f_323.other W_326 (Or.inl (Ne.symm ne_141)))
       refine K.getL d20_135 (w':=138) rfl hw142 f_329 ?_
       refine K.iload d20_138 (w':=140) rfl rfl ?_
       have f_330 := (A_177.other W_326 (Ne.symm ne_143))
       refine K.iald d20_140 (w':=141) rfl f_330 (i := q1.toInt.toNat) (by omega) (v := (.int (-1))) (mget (set_ne (rep_get (by omega)) (by omega))) ?_
       refine K.iconst d20_141 (w':=142) rfl (z := -1) rfl ?_
       refine K.icmp_eq d20_142 (pc1 := 145) rfl (by decide) (pc2 := 173) (by decide) (a := (-1)) (b := (-1)) rfl rfl (fun c142_1 => ?_) (fun c142_1 => ?_)
       ·refine K.aloadN d20_173 (w':=174) rfl rfl rfl ?_
        refine K.getL d20_174 (w':=177) rfl hw142 f_329 ?_
        refine K.iload d20_177 (w':=179) rfl rfl ?_
        refine K.iload d20_179 (w':=181) rfl rfl ?_
        refine K.iast d20_181 (w':=182) rfl f_330 (i := q1.toInt.toNat) (by omega) (by simp [-Int32.toNat_toInt]; omega) ge_fa (fun h_331 W_332 A_333 => ?_)
        have A_334 : Ary Z h_331 fa .int ((((List.replicate (ds.length + 3) (-1)).set q2.toInt.toNat o2).set q1.toInt.toNat o1).map Value.int) := (by have q := A_333; rw [← List.map_set] at q; exact q)
        refine K.iinc d20_182 (w':=185) rfl rfl (z := (0 : Int32)) rfl (L' := #[vr a, vr i, vr b, vr o, vi 3, vi 0, vi o1, vi q1]) rfl ?_
        refine K.goto d20_185 (by decide) (w':=81) (by decide) ?_
        refine K.iload d20_81 (w':=83) rfl rfl ?_
        refine K.if_lt d20_83 (pc1 := 86) rfl (by decide) (pc2 := 188) (by decide) (a := 0) rfl (fun c83_2 => ?_) (fun c83_2 => ?_)
        ·exfalso; omega
        ·refine K.aloadN d20_86 (w':=87) rfl rfl rfl ?_
         refine K.iload d20_87 (w':=89) rfl rfl ?_
         have f_335 := ((f_179.other W_326 ne_178).other W_332 ne_148)
         refine K.iald d20_89 (w':=90) rfl f_335 (i := 0) rfl rfl ?_
         refine K.istore d20_90 (w':=92) rfl (L' := #[vr a, vr i, vr b, vr o, vi 3, vi 0, vi o0, vi q1]) rfl ?_
         refine K.aloadN d20_92 (w':=93) rfl rfl rfl ?_
         have f_336 := ((f_180.wr W_326).wr W_332)
         have f_337 := ((f_182.other W_326 (Or.inl ne_181)).other W_332 (Or.inl ne_153))
         refine K.callv (z := (⟨sI, "coldStart", "()Z"⟩ : MethodName)) (argsL := []) (rest := []) d20_93 (w':=96) rfl (c_csw l Z a0 hw n0 h_331 (i := i) (s := s) f_336 f_337) f_336 hw174 hw175 (nf_sel hw177 rfl) hw177 hw176 hw11 hw178 (by decide) pd_21 rfl rfl (W := 0) (Nat.le_refl _) (by decide) (by decide) (by decide) (by decide) (fun v_340 h_338 q_339 => ?_)
         obtain ⟨rfl, rfl⟩ := q_339
         show G h_331 6 20 (mkF m 96 #[vr a, vr i, vr b, vr o, vi 3, vi 0, vi o0, vi q1] [(.int (b2 (False)))])
         refine K.ifeqB d20_96 (pc1 := 99) rfl (by decide) (pc2 := 111) (by decide) (fun c96_2 => ?_) (fun c96_2 => ?_)
         ·refine K.aloadN d20_111 (w':=112) rfl rfl rfl ?_
          have f_342 := ((f_187.other W_326 (Or.inl (Ne.symm ne_141))).other W_332 (Or.inl (Ne.symm ne_119)))
          refine K.getL d20_112 (w':=115) rfl hw140 f_342 ?_
          refine K.iload d20_115 (w':=117) rfl rfl ?_
          have f_343 := ((f_189.other W_326 ne_188).other W_332 ne_162)
          obtain ⟨q0, hq0⟩ : ∃ z, s3 o0 p0 p1 p2 = z := ⟨_, rfl⟩
          have hb0 : 0 ≤ q0.toInt ∧ q0.toInt < ds.length := by rw [← hq0]; unfold s3; (repeat' split) <;> omega
          refine K.iald d20_117 (w':=118) rfl f_343 (i := o0.toInt.toNat) (by omega) (v := (.int q0)) (mget (by rw [← hq0]; exact s3_get (by omega))) ?_
          by_cases e01 : q0.toInt = q1.toInt
          ·refine K.istore d20_118 (w':=120) rfl (L' := #[vr a, vr i, vr b, vr o, vi 3, vi 0, vi o0, vi q0]) rfl ?_
           refine K.aloadN d20_120 (w':=121) rfl rfl rfl ?_
           have f_344 := ((f_322.other W_326 (Or.inl (Ne.symm ne_141))).other W_332 (Or.inl (Ne.symm ne_119)))
           refine K.getL d20_121 (w':=124) rfl hw144 f_344 ?_
           refine K.iload d20_124 (w':=126) rfl rfl ?_
           refine K.aloadN d20_126 (w':=127) rfl rfl rfl ?_
           have f_345 := (f_329.other W_332 (Or.inl (Ne.symm ne_119)))
           refine K.getL d20_127 (w':=130) rfl hw142 f_345 ?_
           refine K.iload d20_130 (w':=132) rfl rfl ?_
           refine K.iald d20_132 (w':=133) rfl A_334 (i := q0.toInt.toNat) (by omega) (v := (.int o1)) (mget (by rw [e01]; exact set_eq (by simp [-Int32.toNat_toInt]; omega))) ?_
           have f_346 := (A_328.other W_332 ne_143)
           refine K.iast d20_133 (w':=134) rfl f_346 (i := o0.toInt.toNat) (by omega) (by simp [-Int32.toNat_toInt]; omega) ge_na (fun h_347 W_348 A_349 => ?_)
           have A_350 : Ary Z h_347 na .int ((((([0, 0, 0] : List Int32).set o2.toInt.toNat (-1)).set o1.toInt.toNat (-1)).set o0.toInt.toNat o1).map Value.int) := (by have q := A_349; rw [← List.map_set] at q; exact q)
           refine K.aloadN d20_134 (w':=135) rfl rfl rfl ?_
           have f_351 := (f_345.other W_348 (Or.inl (Ne.symm ne_141)))
           refine K.getL d20_135 (w':=138) rfl hw142 f_351 ?_
           refine K.iload d20_138 (w':=140) rfl rfl ?_
           have f_352 := (A_334.other W_348 (Ne.symm ne_143))
           refine K.iald d20_140 (w':=141) rfl f_352 (i := q0.toInt.toNat) (by omega) (v := (.int o1)) (mget (by rw [e01]; exact set_eq (by simp [-Int32.toNat_toInt]; omega))) ?_
           refine K.iconst d20_141 (w':=142) rfl (z := -1) rfl ?_
           refine K.icmp_eq d20_142 (pc1 := 145) rfl (by decide) (pc2 := 173) (by decide) (a := o1.toInt) (b := (-1)) rfl rfl (fun c142_2 => ?_) (fun c142_2 => ?_)
           ·exfalso; omega
           ·refine K.aloadN d20_145 (w':=146) rfl rfl rfl ?_
            have f_353 := ((((((f_129.keep K_138 (ninS (Ne.symm ne_130) nin0)).other W_169 (Or.inl (Ne.symm ne_141))).other W_175 (Or.inl (Ne.symm ne_119))).other W_326 (Or.inl (Ne.symm ne_141))).other W_332 (Or.inl (Ne.symm ne_119))).other W_348 (Or.inl (Ne.symm ne_141)))
            refine K.getL d20_146 (w':=149) rfl hw146 f_353 ?_
            refine K.aloadN d20_149 (w':=150) rfl rfl rfl ?_
            refine K.getL d20_150 (w':=153) rfl hw142 f_351 ?_
            refine K.iload d20_153 (w':=155) rfl rfl ?_
            refine K.iald d20_155 (w':=156) rfl f_352 (i := q0.toInt.toNat) (by omega) (v := (.int o1)) (mget (by rw [e01]; exact set_eq (by simp [-Int32.toNat_toInt]; omega))) ?_
            refine K.iload d20_156 (w':=158) rfl rfl ?_
            have f_354 := (((((A_140.other W_169 (Ne.symm ne_144)).other W_175 ne_132).other W_326 (Ne.symm ne_144)).other W_332 ne_132).other W_348 (Ne.symm ne_144))
            refine K.iast d20_158 (w':=159) rfl f_354 (i := o1.toInt.toNat) (by omega) (by simp [-Int32.toNat_toInt]; omega) ge_va (fun h_355 W_356 A_357 => ?_)
            have A_358 : Ary Z h_355 va .int ((([-1, -1, -1] : List Int32).set o1.toInt.toNat o0).map Value.int) := (by have q := A_357; rw [← List.map_set] at q; exact q)
            refine K.aloadN d20_159 (w':=160) rfl rfl rfl ?_
            have f_359 := ((((((((f_118.keep K_126 (ninS (Ne.symm ne_119) nin0)).keep K_138 (ninS (Ne.symm ne_130) nin0)).other W_169 (Or.inl (Ne.symm ne_141))).other W_175 (Or.inl (Ne.symm ne_119))).other W_326 (Or.inl (Ne.symm ne_141))).other W_332 (Or.inl (Ne.symm ne_119))).other W_348 (Or.inl (Ne.symm ne_141))).other W_356 (Or.inl (Ne.symm ne_130)))
            refine K.getL d20_160 (w':=163) rfl hw169 f_359 ?_
            refine K.aloadN d20_163 (w':=164) rfl rfl rfl ?_
            have f_360 := (f_351.other W_356 (Or.inl (Ne.symm ne_130)))
            refine K.getL d20_164 (w':=167) rfl hw142 f_360 ?_
            refine K.iload d20_167 (w':=169) rfl rfl ?_
            have f_361 := (f_352.other W_356 (Ne.symm ne_132))
            refine K.iald d20_169 (w':=170) rfl f_361 (i := q0.toInt.toNat) (by omega) (v := (.int o1)) (mget (by rw [e01]; exact set_eq (by simp [-Int32.toNat_toInt]; omega))) ?_
            have f_362 := ((((((((((x_ba.keep K_98).wr W_109).keep K_126).keep K_138).wr W_169).wr W_175).wr W_326).wr W_332).wr W_348).wr W_356)
            have f_363 := (((((((((f_101.other W_109 (Or.inl (Ne.symm ne_105))).keep K_126 (ninS (Ne.symm ne_120) nin0)).keep K_138 (ninS (Ne.symm ne_131) nin0)).other W_169 (Or.inl (Ne.symm ne_142))).other W_175 (Or.inl (Ne.symm ne_120))).other W_326 (Or.inl (Ne.symm ne_142))).other W_332 (Or.inl (Ne.symm ne_120))).other W_348 (Or.inl (Ne.symm ne_142))).other W_356 (Or.inl (Ne.symm ne_131)))
            have f_364 := (((((((((f_102.other W_109 (Or.inl (Ne.symm ne_105))).keep K_126 (ninS (Ne.symm ne_120) nin0)).keep K_138 (ninS (Ne.symm ne_131) nin0)).other W_169 (Or.inl (Ne.symm ne_142))).other W_175 (Or.inl (Ne.symm ne_120))).other W_326 (Or.inl (Ne.symm ne_142))).other W_332 (Or.inl (Ne.symm ne_120))).other W_348 (Or.inl (Ne.symm ne_142))).other W_356 (Or.inl (Ne.symm ne_131)))
            have f_365 := (((((((((((((((((((P2.keep K_8 all0).wr W_15 P5).ext E_30).wr W_38 P5).ext E_49).wr W_57 P5).ext E_68).wr W_76 P5).ext E_87).keep K_98 (allS ge_ba all0)).wr W_109 P5).keep K_126 (allS ge_fa all0)).keep K_138 (allS ge_va all0)).wr W_169 ge_na).wr W_175 ge_fa).wr W_326 ge_na).wr W_332 ge_fa).wr W_348 ge_na).wr W_356 ge_va)
            have ne_366 := (Nat.ne_of_lt (Nat.lt_of_lt_of_le x_ba.lt (Nat.le_trans (Nat.le_refl _) f_99)))
            have ne_367 := (Ne.symm (Nat.ne_of_lt (Nat.lt_of_lt_of_le P4.lt (Nat.le_trans (Nat.le_trans K_8.1 (Nat.le_trans (Keep.of_wr W_15).1 (Nat.le_trans E_30.1 (Nat.le_trans (Keep.of_wr W_38).1 (Nat.le_trans E_49.1 (Nat.le_trans (Keep.of_wr W_57).1 (Nat.le_trans E_68.1 (Nat.le_trans (Keep.of_wr W_76).1 E_87.1)))))))) f_99))))
            have ne_368 := (Ne.symm (Nat.ne_of_lt (Nat.lt_of_lt_of_le x_fa.lt (Nat.le_trans (Nat.le_trans (Keep.of_wr W_38).1 (Nat.le_trans E_49.1 (Nat.le_trans (Keep.of_wr W_57).1 (Nat.le_trans E_68.1 (Nat.le_trans (Keep.of_wr W_76).1 E_87.1))))) f_99))))
            have ne_369 := (Ne.symm (Nat.ne_of_lt (Nat.lt_of_lt_of_le x_va.lt (Nat.le_trans (Nat.le_trans (Keep.of_wr W_76).1 E_87.1) f_99))))
            have ne_370 := (Ne.symm (Nat.ne_of_lt (Nat.lt_of_lt_of_le x_na.lt (Nat.le_trans (Nat.le_trans (Keep.of_wr W_57).1 (Nat.le_trans E_68.1 (Nat.le_trans (Keep.of_wr W_76).1 E_87.1))) f_99))))
            have f_371 := (((((((((f_103.other W_109 ne_367).keep K_126 (ninS ne_368 nin0)).keep K_138 (ninS ne_369 nin0)).other W_169 ne_370).other W_175 ne_368).other W_326 ne_370).other W_332 ne_368).other W_348 ne_370).other W_356 ne_369)
            refine K.callv (z := (⟨sB, "set", "(I)V"⟩ : MethodName)) (argsL := [(.int o1)]) (rest := []) d20_170 (w':=173) rfl (c_bs_ l Z a0 hw n0 h_355 (b := ba) (w := wa) (u := (0 : Int32)) (x := (0 : Int64)) (i := o1) f_365 P3 f_362 ge_ba f_100 ne_366 f_363 f_364 f_371 (by first | decide | omega) (by omega)) f_362 hw179 hw180 (nf_sel hw182 rfl) hw182 hw181 hw150 hw183 (by decide) pd_16 rfl rfl (W := 0) (Nat.le_refl _) (by decide) (by decide) (by decide) (by decide) (fun v_374 h_372 q_373 => ?_)
            obtain ⟨u1_376, x1_377, rfl, K_378, f_379, f_380, f_381, hu1_w_375⟩ := q_373
            show G h_372 6 20 (mkF m 173 #[vr a, vr i, vr b, vr o, vi 3, vi 0, vi o0, vi q0] [])
            refine K.aloadN d20_173 (w':=174) rfl rfl rfl ?_
            have f_382 := (f_360.keep K_378 (ninS ne_105 (ninS (Ne.symm ne_367) nin0)))
            refine K.getL d20_174 (w':=177) rfl hw142 f_382 ?_
            refine K.iload d20_177 (w':=179) rfl rfl ?_
            refine K.iload d20_179 (w':=181) rfl rfl ?_
            have f_383 := (f_361.keep K_378 (ninS ne_120 (ninS (Ne.symm ne_368) nin0)))
            refine K.iast d20_181 (w':=182) rfl f_383 (i := q0.toInt.toNat) (by omega) (by simp [-Int32.toNat_toInt]; omega) ge_fa (fun h_384 W_385 A_386 => ?_)
            have A_387 : Ary Z h_384 fa .int (((((List.replicate (ds.length + 3) (-1)).set q2.toInt.toNat o2).set q1.toInt.toNat o1).set q0.toInt.toNat o0).map Value.int) := (by have q := A_386; rw [← List.map_set] at q; exact q)
            refine K.iinc d20_182 (w':=185) rfl rfl (z := (-1 : Int32)) rfl (L' := #[vr a, vr i, vr b, vr o, vi 3, vi (-1), vi o0, vi q0]) rfl ?_
            refine K.goto d20_185 (by decide) (w':=81) (by decide) ?_
            refine K.iload d20_81 (w':=83) rfl rfl ?_
            refine K.if_lt d20_83 (pc1 := 86) rfl (by decide) (pc2 := 188) (by decide) (a := (-1)) rfl (fun c83_3 => ?_) (fun c83_3 => ?_)
            ·have f_388 := (f_379.other W_385 (Or.inl (Ne.symm ne_120)))
             have f_389 := (f_380.other W_385 (Or.inl (Ne.symm ne_120)))
             have f_390 := (f_381.other W_385 ne_368)
             have f_391 := ((((f_342.other W_348 (Or.inl (Ne.symm ne_141))).other W_356 (Or.inl (Ne.symm ne_130))).keep K_378 (ninS ne_105 (ninS (Ne.symm ne_367) nin0))).other W_385 (Or.inl (Ne.symm ne_119)))
             have f_392 := (f_382.other W_385 (Or.inl (Ne.symm ne_119)))
             have f_393 := ((((f_344.other W_348 (Or.inl (Ne.symm ne_141))).other W_356 (Or.inl (Ne.symm ne_130))).keep K_378 (ninS ne_105 (ninS (Ne.symm ne_367) nin0))).other W_385 (Or.inl (Ne.symm ne_119)))
             have f_394 := (((f_353.other W_356 (Or.inl (Ne.symm ne_130))).keep K_378 (ninS ne_105 (ninS (Ne.symm ne_367) nin0))).other W_385 (Or.inl (Ne.symm ne_119)))
             have f_395 := ((f_359.keep K_378 (ninS ne_105 (ninS (Ne.symm ne_367) nin0))).other W_385 (Or.inl (Ne.symm ne_119)))
             have ne_396 := (Nat.ne_of_lt (Nat.lt_of_lt_of_le f_11.lt (Nat.le_trans (Nat.le_trans (Keep.of_wr W_15).1 (Nat.le_trans E_30.1 (Nat.le_trans (Keep.of_wr W_38).1 (Nat.le_trans E_49.1 (Nat.le_trans (Keep.of_wr W_57).1 (Nat.le_trans E_68.1 (Nat.le_trans (Keep.of_wr W_76).1 E_87.1))))))) f_99)))
             have f_397 := ((((f_343.other W_348 ne_188).other W_356 ne_163).keep K_378 (ninS ne_161 (ninS ne_396 nin0))).other W_385 ne_162)
             have f_398 := (((A_350.other W_356 ne_144).keep K_378 (ninS ne_142 (ninS (Ne.symm ne_370) nin0))).other W_385 ne_143)
             have f_399 := ((A_358.keep K_378 (ninS ne_131 (ninS (Ne.symm ne_369) nin0))).other W_385 ne_132)
             have f_400 := ((f_362.keep K_378).wr W_385)
             exact K.ret0 d20_188 (by decide) (by decide) ⟨pa, fa, na, va, ba, wa, [p0, p1, p2], ((((List.replicate (ds.length + 3) (-1)).set q2.toInt.toNat o2).set q1.toInt.toNat o1).set q0.toInt.toNat o0), (((([0, 0, 0] : List Int32).set o2.toInt.toNat (-1)).set o1.toInt.toNat (-1)).set o0.toInt.toNat o1), (([-1, -1, -1] : List Int32).set o1.toInt.toNat o0), u1_376, x1_377, p0, p1, p2, rfl, ((((((((((((((((((((((Keep.refl h [a]).trans K_8 all0).wr W_15 (Or.inl (by simp))).ext E_30).wr W_38 (Or.inl (by simp))).ext E_49).wr W_57 (Or.inl (by simp))).ext E_68).wr W_76 (Or.inl (by simp))).ext E_87).trans K_98 (allS (Or.inr sb_ba) all0)).wr W_109 (Or.inl (by simp))).trans K_126 (allS (Or.inr sb_fa) all0)).trans K_138 (allS (Or.inr sb_va) all0)).wr W_169 (Or.inr sb_na)).wr W_175 (Or.inr sb_fa)).wr W_326 (Or.inr sb_na)).wr W_332 (Or.inr sb_fa)).wr W_348 (Or.inr sb_na)).wr W_356 (Or.inr sb_va)).trans K_378 (allS (Or.inr sb_ba) (allS (Or.inr sb_wa) all0))).wr W_385 (Or.inr sb_fa)), f_391, f_392, f_393, f_394, f_395, f_397, A_387, f_398, f_399, f_400, f_388, f_389, f_390, sb_pa, sb_fa, sb_na, sb_va, sb_ba, sb_wa, f_10, ge_fa, ge_na, ge_va, ge_ba, f_100, ne_162, ne_188, ne_163, ne_161, ne_396, (Ne.symm ne_143), (Ne.symm ne_132), ne_120, (Ne.symm ne_368), ne_144, ne_142, (Ne.symm ne_370), ne_131, (Ne.symm ne_369), ne_366, by first | decide | omega, by exact ⟨pi_D hpm hpp_b hq0 hq1 hq2 e12 e01, hpp_pa.1, hpp_pa.2.1, hpp_pa.2.2, rfl⟩⟩
            ·exfalso; omega
          ·by_cases e02 : q0.toInt = q2.toInt
           ·refine K.istore d20_118 (w':=120) rfl (L' := #[vr a, vr i, vr b, vr o, vi 3, vi 0, vi o0, vi q0]) rfl ?_
            refine K.aloadN d20_120 (w':=121) rfl rfl rfl ?_
            have f_401 := ((f_322.other W_326 (Or.inl (Ne.symm ne_141))).other W_332 (Or.inl (Ne.symm ne_119)))
            refine K.getL d20_121 (w':=124) rfl hw144 f_401 ?_
            refine K.iload d20_124 (w':=126) rfl rfl ?_
            refine K.aloadN d20_126 (w':=127) rfl rfl rfl ?_
            have f_402 := (f_329.other W_332 (Or.inl (Ne.symm ne_119)))
            refine K.getL d20_127 (w':=130) rfl hw142 f_402 ?_
            refine K.iload d20_130 (w':=132) rfl rfl ?_
            refine K.iald d20_132 (w':=133) rfl A_334 (i := q0.toInt.toNat) (by omega) (v := (.int o2)) (mget (set_ne (by rw [e02]; exact set_eq (by simp [-Int32.toNat_toInt]; omega)) (by omega))) ?_
            have f_403 := (A_328.other W_332 ne_143)
            refine K.iast d20_133 (w':=134) rfl f_403 (i := o0.toInt.toNat) (by omega) (by simp [-Int32.toNat_toInt]; omega) ge_na (fun h_404 W_405 A_406 => ?_)
            have A_407 : Ary Z h_404 na .int ((((([0, 0, 0] : List Int32).set o2.toInt.toNat (-1)).set o1.toInt.toNat (-1)).set o0.toInt.toNat o2).map Value.int) := (by have q := A_406; rw [← List.map_set] at q; exact q)
            refine K.aloadN d20_134 (w':=135) rfl rfl rfl ?_
            have f_408 := (f_402.other W_405 (Or.inl (Ne.symm ne_141)))
            refine K.getL d20_135 (w':=138) rfl hw142 f_408 ?_
            refine K.iload d20_138 (w':=140) rfl rfl ?_
            have f_409 := (A_334.other W_405 (Ne.symm ne_143))
            refine K.iald d20_140 (w':=141) rfl f_409 (i := q0.toInt.toNat) (by omega) (v := (.int o2)) (mget (set_ne (by rw [e02]; exact set_eq (by simp [-Int32.toNat_toInt]; omega)) (by omega))) ?_
            refine K.iconst d20_141 (w':=142) rfl (z := -1) rfl ?_
            refine K.icmp_eq d20_142 (pc1 := 145) rfl (by decide) (pc2 := 173) (by decide) (a := o2.toInt) (b := (-1)) rfl rfl (fun c142_2 => ?_) (fun c142_2 => ?_)
            ·exfalso; omega
            ·refine K.aloadN d20_145 (w':=146) rfl rfl rfl ?_
             have f_410 := ((((((f_129.keep K_138 (ninS (Ne.symm ne_130) nin0)).other W_169 (Or.inl (Ne.symm ne_141))).other W_175 (Or.inl (Ne.symm ne_119))).other W_326 (Or.inl (Ne.symm ne_141))).other W_332 (Or.inl (Ne.symm ne_119))).other W_405 (Or.inl (Ne.symm ne_141)))
             refine K.getL d20_146 (w':=149) rfl hw146 f_410 ?_
             refine K.aloadN d20_149 (w':=150) rfl rfl rfl ?_
             refine K.getL d20_150 (w':=153) rfl hw142 f_408 ?_
             refine K.iload d20_153 (w':=155) rfl rfl ?_
             refine K.iald d20_155 (w':=156) rfl f_409 (i := q0.toInt.toNat) (by omega) (v := (.int o2)) (mget (set_ne (by rw [e02]; exact set_eq (by simp [-Int32.toNat_toInt]; omega)) (by omega))) ?_
             refine K.iload d20_156 (w':=158) rfl rfl ?_
             have f_411 := (((((A_140.other W_169 (Ne.symm ne_144)).other W_175 ne_132).other W_326 (Ne.symm ne_144)).other W_332 ne_132).other W_405 (Ne.symm ne_144))
             refine K.iast d20_158 (w':=159) rfl f_411 (i := o2.toInt.toNat) (by omega) (by simp [-Int32.toNat_toInt]; omega) ge_va (fun h_412 W_413 A_414 => ?_)
             have A_415 : Ary Z h_412 va .int ((([-1, -1, -1] : List Int32).set o2.toInt.toNat o0).map Value.int) := (by have q := A_414; rw [← List.map_set] at q; exact q)
             refine K.aloadN d20_159 (w':=160) rfl rfl rfl ?_
             have f_416 := ((((((((f_118.keep K_126 (ninS (Ne.symm ne_119) nin0)).keep K_138 (ninS (Ne.symm ne_130) nin0)).other W_169 (Or.inl (Ne.symm ne_141))).other W_175 (Or.inl (Ne.symm ne_119))).other W_326 (Or.inl (Ne.symm ne_141))).other W_332 (Or.inl (Ne.symm ne_119))).other W_405 (Or.inl (Ne.symm ne_141))).other W_413 (Or.inl (Ne.symm ne_130)))
             refine K.getL d20_160 (w':=163) rfl hw169 f_416 ?_
             refine K.aloadN d20_163 (w':=164) rfl rfl rfl ?_
             have f_417 := (f_408.other W_413 (Or.inl (Ne.symm ne_130)))
             refine K.getL d20_164 (w':=167) rfl hw142 f_417 ?_
             refine K.iload d20_167 (w':=169) rfl rfl ?_
             have f_418 := (f_409.other W_413 (Ne.symm ne_132))
             refine K.iald d20_169 (w':=170) rfl f_418 (i := q0.toInt.toNat) (by omega) (v := (.int o2)) (mget (set_ne (by rw [e02]; exact set_eq (by simp [-Int32.toNat_toInt]; omega)) (by omega))) ?_
             have f_419 := ((((((((((x_ba.keep K_98).wr W_109).keep K_126).keep K_138).wr W_169).wr W_175).wr W_326).wr W_332).wr W_405).wr W_413)
             have f_420 := (((((((((f_101.other W_109 (Or.inl (Ne.symm ne_105))).keep K_126 (ninS (Ne.symm ne_120) nin0)).keep K_138 (ninS (Ne.symm ne_131) nin0)).other W_169 (Or.inl (Ne.symm ne_142))).other W_175 (Or.inl (Ne.symm ne_120))).other W_326 (Or.inl (Ne.symm ne_142))).other W_332 (Or.inl (Ne.symm ne_120))).other W_405 (Or.inl (Ne.symm ne_142))).other W_413 (Or.inl (Ne.symm ne_131)))
             have f_421 := (((((((((f_102.other W_109 (Or.inl (Ne.symm ne_105))).keep K_126 (ninS (Ne.symm ne_120) nin0)).keep K_138 (ninS (Ne.symm ne_131) nin0)).other W_169 (Or.inl (Ne.symm ne_142))).other W_175 (Or.inl (Ne.symm ne_120))).other W_326 (Or.inl (Ne.symm ne_142))).other W_332 (Or.inl (Ne.symm ne_120))).other W_405 (Or.inl (Ne.symm ne_142))).other W_413 (Or.inl (Ne.symm ne_131)))
             have f_422 := (((((((((((((((((((P2.keep K_8 all0).wr W_15 P5).ext E_30).wr W_38 P5).ext E_49).wr W_57 P5).ext E_68).wr W_76 P5).ext E_87).keep K_98 (allS ge_ba all0)).wr W_109 P5).keep K_126 (allS ge_fa all0)).keep K_138 (allS ge_va all0)).wr W_169 ge_na).wr W_175 ge_fa).wr W_326 ge_na).wr W_332 ge_fa).wr W_405 ge_na).wr W_413 ge_va)
             have ne_423 := (Nat.ne_of_lt (Nat.lt_of_lt_of_le x_ba.lt (Nat.le_trans (Nat.le_refl _) f_99)))
             have ne_424 := (Ne.symm (Nat.ne_of_lt (Nat.lt_of_lt_of_le P4.lt (Nat.le_trans (Nat.le_trans K_8.1 (Nat.le_trans (Keep.of_wr W_15).1 (Nat.le_trans E_30.1 (Nat.le_trans (Keep.of_wr W_38).1 (Nat.le_trans E_49.1 (Nat.le_trans (Keep.of_wr W_57).1 (Nat.le_trans E_68.1 (Nat.le_trans (Keep.of_wr W_76).1 E_87.1)))))))) f_99))))
             have ne_425 := (Ne.symm (Nat.ne_of_lt (Nat.lt_of_lt_of_le x_fa.lt (Nat.le_trans (Nat.le_trans (Keep.of_wr W_38).1 (Nat.le_trans E_49.1 (Nat.le_trans (Keep.of_wr W_57).1 (Nat.le_trans E_68.1 (Nat.le_trans (Keep.of_wr W_76).1 E_87.1))))) f_99))))
             have ne_426 := (Ne.symm (Nat.ne_of_lt (Nat.lt_of_lt_of_le x_va.lt (Nat.le_trans (Nat.le_trans (Keep.of_wr W_76).1 E_87.1) f_99))))
             have ne_427 := (Ne.symm (Nat.ne_of_lt (Nat.lt_of_lt_of_le x_na.lt (Nat.le_trans (Nat.le_trans (Keep.of_wr W_57).1 (Nat.le_trans E_68.1 (Nat.le_trans (Keep.of_wr W_76).1 E_87.1))) f_99))))
             have f_428 := (((((((((f_103.other W_109 ne_424).keep K_126 (ninS ne_425 nin0)).keep K_138 (ninS ne_426 nin0)).other W_169 ne_427).other W_175 ne_425).other W_326 ne_427).other W_332 ne_425).other W_405 ne_427).other W_413 ne_426)
             refine K.callv (z := (⟨sB, "set", "(I)V"⟩ : MethodName)) (argsL := [(.int o2)]) (rest := []) d20_170 (w':=173) rfl (c_bs_ l Z a0 hw n0 h_412 (b := ba) (w := wa) (u := (0 : Int32)) (x := (0 : Int64)) (i := o2) f_422 P3 f_419 ge_ba f_100 ne_423 f_420 f_421 f_428 (by first | decide | omega) (by omega)) f_419 hw179 hw180 (nf_sel hw182 rfl) hw182 hw181 hw150 hw183 (by decide) pd_16 rfl rfl (W := 0) (Nat.le_refl _) (by decide) (by decide) (by decide) (by decide) (fun v_431 h_429 q_430 => ?_)
             obtain ⟨u1_433, x1_434, rfl, K_435, f_436, f_437, f_438, hu1_w_432⟩ := q_430
             show G h_429 6 20 (mkF m 173 #[vr a, vr i, vr b, vr o, vi 3, vi 0, vi o0, vi q0] [])
             refine K.aloadN d20_173 (w':=174) rfl rfl rfl ?_
             have f_439 := (f_417.keep K_435 (ninS ne_105 (ninS (Ne.symm ne_424) nin0)))
             refine K.getL d20_174 (w':=177) rfl hw142 f_439 ?_
             refine K.iload d20_177 (w':=179) rfl rfl ?_
             refine K.iload d20_179 (w':=181) rfl rfl ?_
             have f_440 := (f_418.keep K_435 (ninS ne_120 (ninS (Ne.symm ne_425) nin0)))
             refine K.iast d20_181 (w':=182) rfl f_440 (i := q0.toInt.toNat) (by omega) (by simp [-Int32.toNat_toInt]; omega) ge_fa (fun h_441 W_442 A_443 => ?_)
             have A_444 : Ary Z h_441 fa .int (((((List.replicate (ds.length + 3) (-1)).set q2.toInt.toNat o2).set q1.toInt.toNat o1).set q0.toInt.toNat o0).map Value.int) := (by have q := A_443; rw [← List.map_set] at q; exact q)
             refine K.iinc d20_182 (w':=185) rfl rfl (z := (-1 : Int32)) rfl (L' := #[vr a, vr i, vr b, vr o, vi 3, vi (-1), vi o0, vi q0]) rfl ?_
             refine K.goto d20_185 (by decide) (w':=81) (by decide) ?_
             refine K.iload d20_81 (w':=83) rfl rfl ?_
             refine K.if_lt d20_83 (pc1 := 86) rfl (by decide) (pc2 := 188) (by decide) (a := (-1)) rfl (fun c83_3 => ?_) (fun c83_3 => ?_)
             ·have f_445 := (f_436.other W_442 (Or.inl (Ne.symm ne_120)))
              have f_446 := (f_437.other W_442 (Or.inl (Ne.symm ne_120)))
              have f_447 := (f_438.other W_442 ne_425)
              have f_448 := ((((f_342.other W_405 (Or.inl (Ne.symm ne_141))).other W_413 (Or.inl (Ne.symm ne_130))).keep K_435 (ninS ne_105 (ninS (Ne.symm ne_424) nin0))).other W_442 (Or.inl (Ne.symm ne_119)))
              have f_449 := (f_439.other W_442 (Or.inl (Ne.symm ne_119)))
              have f_450 := ((((f_401.other W_405 (Or.inl (Ne.symm ne_141))).other W_413 (Or.inl (Ne.symm ne_130))).keep K_435 (ninS ne_105 (ninS (Ne.symm ne_424) nin0))).other W_442 (Or.inl (Ne.symm ne_119)))
              have f_451 := (((f_410.other W_413 (Or.inl (Ne.symm ne_130))).keep K_435 (ninS ne_105 (ninS (Ne.symm ne_424) nin0))).other W_442 (Or.inl (Ne.symm ne_119)))
              have f_452 := ((f_416.keep K_435 (ninS ne_105 (ninS (Ne.symm ne_424) nin0))).other W_442 (Or.inl (Ne.symm ne_119)))
              have ne_453 := (Nat.ne_of_lt (Nat.lt_of_lt_of_le f_11.lt (Nat.le_trans (Nat.le_trans (Keep.of_wr W_15).1 (Nat.le_trans E_30.1 (Nat.le_trans (Keep.of_wr W_38).1 (Nat.le_trans E_49.1 (Nat.le_trans (Keep.of_wr W_57).1 (Nat.le_trans E_68.1 (Nat.le_trans (Keep.of_wr W_76).1 E_87.1))))))) f_99)))
              have f_454 := ((((f_343.other W_405 ne_188).other W_413 ne_163).keep K_435 (ninS ne_161 (ninS ne_453 nin0))).other W_442 ne_162)
              have f_455 := (((A_407.other W_413 ne_144).keep K_435 (ninS ne_142 (ninS (Ne.symm ne_427) nin0))).other W_442 ne_143)
              have f_456 := ((A_415.keep K_435 (ninS ne_131 (ninS (Ne.symm ne_426) nin0))).other W_442 ne_132)
              have f_457 := ((f_419.keep K_435).wr W_442)
              exact K.ret0 d20_188 (by decide) (by decide) ⟨pa, fa, na, va, ba, wa, [p0, p1, p2], ((((List.replicate (ds.length + 3) (-1)).set q2.toInt.toNat o2).set q1.toInt.toNat o1).set q0.toInt.toNat o0), (((([0, 0, 0] : List Int32).set o2.toInt.toNat (-1)).set o1.toInt.toNat (-1)).set o0.toInt.toNat o2), (([-1, -1, -1] : List Int32).set o2.toInt.toNat o0), u1_433, x1_434, p0, p1, p2, rfl, ((((((((((((((((((((((Keep.refl h [a]).trans K_8 all0).wr W_15 (Or.inl (by simp))).ext E_30).wr W_38 (Or.inl (by simp))).ext E_49).wr W_57 (Or.inl (by simp))).ext E_68).wr W_76 (Or.inl (by simp))).ext E_87).trans K_98 (allS (Or.inr sb_ba) all0)).wr W_109 (Or.inl (by simp))).trans K_126 (allS (Or.inr sb_fa) all0)).trans K_138 (allS (Or.inr sb_va) all0)).wr W_169 (Or.inr sb_na)).wr W_175 (Or.inr sb_fa)).wr W_326 (Or.inr sb_na)).wr W_332 (Or.inr sb_fa)).wr W_405 (Or.inr sb_na)).wr W_413 (Or.inr sb_va)).trans K_435 (allS (Or.inr sb_ba) (allS (Or.inr sb_wa) all0))).wr W_442 (Or.inr sb_fa)), f_448, f_449, f_450, f_451, f_452, f_454, A_444, f_455, f_456, f_457, f_445, f_446, f_447, sb_pa, sb_fa, sb_na, sb_va, sb_ba, sb_wa, f_10, ge_fa, ge_na, ge_va, ge_ba, f_100, ne_162, ne_188, ne_163, ne_161, ne_453, (Ne.symm ne_143), (Ne.symm ne_132), ne_120, (Ne.symm ne_425), ne_144, ne_142, (Ne.symm ne_427), ne_131, (Ne.symm ne_426), ne_423, by first | decide | omega, by exact ⟨pi_E hpm hpp_b hq0 hq1 hq2 e12 e01 e02, hpp_pa.1, hpp_pa.2.1, hpp_pa.2.2, rfl⟩⟩
             ·exfalso; omega
           ·refine K.istore d20_118 (w':=120) rfl (L' := #[vr a, vr i, vr b, vr o, vi 3, vi 0, vi o0, vi q0]) rfl ?_
            refine K.aloadN d20_120 (w':=121) rfl rfl rfl ?_
            have f_458 := ((f_322.other W_326 (Or.inl (Ne.symm ne_141))).other W_332 (Or.inl (Ne.symm ne_119)))
            refine K.getL d20_121 (w':=124) rfl hw144 f_458 ?_
            refine K.iload d20_124 (w':=126) rfl rfl ?_
            refine K.aloadN d20_126 (w':=127) rfl rfl rfl ?_
            have f_459 := (f_329.other W_332 (Or.inl (Ne.symm ne_119)))
            refine K.getL d20_127 (w':=130) rfl hw142 f_459 ?_
            refine K.iload d20_130 (w':=132) rfl rfl ?_
            refine K.iald d20_132 (w':=133) rfl A_334 (i := q0.toInt.toNat) (by omega) (v := (.int (-1))) (mget (set_ne (set_ne (rep_get (by omega)) (by omega)) (by omega))) ?_
            have f_460 := (A_328.other W_332 ne_143)
            refine K.iast d20_133 (w':=134) rfl f_460 (i := o0.toInt.toNat) (by omega) (by simp [-Int32.toNat_toInt]; omega) ge_na (fun h_461 W_462 A_463 => ?_)
            have A_464 : Ary Z h_461 na .int ((((([0, 0, 0] : List Int32).set o2.toInt.toNat (-1)).set o1.toInt.toNat (-1)).set o0.toInt.toNat (-1)).map Value.int) := (by have q := A_463; rw [← List.map_set] at q; exact q)
            refine K.aloadN d20_134 (w':=135) rfl rfl rfl ?_
            have f_465 := (f_459.other W_462 (Or.inl (Ne.symm ne_141)))
            refine K.getL d20_135 (w':=138) rfl hw142 f_465 ?_
            refine K.iload d20_138 (w':=140) rfl rfl ?_
            have f_466 := (A_334.other W_462 (Ne.symm ne_143))
            refine K.iald d20_140 (w':=141) rfl f_466 (i := q0.toInt.toNat) (by omega) (v := (.int (-1))) (mget (set_ne (set_ne (rep_get (by omega)) (by omega)) (by omega))) ?_
            refine K.iconst d20_141 (w':=142) rfl (z := -1) rfl ?_
            refine K.icmp_eq d20_142 (pc1 := 145) rfl (by decide) (pc2 := 173) (by decide) (a := (-1)) (b := (-1)) rfl rfl (fun c142_2 => ?_) (fun c142_2 => ?_)
            ·refine K.aloadN d20_173 (w':=174) rfl rfl rfl ?_
             refine K.getL d20_174 (w':=177) rfl hw142 f_465 ?_
             refine K.iload d20_177 (w':=179) rfl rfl ?_
             refine K.iload d20_179 (w':=181) rfl rfl ?_
             refine K.iast d20_181 (w':=182) rfl f_466 (i := q0.toInt.toNat) (by omega) (by simp [-Int32.toNat_toInt]; omega) ge_fa (fun h_467 W_468 A_469 => ?_)
             have A_470 : Ary Z h_467 fa .int (((((List.replicate (ds.length + 3) (-1)).set q2.toInt.toNat o2).set q1.toInt.toNat o1).set q0.toInt.toNat o0).map Value.int) := (by have q := A_469; rw [← List.map_set] at q; exact q)
             refine K.iinc d20_182 (w':=185) rfl rfl (z := (-1 : Int32)) rfl (L' := #[vr a, vr i, vr b, vr o, vi 3, vi (-1), vi o0, vi q0]) rfl ?_
             refine K.goto d20_185 (by decide) (w':=81) (by decide) ?_
             refine K.iload d20_81 (w':=83) rfl rfl ?_
             refine K.if_lt d20_83 (pc1 := 86) rfl (by decide) (pc2 := 188) (by decide) (a := (-1)) rfl (fun c83_3 => ?_) (fun c83_3 => ?_)
             ·have f_471 := (((((((((f_101.other W_109 (Or.inl (Ne.symm ne_105))).keep K_126 (ninS (Ne.symm ne_120) nin0)).keep K_138 (ninS (Ne.symm ne_131) nin0)).other W_169 (Or.inl (Ne.symm ne_142))).other W_175 (Or.inl (Ne.symm ne_120))).other W_326 (Or.inl (Ne.symm ne_142))).other W_332 (Or.inl (Ne.symm ne_120))).other W_462 (Or.inl (Ne.symm ne_142))).other W_468 (Or.inl (Ne.symm ne_120)))
              have f_472 := (((((((((f_102.other W_109 (Or.inl (Ne.symm ne_105))).keep K_126 (ninS (Ne.symm ne_120) nin0)).keep K_138 (ninS (Ne.symm ne_131) nin0)).other W_169 (Or.inl (Ne.symm ne_142))).other W_175 (Or.inl (Ne.symm ne_120))).other W_326 (Or.inl (Ne.symm ne_142))).other W_332 (Or.inl (Ne.symm ne_120))).other W_462 (Or.inl (Ne.symm ne_142))).other W_468 (Or.inl (Ne.symm ne_120)))
              have ne_473 := (Ne.symm (Nat.ne_of_lt (Nat.lt_of_lt_of_le P4.lt (Nat.le_trans (Nat.le_trans K_8.1 (Nat.le_trans (Keep.of_wr W_15).1 (Nat.le_trans E_30.1 (Nat.le_trans (Keep.of_wr W_38).1 (Nat.le_trans E_49.1 (Nat.le_trans (Keep.of_wr W_57).1 (Nat.le_trans E_68.1 (Nat.le_trans (Keep.of_wr W_76).1 E_87.1)))))))) f_99))))
              have ne_474 := (Ne.symm (Nat.ne_of_lt (Nat.lt_of_lt_of_le x_fa.lt (Nat.le_trans (Nat.le_trans (Keep.of_wr W_38).1 (Nat.le_trans E_49.1 (Nat.le_trans (Keep.of_wr W_57).1 (Nat.le_trans E_68.1 (Nat.le_trans (Keep.of_wr W_76).1 E_87.1))))) f_99))))
              have ne_475 := (Ne.symm (Nat.ne_of_lt (Nat.lt_of_lt_of_le x_va.lt (Nat.le_trans (Nat.le_trans (Keep.of_wr W_76).1 E_87.1) f_99))))
              have ne_476 := (Ne.symm (Nat.ne_of_lt (Nat.lt_of_lt_of_le x_na.lt (Nat.le_trans (Nat.le_trans (Keep.of_wr W_57).1 (Nat.le_trans E_68.1 (Nat.le_trans (Keep.of_wr W_76).1 E_87.1))) f_99))))
              have f_477 := (((((((((f_103.other W_109 ne_473).keep K_126 (ninS ne_474 nin0)).keep K_138 (ninS ne_475 nin0)).other W_169 ne_476).other W_175 ne_474).other W_326 ne_476).other W_332 ne_474).other W_462 ne_476).other W_468 ne_474)
              have f_478 := ((f_342.other W_462 (Or.inl (Ne.symm ne_141))).other W_468 (Or.inl (Ne.symm ne_119)))
              have f_479 := (f_465.other W_468 (Or.inl (Ne.symm ne_119)))
              have f_480 := ((f_458.other W_462 (Or.inl (Ne.symm ne_141))).other W_468 (Or.inl (Ne.symm ne_119)))
              have f_481 := (((((((f_129.keep K_138 (ninS (Ne.symm ne_130) nin0)).other W_169 (Or.inl (Ne.symm ne_141))).other W_175 (Or.inl (Ne.symm ne_119))).other W_326 (Or.inl (Ne.symm ne_141))).other W_332 (Or.inl (Ne.symm ne_119))).other W_462 (Or.inl (Ne.symm ne_141))).other W_468 (Or.inl (Ne.symm ne_119)))
              have f_482 := ((((((((f_118.keep K_126 (ninS (Ne.symm ne_119) nin0)).keep K_138 (ninS (Ne.symm ne_130) nin0)).other W_169 (Or.inl (Ne.symm ne_141))).other W_175 (Or.inl (Ne.symm ne_119))).other W_326 (Or.inl (Ne.symm ne_141))).other W_332 (Or.inl (Ne.symm ne_119))).other W_462 (Or.inl (Ne.symm ne_141))).other W_468 (Or.inl (Ne.symm ne_119)))
              have f_483 := ((f_343.other W_462 ne_188).other W_468 ne_162)
              have f_484 := (A_464.other W_468 ne_143)
              have f_485 := ((((((A_140.other W_169 (Ne.symm ne_144)).other W_175 ne_132).other W_326 (Ne.symm ne_144)).other W_332 ne_132).other W_462 (Ne.symm ne_144)).other W_468 ne_132)
              have f_486 := ((((((((((x_ba.keep K_98).wr W_109).keep K_126).keep K_138).wr W_169).wr W_175).wr W_326).wr W_332).wr W_462).wr W_468)
              have ne_487 := (Nat.ne_of_lt (Nat.lt_of_lt_of_le f_11.lt (Nat.le_trans (Nat.le_trans (Keep.of_wr W_15).1 (Nat.le_trans E_30.1 (Nat.le_trans (Keep.of_wr W_38).1 (Nat.le_trans E_49.1 (Nat.le_trans (Keep.of_wr W_57).1 (Nat.le_trans E_68.1 (Nat.le_trans (Keep.of_wr W_76).1 E_87.1))))))) f_99)))
              have ne_488 := (Nat.ne_of_lt (Nat.lt_of_lt_of_le x_ba.lt (Nat.le_trans (Nat.le_refl _) f_99)))
              exact K.ret0 d20_188 (by decide) (by decide) ⟨pa, fa, na, va, ba, wa, [p0, p1, p2], ((((List.replicate (ds.length + 3) (-1)).set q2.toInt.toNat o2).set q1.toInt.toNat o1).set q0.toInt.toNat o0), (((([0, 0, 0] : List Int32).set o2.toInt.toNat (-1)).set o1.toInt.toNat (-1)).set o0.toInt.toNat (-1)), ([-1, -1, -1] : List Int32), (0 : Int32), (0 : Int64), p0, p1, p2, rfl, ((((((((((((((((((((Keep.refl h [a]).trans K_8 all0).wr W_15 (Or.inl (by simp))).ext E_30).wr W_38 (Or.inl (by simp))).ext E_49).wr W_57 (Or.inl (by simp))).ext E_68).wr W_76 (Or.inl (by simp))).ext E_87).trans K_98 (allS (Or.inr sb_ba) all0)).wr W_109 (Or.inl (by simp))).trans K_126 (allS (Or.inr sb_fa) all0)).trans K_138 (allS (Or.inr sb_va) all0)).wr W_169 (Or.inr sb_na)).wr W_175 (Or.inr sb_fa)).wr W_326 (Or.inr sb_na)).wr W_332 (Or.inr sb_fa)).wr W_462 (Or.inr sb_na)).wr W_468 (Or.inr sb_fa)), f_478, f_479, f_480, f_481, f_482, f_483, A_470, f_484, f_485, f_486, f_471, f_472, f_477, sb_pa, sb_fa, sb_na, sb_va, sb_ba, sb_wa, f_10, ge_fa, ge_na, ge_va, ge_ba, f_100, ne_162, ne_188, ne_163, ne_161, ne_487, (Ne.symm ne_143), (Ne.symm ne_132), ne_120, (Ne.symm ne_474), ne_144, ne_142, (Ne.symm ne_476), ne_131, (Ne.symm ne_475), ne_488, by first | decide | omega, by exact ⟨pi_A hpm hpp_b hq0 hq1 hq2 e12 e01 e02, hpp_pa.1, hpp_pa.2.1, hpp_pa.2.2, rfl⟩⟩
             ·exfalso; omega
            ·exfalso; omega
         ·exfalso; exact c96_2
       ·exfalso; omega
     ·exfalso; exact c96_1
   ·exfalso; omega
  ·exfalso; exact c96
theorem d38_0 : decode B38 0 = .ok (.aload_n 0, 1) := by decide +kernel
theorem d38_1 : decode B38 1 = .ok (.getfield 17, 3) := by decide +kernel
theorem d38_4 : decode B38 4 = .ok (.iload_n 1, 1) := by decide +kernel
theorem d38_5 : decode B38 5 = .ok (.iaload, 1) := by decide +kernel
theorem d38_6 : decode B38 6 = .ok (.istore_n 3, 1) := by decide +kernel
theorem d38_7 : decode B38 7 = .ok (.aload_n 0, 1) := by decide +kernel
theorem d38_8 : decode B38 8 = .ok (.getfield 37, 3) := by decide +kernel
theorem d38_11 : decode B38 11 = .ok (.iload_n 1, 1) := by decide +kernel
theorem d38_12 : decode B38 12 = .ok (.invokevirtual 58, 3) := by decide +kernel
theorem d38_15 : decode B38 15 = .ok (.aload_n 0, 1) := by decide +kernel
theorem d38_16 : decode B38 16 = .ok (.getfield 29, 3) := by decide +kernel
theorem d38_19 : decode B38 19 = .ok (.iload_n 1, 1) := by decide +kernel
theorem d38_20 : decode B38 20 = .ok (.iaload, 1) := by decide +kernel
theorem d38_21 : decode B38 21 = .ok (.iconst (-1), 1) := by decide +kernel
theorem d38_22 : decode B38 22 = .ok (.if_icmp .ne 41, 3) := by decide +kernel
theorem d38_63 : decode B38 63 = .ok (.aload_n 0, 1) := by decide +kernel
theorem d38_64 : decode B38 64 = .ok (.getfield 26, 3) := by decide +kernel
theorem d38_67 : decode B38 67 = .ok (.aload_n 0, 1) := by decide +kernel
theorem d38_68 : decode B38 68 = .ok (.getfield 29, 3) := by decide +kernel
theorem d38_71 : decode B38 71 = .ok (.iload_n 1, 1) := by decide +kernel
theorem d38_72 : decode B38 72 = .ok (.iaload, 1) := by decide +kernel
theorem d38_73 : decode B38 73 = .ok (.aload_n 0, 1) := by decide +kernel
theorem d38_74 : decode B38 74 = .ok (.getfield 26, 3) := by decide +kernel
theorem d38_77 : decode B38 77 = .ok (.iload_n 1, 1) := by decide +kernel
theorem d38_78 : decode B38 78 = .ok (.iaload, 1) := by decide +kernel
theorem d38_79 : decode B38 79 = .ok (.iastore, 1) := by decide +kernel
theorem d38_80 : decode B38 80 = .ok (.aload_n 0, 1) := by decide +kernel
theorem d38_81 : decode B38 81 = .ok (.getfield 26, 3) := by decide +kernel
theorem d38_84 : decode B38 84 = .ok (.iload_n 1, 1) := by decide +kernel
theorem d38_85 : decode B38 85 = .ok (.iaload, 1) := by decide +kernel
theorem d38_86 : decode B38 86 = .ok (.iconst (-1), 1) := by decide +kernel
theorem d38_87 : decode B38 87 = .ok (.if_icmp .eq 20, 3) := by decide +kernel
theorem d38_107 : decode B38 107 = .ok (.aload_n 0, 1) := by decide +kernel
theorem d38_108 : decode B38 108 = .ok (.getfield 17, 3) := by decide +kernel
theorem d38_111 : decode B38 111 = .ok (.iload_n 1, 1) := by decide +kernel
theorem d38_112 : decode B38 112 = .ok (.iload_n 2, 1) := by decide +kernel
theorem d38_113 : decode B38 113 = .ok (.iastore, 1) := by decide +kernel
theorem d38_114 : decode B38 114 = .ok (.aload_n 0, 1) := by decide +kernel
theorem d38_115 : decode B38 115 = .ok (.getfield 26, 3) := by decide +kernel
theorem d38_118 : decode B38 118 = .ok (.iload_n 1, 1) := by decide +kernel
theorem d38_119 : decode B38 119 = .ok (.iconst (-1), 1) := by decide +kernel
theorem d38_120 : decode B38 120 = .ok (.iastore, 1) := by decide +kernel
theorem d38_121 : decode B38 121 = .ok (.aload_n 0, 1) := by decide +kernel
theorem d38_122 : decode B38 122 = .ok (.getfield 29, 3) := by decide +kernel
theorem d38_125 : decode B38 125 = .ok (.iload_n 1, 1) := by decide +kernel
theorem d38_126 : decode B38 126 = .ok (.iconst (-1), 1) := by decide +kernel
theorem d38_127 : decode B38 127 = .ok (.iastore, 1) := by decide +kernel
theorem d38_128 : decode B38 128 = .ok (.aload_n 0, 1) := by decide +kernel
theorem d38_129 : decode B38 129 = .ok (.getfield 23, 3) := by decide +kernel
theorem d38_132 : decode B38 132 = .ok (.iload_n 2, 1) := by decide +kernel
theorem d38_133 : decode B38 133 = .ok (.iload_n 1, 1) := by decide +kernel
theorem d38_134 : decode B38 134 = .ok (.iastore, 1) := by decide +kernel
theorem d38_135 : decode B38 135 = .ok (.return_, 1) := by decide +kernel
theorem d38_90 : decode B38 90 = .ok (.aload_n 0, 1) := by decide +kernel
theorem d38_91 : decode B38 91 = .ok (.getfield 29, 3) := by decide +kernel
theorem d38_94 : decode B38 94 = .ok (.aload_n 0, 1) := by decide +kernel
theorem d38_95 : decode B38 95 = .ok (.getfield 26, 3) := by decide +kernel
theorem d38_98 : decode B38 98 = .ok (.iload_n 1, 1) := by decide +kernel
theorem d38_99 : decode B38 99 = .ok (.iaload, 1) := by decide +kernel
theorem d38_100 : decode B38 100 = .ok (.aload_n 0, 1) := by decide +kernel
theorem d38_101 : decode B38 101 = .ok (.getfield 29, 3) := by decide +kernel
theorem d38_104 : decode B38 104 = .ok (.iload_n 1, 1) := by decide +kernel
theorem d38_105 : decode B38 105 = .ok (.iaload, 1) := by decide +kernel
theorem d38_106 : decode B38 106 = .ok (.iastore, 1) := by decide +kernel
theorem d38_25 : decode B38 25 = .ok (.aload_n 0, 1) := by decide +kernel
theorem d38_26 : decode B38 26 = .ok (.getfield 23, 3) := by decide +kernel
theorem d38_29 : decode B38 29 = .ok (.iload_n 3, 1) := by decide +kernel
theorem d38_30 : decode B38 30 = .ok (.aload_n 0, 1) := by decide +kernel
theorem d38_31 : decode B38 31 = .ok (.getfield 26, 3) := by decide +kernel
theorem d38_34 : decode B38 34 = .ok (.iload_n 1, 1) := by decide +kernel
theorem d38_35 : decode B38 35 = .ok (.iaload, 1) := by decide +kernel
theorem d38_36 : decode B38 36 = .ok (.iastore, 1) := by decide +kernel
theorem d38_37 : decode B38 37 = .ok (.aload_n 0, 1) := by decide +kernel
theorem d38_38 : decode B38 38 = .ok (.getfield 26, 3) := by decide +kernel
theorem d38_41 : decode B38 41 = .ok (.iload_n 1, 1) := by decide +kernel
theorem d38_42 : decode B38 42 = .ok (.iaload, 1) := by decide +kernel
theorem d38_43 : decode B38 43 = .ok (.iconst (-1), 1) := by decide +kernel
theorem d38_44 : decode B38 44 = .ok (.if_icmp .eq 36, 3) := by decide +kernel
theorem d38_47 : decode B38 47 = .ok (.aload_n 0, 1) := by decide +kernel
theorem d38_48 : decode B38 48 = .ok (.getfield 37, 3) := by decide +kernel
theorem d38_51 : decode B38 51 = .ok (.aload_n 0, 1) := by decide +kernel
theorem d38_52 : decode B38 52 = .ok (.getfield 26, 3) := by decide +kernel
theorem d38_55 : decode B38 55 = .ok (.iload_n 1, 1) := by decide +kernel
theorem d38_56 : decode B38 56 = .ok (.iaload, 1) := by decide +kernel
theorem d38_57 : decode B38 57 = .ok (.invokevirtual 58, 3) := by decide +kernel
theorem d38_60 : decode B38 60 = .ok (.goto 20, 3) := by decide +kernel
theorem c_mov (l : Launch) (Z : State) (a0 : Array Value) (hw : HW a0 Z) (n0 : Nat) (h : Heap) (a : Addr) (pa : Addr) (fa : Addr) (na : Addr) (va : Addr) (ba : Addr) (wa : Addr) (pl : List Int32) (fl : List Int32) (nl : List Int32) (vl : List Int32) (u : Int32) (mi : Int32) (to : Int32) (x : Int64) (N : Nat) (P1 : Old Z n0 h) (P2 : Sta Z Z.heap sB "$assertionsDisabled" "Z" (.int 1)) (P3 : Exa Z h a sP) (P4 : Fld Z h a sP "position" "[I" (.ref pa)) (P5 : Fld Z h a sP "first" "[I" (.ref fa)) (P6 : Fld Z h a sP "next" "[I" (.ref na)) (P7 : Fld Z h a sP "previous" "[I" (.ref va)) (P8 : Fld Z h a sP "stacked" "Ljava/util/BitSet;" (.ref ba)) (P9 : Ary Z h pa .int (pl.map Value.int)) (P10 : Ary Z h fa .int (fl.map Value.int)) (P11 : Ary Z h na .int (nl.map Value.int)) (P12 : Ary Z h va .int (vl.map Value.int)) (P13 : Exa Z h ba sB) (P14 : Fld Z h ba sB "words" "[J" (.ref wa)) (P15 : Fld Z h ba sB "wordsInUse" "I" (.int u)) (P16 : Ary Z h wa .long [(.long x)]) (P17 : n0 ≤ pa) (P18 : n0 ≤ fa) (P19 : n0 ≤ na) (P20 : n0 ≤ va) (P21 : n0 ≤ ba) (P22 : n0 ≤ wa) (P23 : pa ≠ fa) (P24 : pa ≠ na) (P25 : pa ≠ va) (P26 : pa ≠ ba) (P27 : pa ≠ wa) (P28 : fa ≠ na) (P29 : fa ≠ va) (P30 : fa ≠ ba) (P31 : fa ≠ wa) (P32 : na ≠ va) (P33 : na ≠ ba) (P34 : na ≠ wa) (P35 : va ≠ ba) (P36 : va ≠ wa) (P37 : ba ≠ wa) (P38 : a ≠ pa) (P39 : a ≠ fa) (P40 : a ≠ na) (P41 : a ≠ va) (P42 : a ≠ ba) (P43 : a ≠ wa) (hu : 0 ≤ u.toInt ∧ u.toInt ≤ 1) (hPI : PI N pl fl nl vl) (hm : 0 ≤ mi.toInt ∧ mi.toInt ≤ 2) (hto : 0 ≤ to.toInt ∧ to.toInt < N ∧ ∀ j : Nat, j < 3 → (pl.getD j 0).toInt ≠ to.toInt) : MeetsW l Z n0 (⟨sP, "move", "(II)V"⟩ : MethodName) B38 4 none ({ frames := 2, cells := 0, slots := 0, locals := 27 } : Room) #[(.ref a), (.int mi), (.int to)] h (fun v h' => ∃ (fl2 : List Int32), v = none ∧ Keep h h' [pa, fa, na, va, ba, wa] ∧ Ary Z h' fa .int (fl2.map Value.int) ∧ (MV N pl fl2 mi to)) := by
 refine MeetsW.intro (plainFor_of_name pn_com_example_odograph_odograph_online_Placement) (L0 := #[vr a, vi mi, vi to, un]) (fun m => rfl) ?_
 intro m G K0
 have K : Cx l ({ frames := 2, cells := 0, slots := 0, locals := 27 } : Room) Z n0 _ sP "move" B38 4 none m G := K0
 have hw140 := tb hw (i:=140) rfl
 have hw142 := tb hw (i:=142) rfl
 have hw144 := tb hw (i:=144) rfl
 have hw146 := tb hw (i:=146) rfl
 have hw150 := tb hw (i:=150) rfl
 have hw169 := tb hw (i:=169) rfl
 have hw221 := tb hw (i:=221) rfl
 have hw222 := tb hw (i:=222) rfl
 have hw223 := tb hw (i:=223) rfl
 have hw224 := tb hw (i:=224) rfl
 have hw225 := tb hw (i:=225) rfl
 have hl1 := hPI.1
 have hl2 := hPI.2.1
 have hl3 := hPI.2.2.1
 have hl4 := hPI.2.2.2.1
 have hto1 := hto.1
 have hto2 := hto.2.1
 have hq5 := hPI.2.2.2.2.1 mi.toInt.toNat (by omega)
 have hq7 := hPI.2.2.2.2.2.2 mi.toInt.toNat (by omega)
 have hqa := hq7.1
 have hqb := hq7.2.1
 obtain ⟨le, e_le⟩ : ∃ z, pl.getD mi.toInt.toNat 0 = z := ⟨_, rfl⟩
 obtain ⟨nx, e_nx⟩ : ∃ z, nl.getD mi.toInt.toNat 0 = z := ⟨_, rfl⟩
 obtain ⟨pv, e_pv⟩ : ∃ z, vl.getD mi.toInt.toNat 0 = z := ⟨_, rfl⟩
 rw [e_le] at hq5
 rw [e_nx] at hqa
 rw [e_pv] at hqb
 refine K.aloadN d38_0 (w':=1) rfl rfl rfl ?_
 refine K.getL d38_1 (w':=4) rfl hw140 P4 ?_
 refine K.iloadN d38_4 (w':=5) rfl rfl ?_
 refine K.iald d38_5 (w':=6) rfl P9 (i := mi.toInt.toNat) (by omega) (v := (.int le)) (mget (by rw [← e_le]; exact getd (by omega))) ?_
 refine K.istoreN d38_6 (w':=7) rfl (L' := #[vr a, vi mi, vi to, vi le]) rfl ?_
 refine K.aloadN d38_7 (w':=8) rfl rfl rfl ?_
 refine K.getL d38_8 (w':=11) rfl hw169 P8 ?_
 refine K.iloadN d38_11 (w':=12) rfl rfl ?_
 refine K.callv (z := (⟨sB, "clear", "(I)V"⟩ : MethodName)) (argsL := [(.int mi)]) (rest := []) d38_12 (w':=15) rfl (c_bc_ l Z a0 hw n0 h (b := ba) (w := wa) (u := u) (x := x) (i := mi) P1 P2 P13 P21 P22 P37 P14 P15 P16 (by omega) hm) P13 hw221 hw222 (nf_sel hw224 rfl) hw224 hw223 hw150 hw225 (by decide) pd_16 rfl rfl (W := 0) (Nat.le_refl _) (by decide) (by decide) (by decide) (by decide) (fun v_3 h_1 q_2 => ?_)
 obtain ⟨u1_5, x1_6, rfl, K_7, f_8, f_9, f_10, hu1_w_4⟩ := q_2
 show G h_1 0 0 (mkF m 15 #[vr a, vi mi, vi to, vi le] [])
 refine K.aloadN d38_15 (w':=16) rfl rfl rfl ?_
 have f_11 := (P7.keep K_7 (ninS P42 (ninS P43 nin0)))
 refine K.getL d38_16 (w':=19) rfl hw146 f_11 ?_
 refine K.iloadN d38_19 (w':=20) rfl rfl ?_
 have f_12 := (P12.keep K_7 (ninS P35 (ninS P36 nin0)))
 refine K.iald d38_20 (w':=21) rfl f_12 (i := mi.toInt.toNat) (by omega) (v := (.int pv)) (mget (by rw [← e_pv]; exact getd (by omega))) ?_
 refine K.iconst d38_21 (w':=22) rfl (z := -1) rfl ?_
 refine K.icmp_ne d38_22 (pc1 := 25) rfl (by decide) (pc2 := 63) (by decide) (a := pv.toInt) (b := (-1)) rfl rfl (fun c22 => ?_) (fun c22 => ?_)
 ·refine K.aloadN d38_63 (w':=64) rfl rfl rfl ?_
  have f_13 := (P6.keep K_7 (ninS P42 (ninS P43 nin0)))
  refine K.getL d38_64 (w':=67) rfl hw144 f_13 ?_
  refine K.aloadN d38_67 (w':=68) rfl rfl rfl ?_
  refine K.getL d38_68 (w':=71) rfl hw146 f_11 ?_
  refine K.iloadN d38_71 (w':=72) rfl rfl ?_
  refine K.iald d38_72 (w':=73) rfl f_12 (i := mi.toInt.toNat) (by omega) (v := (.int pv)) (mget (by rw [← e_pv]; exact getd (by omega))) ?_
  refine K.aloadN d38_73 (w':=74) rfl rfl rfl ?_
  refine K.getL d38_74 (w':=77) rfl hw144 f_13 ?_
  refine K.iloadN d38_77 (w':=78) rfl rfl ?_
  have f_14 := (P11.keep K_7 (ninS P33 (ninS P34 nin0)))
  refine K.iald d38_78 (w':=79) rfl f_14 (i := mi.toInt.toNat) (by omega) (v := (.int nx)) (mget (by rw [← e_nx]; exact getd (by omega))) ?_
  refine K.iast d38_79 (w':=80) rfl f_14 (i := pv.toInt.toNat) (by omega) (by simp [-Int32.toNat_toInt]; omega) P19 (fun h_15 W_16 A_17 => ?_)
  have A_18 : Ary Z h_15 na .int ((nl.set pv.toInt.toNat nx).map Value.int) := (by have q := A_17; rw [← List.map_set] at q; exact q)
  refine K.aloadN d38_80 (w':=81) rfl rfl rfl ?_
  have f_19 := (f_13.other W_16 (Or.inl P40))
  refine K.getL d38_81 (w':=84) rfl hw144 f_19 ?_
  refine K.iloadN d38_84 (w':=85) rfl rfl ?_
  refine K.iald d38_85 (w':=86) rfl A_18 (i := mi.toInt.toNat) (by omega) (v := (.int nx)) (mget (set_same (by rw [← e_nx]; exact getd (by omega)))) ?_
  refine K.iconst d38_86 (w':=87) rfl (z := -1) rfl ?_
  refine K.icmp_eq d38_87 (pc1 := 90) rfl (by decide) (pc2 := 107) (by decide) (a := nx.toInt) (b := (-1)) rfl rfl (fun c87 => ?_) (fun c87 => ?_)
  ·refine K.aloadN d38_107 (w':=108) rfl rfl rfl ?_
   have f_20 := ((P4.keep K_7 (ninS P42 (ninS P43 nin0))).other W_16 (Or.inl P40))
   refine K.getL d38_108 (w':=111) rfl hw140 f_20 ?_
   refine K.iloadN d38_111 (w':=112) rfl rfl ?_
   refine K.iloadN d38_112 (w':=113) rfl rfl ?_
   have f_21 := ((P9.keep K_7 (ninS P26 (ninS P27 nin0))).other W_16 P24)
   refine K.iast d38_113 (w':=114) rfl f_21 (i := mi.toInt.toNat) (by omega) (by simp [-Int32.toNat_toInt]; omega) P17 (fun h_22 W_23 A_24 => ?_)
   have A_25 : Ary Z h_22 pa .int ((pl.set mi.toInt.toNat to).map Value.int) := (by have q := A_24; rw [← List.map_set] at q; exact q)
   refine K.aloadN d38_114 (w':=115) rfl rfl rfl ?_
   have f_26 := (f_19.other W_23 (Or.inl P38))
   refine K.getL d38_115 (w':=118) rfl hw144 f_26 ?_
   refine K.iloadN d38_118 (w':=119) rfl rfl ?_
   refine K.iconst d38_119 (w':=120) rfl (z := -1) rfl ?_
   have f_27 := (A_18.other W_23 (Ne.symm P24))
   refine K.iast d38_120 (w':=121) rfl f_27 (i := mi.toInt.toNat) (by omega) (by simp [-Int32.toNat_toInt]; omega) P19 (fun h_28 W_29 A_30 => ?_)
   have A_31 : Ary Z h_28 na .int (((nl.set pv.toInt.toNat nx).set mi.toInt.toNat (-1)).map Value.int) := (by have q := A_30; rw [← List.map_set] at q; exact q)
   refine K.aloadN d38_121 (w':=122) rfl rfl rfl ?_
   have f_32 := (((f_11.other W_16 (Or.inl P40)).other W_23 (Or.inl P38)).other W_29 (Or.inl P40))
   refine K.getL d38_122 (w':=125) rfl hw146 f_32 ?_
   refine K.iloadN d38_125 (w':=126) rfl rfl ?_
   refine K.iconst d38_126 (w':=127) rfl (z := -1) rfl ?_
   have f_33 := (((f_12.other W_16 (Ne.symm P32)).other W_23 (Ne.symm P25)).other W_29 (Ne.symm P32))
   refine K.iast d38_127 (w':=128) rfl f_33 (i := mi.toInt.toNat) (by omega) (by simp [-Int32.toNat_toInt]; omega) P20 (fun h_34 W_35 A_36 => ?_)
   have A_37 : Ary Z h_34 va .int ((vl.set mi.toInt.toNat (-1)).map Value.int) := (by have q := A_36; rw [← List.map_set] at q; exact q)
   refine K.aloadN d38_128 (w':=129) rfl rfl rfl ?_
   have f_38 := (((((P5.keep K_7 (ninS P42 (ninS P43 nin0))).other W_16 (Or.inl P40)).other W_23 (Or.inl P38)).other W_29 (Or.inl P40)).other W_35 (Or.inl P41))
   refine K.getL d38_129 (w':=132) rfl hw142 f_38 ?_
   refine K.iloadN d38_132 (w':=133) rfl rfl ?_
   refine K.iloadN d38_133 (w':=134) rfl rfl ?_
   have f_39 := (((((P10.keep K_7 (ninS P30 (ninS P31 nin0))).other W_16 P28).other W_23 (Ne.symm P23)).other W_29 P28).other W_35 P29)
   refine K.iast d38_134 (w':=135) rfl f_39 (i := to.toInt.toNat) (by omega) (by simp [-Int32.toNat_toInt]; omega) P18 (fun h_40 W_41 A_42 => ?_)
   have A_43 : Ary Z h_40 fa .int ((fl.set to.toInt.toNat mi).map Value.int) := (by have q := A_42; rw [← List.map_set] at q; exact q)
   exact K.ret0 d38_135 (by decide) (by decide) ⟨(fl.set to.toInt.toNat mi), rfl, (((((((Keep.refl h [pa, fa, na, va, ba, wa]).trans K_7 (allS (Or.inl (by simp)) (allS (Or.inl (by simp)) all0))).wr W_16 (Or.inl (by simp))).wr W_23 (Or.inl (by simp))).wr W_29 (Or.inl (by simp))).wr W_35 (Or.inl (by simp))).wr W_41 (Or.inl (by simp))), A_43, by exact mv_A hPI hto hm (by omega) e_le e_nx e_pv⟩
  ·refine K.aloadN d38_90 (w':=91) rfl rfl rfl ?_
   have f_44 := (f_11.other W_16 (Or.inl P40))
   refine K.getL d38_91 (w':=94) rfl hw146 f_44 ?_
   refine K.aloadN d38_94 (w':=95) rfl rfl rfl ?_
   refine K.getL d38_95 (w':=98) rfl hw144 f_19 ?_
   refine K.iloadN d38_98 (w':=99) rfl rfl ?_
   refine K.iald d38_99 (w':=100) rfl A_18 (i := mi.toInt.toNat) (by omega) (v := (.int nx)) (mget (set_same (by rw [← e_nx]; exact getd (by omega)))) ?_
   refine K.aloadN d38_100 (w':=101) rfl rfl rfl ?_
   refine K.getL d38_101 (w':=104) rfl hw146 f_44 ?_
   refine K.iloadN d38_104 (w':=105) rfl rfl ?_
   have f_45 := (f_12.other W_16 (Ne.symm P32))
   refine K.iald d38_105 (w':=106) rfl f_45 (i := mi.toInt.toNat) (by omega) (v := (.int pv)) (mget (by rw [← e_pv]; exact getd (by omega))) ?_
   refine K.iast d38_106 (w':=107) rfl f_45 (i := nx.toInt.toNat) (by omega) (by simp [-Int32.toNat_toInt]; omega) P20 (fun h_46 W_47 A_48 => ?_)
   have A_49 : Ary Z h_46 va .int ((vl.set nx.toInt.toNat pv).map Value.int) := (by have q := A_48; rw [← List.map_set] at q; exact q)
   refine K.aloadN d38_107 (w':=108) rfl rfl rfl ?_
   have f_50 := (((P4.keep K_7 (ninS P42 (ninS P43 nin0))).other W_16 (Or.inl P40)).other W_47 (Or.inl P41))
   refine K.getL d38_108 (w':=111) rfl hw140 f_50 ?_
   refine K.iloadN d38_111 (w':=112) rfl rfl ?_
   refine K.iloadN d38_112 (w':=113) rfl rfl ?_
   have f_51 := (((P9.keep K_7 (ninS P26 (ninS P27 nin0))).other W_16 P24).other W_47 P25)
   refine K.iast d38_113 (w':=114) rfl f_51 (i := mi.toInt.toNat) (by omega) (by simp [-Int32.toNat_toInt]; omega) P17 (fun h_52 W_53 A_54 => ?_)
   have A_55 : Ary Z h_52 pa .int ((pl.set mi.toInt.toNat to).map Value.int) := (by have q := A_54; rw [← List.map_set] at q; exact q)
   refine K.aloadN d38_114 (w':=115) rfl rfl rfl ?_
   have f_56 := ((f_19.other W_47 (Or.inl P41)).other W_53 (Or.inl P38))
   refine K.getL d38_115 (w':=118) rfl hw144 f_56 ?_
   refine K.iloadN d38_118 (w':=119) rfl rfl ?_
   refine K.iconst d38_119 (w':=120) rfl (z := -1) rfl ?_
   have f_57 := ((A_18.other W_47 P32).other W_53 (Ne.symm P24))
   refine K.iast d38_120 (w':=121) rfl f_57 (i := mi.toInt.toNat) (by omega) (by simp [-Int32.toNat_toInt]; omega) P19 (fun h_58 W_59 A_60 => ?_)
   have A_61 : Ary Z h_58 na .int (((nl.set pv.toInt.toNat nx).set mi.toInt.toNat (-1)).map Value.int) := (by have q := A_60; rw [← List.map_set] at q; exact q)
   refine K.aloadN d38_121 (w':=122) rfl rfl rfl ?_
   have f_62 := (((f_44.other W_47 (Or.inl P41)).other W_53 (Or.inl P38)).other W_59 (Or.inl P40))
   refine K.getL d38_122 (w':=125) rfl hw146 f_62 ?_
   refine K.iloadN d38_125 (w':=126) rfl rfl ?_
   refine K.iconst d38_126 (w':=127) rfl (z := -1) rfl ?_
   have f_63 := ((A_49.other W_53 (Ne.symm P25)).other W_59 (Ne.symm P32))
   refine K.iast d38_127 (w':=128) rfl f_63 (i := mi.toInt.toNat) (by omega) (by simp [-Int32.toNat_toInt]; omega) P20 (fun h_64 W_65 A_66 => ?_)
   have A_67 : Ary Z h_64 va .int (((vl.set nx.toInt.toNat pv).set mi.toInt.toNat (-1)).map Value.int) := (by have q := A_66; rw [← List.map_set] at q; exact q)
   refine K.aloadN d38_128 (w':=129) rfl rfl rfl ?_
   have f_68 := ((((((P5.keep K_7 (ninS P42 (ninS P43 nin0))).other W_16 (Or.inl P40)).other W_47 (Or.inl P41)).other W_53 (Or.inl P38)).other W_59 (Or.inl P40)).other W_65 (Or.inl P41))
   refine K.getL d38_129 (w':=132) rfl hw142 f_68 ?_
   refine K.iloadN d38_132 (w':=133) rfl rfl ?_
   refine K.iloadN d38_133 (w':=134) rfl rfl ?_
   have f_69 := ((((((P10.keep K_7 (ninS P30 (ninS P31 nin0))).other W_16 P28).other W_47 P29).other W_53 (Ne.symm P23)).other W_59 P28).other W_65 P29)
   refine K.iast d38_134 (w':=135) rfl f_69 (i := to.toInt.toNat) (by omega) (by simp [-Int32.toNat_toInt]; omega) P18 (fun h_70 W_71 A_72 => ?_)
   have A_73 : Ary Z h_70 fa .int ((fl.set to.toInt.toNat mi).map Value.int) := (by have q := A_72; rw [← List.map_set] at q; exact q)
   exact K.ret0 d38_135 (by decide) (by decide) ⟨(fl.set to.toInt.toNat mi), rfl, ((((((((Keep.refl h [pa, fa, na, va, ba, wa]).trans K_7 (allS (Or.inl (by simp)) (allS (Or.inl (by simp)) all0))).wr W_16 (Or.inl (by simp))).wr W_47 (Or.inl (by simp))).wr W_53 (Or.inl (by simp))).wr W_59 (Or.inl (by simp))).wr W_65 (Or.inl (by simp))).wr W_71 (Or.inl (by simp))), A_73, by exact mv_A hPI hto hm (by omega) e_le e_nx e_pv⟩
 ·refine K.aloadN d38_25 (w':=26) rfl rfl rfl ?_
  have f_74 := (P5.keep K_7 (ninS P42 (ninS P43 nin0)))
  refine K.getL d38_26 (w':=29) rfl hw142 f_74 ?_
  refine K.iloadN d38_29 (w':=30) rfl rfl ?_
  refine K.aloadN d38_30 (w':=31) rfl rfl rfl ?_
  have f_75 := (P6.keep K_7 (ninS P42 (ninS P43 nin0)))
  refine K.getL d38_31 (w':=34) rfl hw144 f_75 ?_
  refine K.iloadN d38_34 (w':=35) rfl rfl ?_
  have f_76 := (P11.keep K_7 (ninS P33 (ninS P34 nin0)))
  refine K.iald d38_35 (w':=36) rfl f_76 (i := mi.toInt.toNat) (by omega) (v := (.int nx)) (mget (by rw [← e_nx]; exact getd (by omega))) ?_
  have f_77 := (P10.keep K_7 (ninS P30 (ninS P31 nin0)))
  refine K.iast d38_36 (w':=37) rfl f_77 (i := le.toInt.toNat) (by omega) (by simp [-Int32.toNat_toInt]; omega) P18 (fun h_78 W_79 A_80 => ?_)
  have A_81 : Ary Z h_78 fa .int ((fl.set le.toInt.toNat nx).map Value.int) := (by have q := A_80; rw [← List.map_set] at q; exact q)
  refine K.aloadN d38_37 (w':=38) rfl rfl rfl ?_
  have f_82 := (f_75.other W_79 (Or.inl P39))
  refine K.getL d38_38 (w':=41) rfl hw144 f_82 ?_
  refine K.iloadN d38_41 (w':=42) rfl rfl ?_
  have f_83 := (f_76.other W_79 (Ne.symm P28))
  refine K.iald d38_42 (w':=43) rfl f_83 (i := mi.toInt.toNat) (by omega) (v := (.int nx)) (mget (by rw [← e_nx]; exact getd (by omega))) ?_
  refine K.iconst d38_43 (w':=44) rfl (z := -1) rfl ?_
  refine K.icmp_eq d38_44 (pc1 := 47) rfl (by decide) (pc2 := 80) (by decide) (a := nx.toInt) (b := (-1)) rfl rfl (fun c44 => ?_) (fun c44 => ?_)
  ·refine K.aloadN d38_80 (w':=81) rfl rfl rfl ?_
   refine K.getL d38_81 (w':=84) rfl hw144 f_82 ?_
   refine K.iloadN d38_84 (w':=85) rfl rfl ?_
   refine K.iald d38_85 (w':=86) rfl f_83 (i := mi.toInt.toNat) (by omega) (v := (.int nx)) (mget (by rw [← e_nx]; exact getd (by omega))) ?_
   refine K.iconst d38_86 (w':=87) rfl (z := -1) rfl ?_
   refine K.icmp_eq d38_87 (pc1 := 90) rfl (by decide) (pc2 := 107) (by decide) (a := nx.toInt) (b := (-1)) rfl rfl (fun c87 => ?_) (fun c87 => ?_)
   ·refine K.aloadN d38_107 (w':=108) rfl rfl rfl ?_
    have f_84 := ((P4.keep K_7 (ninS P42 (ninS P43 nin0))).other W_79 (Or.inl P39))
    refine K.getL d38_108 (w':=111) rfl hw140 f_84 ?_
    refine K.iloadN d38_111 (w':=112) rfl rfl ?_
    refine K.iloadN d38_112 (w':=113) rfl rfl ?_
    have f_85 := ((P9.keep K_7 (ninS P26 (ninS P27 nin0))).other W_79 P23)
    refine K.iast d38_113 (w':=114) rfl f_85 (i := mi.toInt.toNat) (by omega) (by simp [-Int32.toNat_toInt]; omega) P17 (fun h_86 W_87 A_88 => ?_)
    have A_89 : Ary Z h_86 pa .int ((pl.set mi.toInt.toNat to).map Value.int) := (by have q := A_88; rw [← List.map_set] at q; exact q)
    refine K.aloadN d38_114 (w':=115) rfl rfl rfl ?_
    have f_90 := (f_82.other W_87 (Or.inl P38))
    refine K.getL d38_115 (w':=118) rfl hw144 f_90 ?_
    refine K.iloadN d38_118 (w':=119) rfl rfl ?_
    refine K.iconst d38_119 (w':=120) rfl (z := -1) rfl ?_
    have f_91 := (f_83.other W_87 (Ne.symm P24))
    refine K.iast d38_120 (w':=121) rfl f_91 (i := mi.toInt.toNat) (by omega) (by simp [-Int32.toNat_toInt]; omega) P19 (fun h_92 W_93 A_94 => ?_)
    have A_95 : Ary Z h_92 na .int ((nl.set mi.toInt.toNat (-1)).map Value.int) := (by have q := A_94; rw [← List.map_set] at q; exact q)
    refine K.aloadN d38_121 (w':=122) rfl rfl rfl ?_
    have f_96 := (((f_11.other W_79 (Or.inl P39)).other W_87 (Or.inl P38)).other W_93 (Or.inl P40))
    refine K.getL d38_122 (w':=125) rfl hw146 f_96 ?_
    refine K.iloadN d38_125 (w':=126) rfl rfl ?_
    refine K.iconst d38_126 (w':=127) rfl (z := -1) rfl ?_
    have f_97 := (((f_12.other W_79 (Ne.symm P29)).other W_87 (Ne.symm P25)).other W_93 (Ne.symm P32))
    refine K.iast d38_127 (w':=128) rfl f_97 (i := mi.toInt.toNat) (by omega) (by simp [-Int32.toNat_toInt]; omega) P20 (fun h_98 W_99 A_100 => ?_)
    have A_101 : Ary Z h_98 va .int ((vl.set mi.toInt.toNat (-1)).map Value.int) := (by have q := A_100; rw [← List.map_set] at q; exact q)
    refine K.aloadN d38_128 (w':=129) rfl rfl rfl ?_
    have f_102 := ((((f_74.other W_79 (Or.inl P39)).other W_87 (Or.inl P38)).other W_93 (Or.inl P40)).other W_99 (Or.inl P41))
    refine K.getL d38_129 (w':=132) rfl hw142 f_102 ?_
    refine K.iloadN d38_132 (w':=133) rfl rfl ?_
    refine K.iloadN d38_133 (w':=134) rfl rfl ?_
    have f_103 := (((A_81.other W_87 (Ne.symm P23)).other W_93 P28).other W_99 P29)
    refine K.iast d38_134 (w':=135) rfl f_103 (i := to.toInt.toNat) (by omega) (by simp [-Int32.toNat_toInt]; omega) P18 (fun h_104 W_105 A_106 => ?_)
    have A_107 : Ary Z h_104 fa .int (((fl.set le.toInt.toNat nx).set to.toInt.toNat mi).map Value.int) := (by have q := A_106; rw [← List.map_set] at q; exact q)
    exact K.ret0 d38_135 (by decide) (by decide) ⟨((fl.set le.toInt.toNat nx).set to.toInt.toNat mi), rfl, (((((((Keep.refl h [pa, fa, na, va, ba, wa]).trans K_7 (allS (Or.inl (by simp)) (allS (Or.inl (by simp)) all0))).wr W_79 (Or.inl (by simp))).wr W_87 (Or.inl (by simp))).wr W_93 (Or.inl (by simp))).wr W_99 (Or.inl (by simp))).wr W_105 (Or.inl (by simp))), A_107, by exact mv_B hPI hto hm (by omega) e_le e_nx e_pv⟩
   ·exfalso; omega
  ·refine K.aloadN d38_47 (w':=48) rfl rfl rfl ?_
   have f_108 := ((P8.keep K_7 (ninS P42 (ninS P43 nin0))).other W_79 (Or.inl P39))
   refine K.getL d38_48 (w':=51) rfl hw169 f_108 ?_
   refine K.aloadN d38_51 (w':=52) rfl rfl rfl ?_
   refine K.getL d38_52 (w':=55) rfl hw144 f_82 ?_
   refine K.iloadN d38_55 (w':=56) rfl rfl ?_
   refine K.iald d38_56 (w':=57) rfl f_83 (i := mi.toInt.toNat) (by omega) (v := (.int nx)) (mget (by rw [← e_nx]; exact getd (by omega))) ?_
   have f_109 := ((P13.keep K_7).wr W_79)
   have f_110 := (f_8.other W_79 (Or.inl (Ne.symm P30)))
   have f_111 := (f_9.other W_79 (Or.inl (Ne.symm P30)))
   have f_112 := ((P1.keep K_7 (allS P21 (allS P22 all0))).wr W_79 P18)
   have f_113 := (f_10.other W_79 (Ne.symm P31))
   refine K.callv (z := (⟨sB, "clear", "(I)V"⟩ : MethodName)) (argsL := [(.int nx)]) (rest := []) d38_57 (w':=60) rfl (c_bc_ l Z a0 hw n0 h_78 (b := ba) (w := wa) (u := u1_5) (x := x1_6) (i := nx) f_112 P2 f_109 P21 P22 P37 f_110 f_111 f_113 (by omega) (by omega)) f_109 hw221 hw222 (nf_sel hw224 rfl) hw224 hw223 hw150 hw225 (by decide) pd_16 rfl rfl (W := 0) (Nat.le_refl _) (by decide) (by decide) (by decide) (by decide) (fun v_116 h_114 q_115 => ?_)
   obtain ⟨u1_118, x1_119, rfl, K_120, f_121, f_122, f_123, hu1_w_117⟩ := q_115
   show G h_114 0 0 (mkF m 60 #[vr a, vi mi, vi to, vi le] [])
   refine K.goto d38_60 (by decide) (w':=80) (by decide) ?_
   refine K.aloadN d38_80 (w':=81) rfl rfl rfl ?_
   have f_124 := (f_82.keep K_120 (ninS P42 (ninS P43 nin0)))
   refine K.getL d38_81 (w':=84) rfl hw144 f_124 ?_
   refine K.iloadN d38_84 (w':=85) rfl rfl ?_
   have f_125 := (f_83.keep K_120 (ninS P33 (ninS P34 nin0)))
   refine K.iald d38_85 (w':=86) rfl f_125 (i := mi.toInt.toNat) (by omega) (v := (.int nx)) (mget (by rw [← e_nx]; exact getd (by omega))) ?_
   refine K.iconst d38_86 (w':=87) rfl (z := -1) rfl ?_
   refine K.icmp_eq d38_87 (pc1 := 90) rfl (by decide) (pc2 := 107) (by decide) (a := nx.toInt) (b := (-1)) rfl rfl (fun c87 => ?_) (fun c87 => ?_)
   ·exfalso; omega
   ·refine K.aloadN d38_90 (w':=91) rfl rfl rfl ?_
    have f_126 := ((f_11.other W_79 (Or.inl P39)).keep K_120 (ninS P42 (ninS P43 nin0)))
    refine K.getL d38_91 (w':=94) rfl hw146 f_126 ?_
    refine K.aloadN d38_94 (w':=95) rfl rfl rfl ?_
    refine K.getL d38_95 (w':=98) rfl hw144 f_124 ?_
    refine K.iloadN d38_98 (w':=99) rfl rfl ?_
    refine K.iald d38_99 (w':=100) rfl f_125 (i := mi.toInt.toNat) (by omega) (v := (.int nx)) (mget (by rw [← e_nx]; exact getd (by omega))) ?_
    refine K.aloadN d38_100 (w':=101) rfl rfl rfl ?_
    refine K.getL d38_101 (w':=104) rfl hw146 f_126 ?_
    refine K.iloadN d38_104 (w':=105) rfl rfl ?_
    have f_127 := ((f_12.other W_79 (Ne.symm P29)).keep K_120 (ninS P35 (ninS P36 nin0)))
    refine K.iald d38_105 (w':=106) rfl f_127 (i := mi.toInt.toNat) (by omega) (v := (.int pv)) (mget (by rw [← e_pv]; exact getd (by omega))) ?_
    refine K.iast d38_106 (w':=107) rfl f_127 (i := nx.toInt.toNat) (by omega) (by simp [-Int32.toNat_toInt]; omega) P20 (fun h_128 W_129 A_130 => ?_)
    have A_131 : Ary Z h_128 va .int ((vl.set nx.toInt.toNat pv).map Value.int) := (by have q := A_130; rw [← List.map_set] at q; exact q)
    refine K.aloadN d38_107 (w':=108) rfl rfl rfl ?_
    have f_132 := ((((P4.keep K_7 (ninS P42 (ninS P43 nin0))).other W_79 (Or.inl P39)).keep K_120 (ninS P42 (ninS P43 nin0))).other W_129 (Or.inl P41))
    refine K.getL d38_108 (w':=111) rfl hw140 f_132 ?_
    refine K.iloadN d38_111 (w':=112) rfl rfl ?_
    refine K.iloadN d38_112 (w':=113) rfl rfl ?_
    have f_133 := ((((P9.keep K_7 (ninS P26 (ninS P27 nin0))).other W_79 P23).keep K_120 (ninS P26 (ninS P27 nin0))).other W_129 P25)
    refine K.iast d38_113 (w':=114) rfl f_133 (i := mi.toInt.toNat) (by omega) (by simp [-Int32.toNat_toInt]; omega) P17 (fun h_134 W_135 A_136 => ?_)
    have A_137 : Ary Z h_134 pa .int ((pl.set mi.toInt.toNat to).map Value.int) := (by have q := A_136; rw [← List.map_set] at q; exact q)
    refine K.aloadN d38_114 (w':=115) rfl rfl rfl ?_
    have f_138 := ((f_124.other W_129 (Or.inl P41)).other W_135 (Or.inl P38))
    refine K.getL d38_115 (w':=118) rfl hw144 f_138 ?_
    refine K.iloadN d38_118 (w':=119) rfl rfl ?_
    refine K.iconst d38_119 (w':=120) rfl (z := -1) rfl ?_
    have f_139 := ((f_125.other W_129 P32).other W_135 (Ne.symm P24))
    refine K.iast d38_120 (w':=121) rfl f_139 (i := mi.toInt.toNat) (by omega) (by simp [-Int32.toNat_toInt]; omega) P19 (fun h_140 W_141 A_142 => ?_)
    have A_143 : Ary Z h_140 na .int ((nl.set mi.toInt.toNat (-1)).map Value.int) := (by have q := A_142; rw [← List.map_set] at q; exact q)
    refine K.aloadN d38_121 (w':=122) rfl rfl rfl ?_
    have f_144 := (((f_126.other W_129 (Or.inl P41)).other W_135 (Or.inl P38)).other W_141 (Or.inl P40))
    refine K.getL d38_122 (w':=125) rfl hw146 f_144 ?_
    refine K.iloadN d38_125 (w':=126) rfl rfl ?_
    refine K.iconst d38_126 (w':=127) rfl (z := -1) rfl ?_
    have f_145 := ((A_131.other W_135 (Ne.symm P25)).other W_141 (Ne.symm P32))
    refine K.iast d38_127 (w':=128) rfl f_145 (i := mi.toInt.toNat) (by omega) (by simp [-Int32.toNat_toInt]; omega) P20 (fun h_146 W_147 A_148 => ?_)
    have A_149 : Ary Z h_146 va .int (((vl.set nx.toInt.toNat pv).set mi.toInt.toNat (-1)).map Value.int) := (by have q := A_148; rw [← List.map_set] at q; exact q)
    refine K.aloadN d38_128 (w':=129) rfl rfl rfl ?_
    have f_150 := ((((((f_74.other W_79 (Or.inl P39)).keep K_120 (ninS P42 (ninS P43 nin0))).other W_129 (Or.inl P41)).other W_135 (Or.inl P38)).other W_141 (Or.inl P40)).other W_147 (Or.inl P41))
    refine K.getL d38_129 (w':=132) rfl hw142 f_150 ?_
    refine K.iloadN d38_132 (w':=133) rfl rfl ?_
    refine K.iloadN d38_133 (w':=134) rfl rfl ?_
    have f_151 := (((((A_81.keep K_120 (ninS P30 (ninS P31 nin0))).other W_129 P29).other W_135 (Ne.symm P23)).other W_141 P28).other W_147 P29)
    refine K.iast d38_134 (w':=135) rfl f_151 (i := to.toInt.toNat) (by omega) (by simp [-Int32.toNat_toInt]; omega) P18 (fun h_152 W_153 A_154 => ?_)
    have A_155 : Ary Z h_152 fa .int (((fl.set le.toInt.toNat nx).set to.toInt.toNat mi).map Value.int) := (by have q := A_154; rw [← List.map_set] at q; exact q)
    exact K.ret0 d38_135 (by decide) (by decide) ⟨((fl.set le.toInt.toNat nx).set to.toInt.toNat mi), rfl, (((((((((Keep.refl h [pa, fa, na, va, ba, wa]).trans K_7 (allS (Or.inl (by simp)) (allS (Or.inl (by simp)) all0))).wr W_79 (Or.inl (by simp))).trans K_120 (allS (Or.inl (by simp)) (allS (Or.inl (by simp)) all0))).wr W_129 (Or.inl (by simp))).wr W_135 (Or.inl (by simp))).wr W_141 (Or.inl (by simp))).wr W_147 (Or.inl (by simp))).wr W_153 (Or.inl (by simp))), A_155, by exact mv_B hPI hto hm (by omega) e_le e_nx e_pv⟩
theorem d37_0 : decode B37 0 = .ok (.aload_n 0, 1) := by decide +kernel
theorem d37_1 : decode B37 1 = .ok (.getfield 23, 3) := by decide +kernel
theorem d37_4 : decode B37 4 = .ok (.iload_n 1, 1) := by decide +kernel
theorem d37_5 : decode B37 5 = .ok (.iaload, 1) := by decide +kernel
theorem d37_6 : decode B37 6 = .ok (.iconst (-1), 1) := by decide +kernel
theorem d37_7 : decode B37 7 = .ok (.if_icmp .eq 7, 3) := by decide +kernel
theorem d37_14 : decode B37 14 = .ok (.iconst 0, 1) := by decide +kernel
theorem d37_15 : decode B37 15 = .ok (.ireturn, 1) := by decide +kernel
theorem d37_10 : decode B37 10 = .ok (.iconst 1, 1) := by decide +kernel
theorem d37_11 : decode B37 11 = .ok (.goto 4, 3) := by decide +kernel
theorem c_cov (l : Launch) (Z : State) (a0 : Array Value) (hw : HW a0 Z) (n0 : Nat) (h : Heap) (a : Addr) (fa : Addr) (p : Int32) (f : Int32) (fl : List Int32) (P1 : Exa Z h a sP) (P2 : Fld Z h a sP "first" "[I" (.ref fa)) (P3 : Ary Z h fa .int (fl.map Value.int)) (hf : 0 ≤ p.toInt ∧ fl[p.toInt.toNat]? = some f) : MeetsW l Z n0 (⟨sP, "covered", "(I)Z"⟩ : MethodName) B37 2 (some .boolean) ({ frames := 0, cells := 0, slots := 0, locals := 0 } : Room) #[(.ref a), (.int p)] h (fun v h' => v = some (.int (b2 (f.toInt ≠ -1))) ∧ h = h') := by
 refine MeetsW.intro (plainFor_of_name pn_com_example_odograph_odograph_online_Placement) (L0 := #[vr a, vi p]) (fun m => rfl) ?_
 intro m G K0
 have K : Cx l ({ frames := 0, cells := 0, slots := 0, locals := 0 } : Room) Z n0 _ sP "covered" B37 2 (some .boolean) m G := K0
 have hw142 := tb hw (i:=142) rfl
 refine K.aloadN d37_0 (w':=1) rfl rfl rfl ?_
 refine K.getL d37_1 (w':=4) rfl hw142 P2 ?_
 refine K.iloadN d37_4 (w':=5) rfl rfl ?_
 refine K.iald d37_5 (w':=6) rfl P3 (i := p.toInt.toNat) (by omega) (v := (.int f)) (mget hf.2) ?_
 refine K.iconst d37_6 (w':=7) rfl (z := -1) rfl ?_
 refine K.icmp_eq d37_7 (pc1 := 10) rfl (by decide) (pc2 := 14) (by decide) (a := f.toInt) (b := (-1)) rfl rfl (fun c7 => ?_) (fun c7 => ?_)
 ·refine K.iconst d37_14 (w':=15) rfl (z := 0) rfl ?_
  exact K.retz d37_15 (Or.inl rfl) (by decide) (by decide) ⟨by rw [b2_f (by omega)], rfl⟩
 ·refine K.iconst d37_10 (w':=11) rfl (z := 1) rfl ?_
  refine K.goto d37_11 (by decide) (w':=15) (by decide) ?_
  exact K.retz d37_15 (Or.inr rfl) (by decide) (by decide) ⟨by rw [b2_t (by omega)], rfl⟩
theorem d36_0 : decode B36 0 = .ok (.aload_n 0, 1) := by decide +kernel
theorem d36_1 : decode B36 1 = .ok (.getfield 23, 3) := by decide +kernel
theorem d36_4 : decode B36 4 = .ok (.arraylength, 1) := by decide +kernel
theorem d36_5 : decode B36 5 = .ok (.ireturn, 1) := by decide +kernel
theorem c_psn (l : Launch) (Z : State) (a0 : Array Value) (hw : HW a0 Z) (n0 : Nat) (h : Heap) (a : Addr) (fa : Addr) (fl : List Int32) (P1 : Exa Z h a sP) (P2 : Fld Z h a sP "first" "[I" (.ref fa)) (P3 : Ary Z h fa .int (fl.map Value.int)) : MeetsW l Z n0 (⟨sP, "positions", "()I"⟩ : MethodName) B36 1 (some .int) ({ frames := 0, cells := 0, slots := 0, locals := 0 } : Room) #[(.ref a)] h (fun v h' => ∃ (z : Int32), v = some (.int z) ∧ (z.toInt = (fl.length : Nat)) ∧ h = h') := by
 refine MeetsW.intro (plainFor_of_name pn_com_example_odograph_odograph_online_Placement) (L0 := #[vr a]) (fun m => rfl) ?_
 intro m G K0
 have K : Cx l ({ frames := 0, cells := 0, slots := 0, locals := 0 } : Room) Z n0 _ sP "positions" B36 1 (some .int) m G := K0
 have hw142 := tb hw (i:=142) rfl
 refine K.aloadN d36_0 (w':=1) rfl rfl rfl ?_
 refine K.getL d36_1 (w':=4) rfl hw142 P2 ?_
 refine K.alen d36_4 (w':=5) rfl P3 (fun n1 e_n1 => ?_)
 exact K.reti d36_5 (by decide) (by decide) ⟨n1, rfl, by simpa using e_n1, rfl⟩
/-- z says whether P holds -/
def pr (P : Prop) (z : Int32) : Prop := (z.toInt = 1 ∧ P) ∨ (z.toInt = 0 ∧ ¬ P)
theorem d34_0 : decode B34 0 = .ok (.lload_n 0, 1) := by decide +kernel
theorem d34_1 : decode B34 1 = .ok (.lload_n 2, 1) := by decide +kernel
theorem d34_2 : decode B34 2 = .ok (.lcmp, 1) := by decide +kernel
theorem d34_3 : decode B34 3 = .ok (.ifCond .eq 10, 3) := by decide +kernel
theorem d34_13 : decode B34 13 = .ok (.iconst 1, 1) := by decide +kernel
theorem d34_14 : decode B34 14 = .ok (.ireturn, 1) := by decide +kernel
theorem d34_6 : decode B34 6 = .ok (.lload_n 0, 1) := by decide +kernel
theorem d34_7 : decode B34 7 = .ok (.lload 4, 2) := by decide +kernel
theorem d34_9 : decode B34 9 = .ok (.lcmp, 1) := by decide +kernel
theorem d34_10 : decode B34 10 = .ok (.ifCond .ne 5, 3) := by decide +kernel
theorem d34_15 : decode B34 15 = .ok (.iload 12, 2) := by decide +kernel
theorem d34_17 : decode B34 17 = .ok (.ifCond .eq 5, 3) := by decide +kernel
theorem d34_20 : decode B34 20 = .ok (.iconst 0, 1) := by decide +kernel
theorem d34_21 : decode B34 21 = .ok (.ireturn, 1) := by decide +kernel
theorem c_prc (l : Launch) (Z : State) (a0 : Array Value) (hw : HW a0 Z) (n0 : Nat) (h : Heap) (p : Int64) (r0 : Int64) (r1 : Int64) (s0 : Int64) (s1 : Int64) (s2 : Int64)  : MeetsW l Z n0 (⟨sW, "present", "(JJJJJJZ)Z"⟩ : MethodName) B34 13 (some .boolean) ({ frames := 0, cells := 0, slots := 0, locals := 0 } : Room) #[(.long p), (.long r0), (.long r1), (.long s0), (.long s1), (.long s2), (.int 1)] h (fun v h' => ∃ (z : Int32), v = some (.int z) ∧ (pr (p.toInt = r0.toInt ∨ p.toInt = r1.toInt) z ∧ 0 ≤ z.toInt ∧ z.toInt ≤ 1) ∧ h = h') := by
 refine MeetsW.intro (plainFor_of_name pn_com_example_odograph_odograph_online_PlacementCoveredPinLaw) (L0 := #[vj p, se, vj r0, se, vj r1, se, vj s0, se, vj s1, se, vj s2, se, vi 1]) (fun m => by first | (simp [entryFrame, mkF, argsToLocals, Value.category]; done) | rfl) ?_
 intro m G K0
 have K : Cx l ({ frames := 0, cells := 0, slots := 0, locals := 0 } : Room) Z n0 _ sW "present" B34 13 (some .boolean) m G := K0
 refine K.lloadN d34_0 (w':=1) rfl rfl ?_
 refine K.lloadN d34_1 (w':=2) rfl rfl ?_
 refine K.lcmp_eq d34_2 d34_3 (pc1 := 6) rfl (by decide) (pc2 := 13) (by decide) (a := p.toInt) (b := r0.toInt) rfl rfl (fun c2 => ?_) (fun c2 => ?_)
 ·refine K.iconst d34_13 (w':=14) rfl (z := 1) rfl ?_
  exact K.retz d34_14 (Or.inr rfl) (by decide) (by decide) ⟨(1 : Int32), rfl, by exact ⟨(by unfold pr; first | exact Or.inl ⟨rfl, by omega⟩ | exact Or.inr ⟨rfl, by omega⟩), by decide, by decide⟩, rfl⟩
 ·refine K.lloadN d34_6 (w':=7) rfl rfl ?_
  refine K.lload d34_7 (w':=9) rfl rfl ?_
  refine K.lcmp_ne d34_9 d34_10 (pc1 := 13) rfl (by decide) (pc2 := 15) (by decide) (a := p.toInt) (b := r1.toInt) rfl rfl (fun c9 => ?_) (fun c9 => ?_)
  ·refine K.iload d34_15 (w':=17) rfl rfl ?_
   refine K.if_eq d34_17 (pc1 := 20) rfl (by decide) (pc2 := 22) (by decide) (a := 1) rfl (fun c17 => ?_) (fun c17 => ?_)
   ·exfalso; omega
   ·refine K.iconst d34_20 (w':=21) rfl (z := 0) rfl ?_
    exact K.retz d34_21 (Or.inl rfl) (by decide) (by decide) ⟨(0 : Int32), rfl, by exact ⟨(by unfold pr; first | exact Or.inl ⟨rfl, by omega⟩ | exact Or.inr ⟨rfl, by omega⟩), by decide, by decide⟩, rfl⟩
  ·refine K.iconst d34_13 (w':=14) rfl (z := 1) rfl ?_
   exact K.retz d34_14 (Or.inr rfl) (by decide) (by decide) ⟨(1 : Int32), rfl, by exact ⟨(by unfold pr; first | exact Or.inl ⟨rfl, by omega⟩ | exact Or.inr ⟨rfl, by omega⟩), by decide, by decide⟩, rfl⟩
theorem d34_22 : decode B34 22 = .ok (.lload_n 0, 1) := by decide +kernel
theorem d34_23 : decode B34 23 = .ok (.lload 6, 2) := by decide +kernel
theorem d34_25 : decode B34 25 = .ok (.lcmp, 1) := by decide +kernel
theorem d34_26 : decode B34 26 = .ok (.ifCond .eq 17, 3) := by decide +kernel
theorem d34_43 : decode B34 43 = .ok (.iconst 1, 1) := by decide +kernel
theorem d34_44 : decode B34 44 = .ok (.goto 4, 3) := by decide +kernel
theorem d34_48 : decode B34 48 = .ok (.ireturn, 1) := by decide +kernel
theorem d34_29 : decode B34 29 = .ok (.lload_n 0, 1) := by decide +kernel
theorem d34_30 : decode B34 30 = .ok (.lload 8, 2) := by decide +kernel
theorem d34_32 : decode B34 32 = .ok (.lcmp, 1) := by decide +kernel
theorem d34_33 : decode B34 33 = .ok (.ifCond .eq 10, 3) := by decide +kernel
theorem d34_36 : decode B34 36 = .ok (.lload_n 0, 1) := by decide +kernel
theorem d34_37 : decode B34 37 = .ok (.lload 10, 2) := by decide +kernel
theorem d34_39 : decode B34 39 = .ok (.lcmp, 1) := by decide +kernel
theorem d34_40 : decode B34 40 = .ok (.ifCond .ne 7, 3) := by decide +kernel
theorem d34_47 : decode B34 47 = .ok (.iconst 0, 1) := by decide +kernel
theorem c_prw (l : Launch) (Z : State) (a0 : Array Value) (hw : HW a0 Z) (n0 : Nat) (h : Heap) (p : Int64) (r0 : Int64) (r1 : Int64) (s0 : Int64) (s1 : Int64) (s2 : Int64)  : MeetsW l Z n0 (⟨sW, "present", "(JJJJJJZ)Z"⟩ : MethodName) B34 13 (some .boolean) ({ frames := 0, cells := 0, slots := 0, locals := 0 } : Room) #[(.long p), (.long r0), (.long r1), (.long s0), (.long s1), (.long s2), (.int 0)] h (fun v h' => ∃ (z : Int32), v = some (.int z) ∧ (pr ((p.toInt = r0.toInt ∨ p.toInt = r1.toInt) ∨ (p.toInt = s0.toInt ∨ p.toInt = s1.toInt ∨ p.toInt = s2.toInt)) z ∧ 0 ≤ z.toInt ∧ z.toInt ≤ 1) ∧ h = h') := by
 refine MeetsW.intro (plainFor_of_name pn_com_example_odograph_odograph_online_PlacementCoveredPinLaw) (L0 := #[vj p, se, vj r0, se, vj r1, se, vj s0, se, vj s1, se, vj s2, se, vi 0]) (fun m => by first | (simp [entryFrame, mkF, argsToLocals, Value.category]; done) | rfl) ?_
 intro m G K0
 have K : Cx l ({ frames := 0, cells := 0, slots := 0, locals := 0 } : Room) Z n0 _ sW "present" B34 13 (some .boolean) m G := K0
 refine K.lloadN d34_0 (w':=1) rfl rfl ?_
 refine K.lloadN d34_1 (w':=2) rfl rfl ?_
 refine K.lcmp_eq d34_2 d34_3 (pc1 := 6) rfl (by decide) (pc2 := 13) (by decide) (a := p.toInt) (b := r0.toInt) rfl rfl (fun c2 => ?_) (fun c2 => ?_)
 ·refine K.iconst d34_13 (w':=14) rfl (z := 1) rfl ?_
  exact K.retz d34_14 (Or.inr rfl) (by decide) (by decide) ⟨(1 : Int32), rfl, by exact ⟨(by unfold pr; first | exact Or.inl ⟨rfl, by omega⟩ | exact Or.inr ⟨rfl, by omega⟩), by decide, by decide⟩, rfl⟩
 ·refine K.lloadN d34_6 (w':=7) rfl rfl ?_
  refine K.lload d34_7 (w':=9) rfl rfl ?_
  refine K.lcmp_ne d34_9 d34_10 (pc1 := 13) rfl (by decide) (pc2 := 15) (by decide) (a := p.toInt) (b := r1.toInt) rfl rfl (fun c9 => ?_) (fun c9 => ?_)
  ·refine K.iload d34_15 (w':=17) rfl rfl ?_
   refine K.if_eq d34_17 (pc1 := 20) rfl (by decide) (pc2 := 22) (by decide) (a := 0) rfl (fun c17 => ?_) (fun c17 => ?_)
   ·refine K.lloadN d34_22 (w':=23) rfl rfl ?_
    refine K.lload d34_23 (w':=25) rfl rfl ?_
    refine K.lcmp_eq d34_25 d34_26 (pc1 := 29) rfl (by decide) (pc2 := 43) (by decide) (a := p.toInt) (b := s0.toInt) rfl rfl (fun c25 => ?_) (fun c25 => ?_)
    ·refine K.iconst d34_43 (w':=44) rfl (z := 1) rfl ?_
     refine K.goto d34_44 (by decide) (w':=48) (by decide) ?_
     exact K.retz d34_48 (Or.inr rfl) (by decide) (by decide) ⟨(1 : Int32), rfl, by exact ⟨(by unfold pr; first | exact Or.inl ⟨rfl, by omega⟩ | exact Or.inr ⟨rfl, by omega⟩), by decide, by decide⟩, rfl⟩
    ·refine K.lloadN d34_29 (w':=30) rfl rfl ?_
     refine K.lload d34_30 (w':=32) rfl rfl ?_
     refine K.lcmp_eq d34_32 d34_33 (pc1 := 36) rfl (by decide) (pc2 := 43) (by decide) (a := p.toInt) (b := s1.toInt) rfl rfl (fun c32 => ?_) (fun c32 => ?_)
     ·refine K.iconst d34_43 (w':=44) rfl (z := 1) rfl ?_
      refine K.goto d34_44 (by decide) (w':=48) (by decide) ?_
      exact K.retz d34_48 (Or.inr rfl) (by decide) (by decide) ⟨(1 : Int32), rfl, by exact ⟨(by unfold pr; first | exact Or.inl ⟨rfl, by omega⟩ | exact Or.inr ⟨rfl, by omega⟩), by decide, by decide⟩, rfl⟩
     ·refine K.lloadN d34_36 (w':=37) rfl rfl ?_
      refine K.lload d34_37 (w':=39) rfl rfl ?_
      refine K.lcmp_ne d34_39 d34_40 (pc1 := 43) rfl (by decide) (pc2 := 47) (by decide) (a := p.toInt) (b := s2.toInt) rfl rfl (fun c39 => ?_) (fun c39 => ?_)
      ·refine K.iconst d34_47 (w':=48) rfl (z := 0) rfl ?_
       exact K.retz d34_48 (Or.inl rfl) (by decide) (by decide) ⟨(0 : Int32), rfl, by exact ⟨(by unfold pr; first | exact Or.inl ⟨rfl, by omega⟩ | exact Or.inr ⟨rfl, by omega⟩), by decide, by decide⟩, rfl⟩
      ·refine K.iconst d34_43 (w':=44) rfl (z := 1) rfl ?_
       refine K.goto d34_44 (by decide) (w':=48) (by decide) ?_
       exact K.retz d34_48 (Or.inr rfl) (by decide) (by decide) ⟨(1 : Int32), rfl, by exact ⟨(by unfold pr; first | exact Or.inl ⟨rfl, by omega⟩ | exact Or.inr ⟨rfl, by omega⟩), by decide, by decide⟩, rfl⟩
   ·exfalso; omega
  ·refine K.iconst d34_13 (w':=14) rfl (z := 1) rfl ?_
   exact K.retz d34_14 (Or.inr rfl) (by decide) (by decide) ⟨(1 : Int32), rfl, by exact ⟨(by unfold pr; first | exact Or.inl ⟨rfl, by omega⟩ | exact Or.inr ⟨rfl, by omega⟩), by decide, by decide⟩, rfl⟩
theorem d35_0 : decode B35 0 = .ok (.iconst 0, 1) := by decide +kernel
theorem d35_1 : decode B35 1 = .ok (.istore 5, 2) := by decide +kernel
theorem d35_3 : decode B35 3 = .ok (.lload_n 0, 1) := by decide +kernel
theorem d35_4 : decode B35 4 = .ok (.lconst 0, 1) := by decide +kernel
theorem d35_5 : decode B35 5 = .ok (.lcmp, 1) := by decide +kernel
theorem d35_6 : decode B35 6 = .ok (.ifCond .le 10, 3) := by decide +kernel
theorem d35_16 : decode B35 16 = .ok (.lload_n 0, 1) := by decide +kernel
theorem d35_17 : decode B35 17 = .ok (.lconst 1, 1) := by decide +kernel
theorem d35_18 : decode B35 18 = .ok (.lcmp, 1) := by decide +kernel
theorem d35_19 : decode B35 19 = .ok (.ifCond .le 10, 3) := by decide +kernel
theorem d35_29 : decode B35 29 = .ok (.lload_n 0, 1) := by decide +kernel
theorem d35_30 : decode B35 30 = .ok (.ldc2_w 14, 3) := by decide +kernel
theorem d35_33 : decode B35 33 = .ok (.lcmp, 1) := by decide +kernel
theorem d35_34 : decode B35 34 = .ok (.ifCond .le 11, 3) := by decide +kernel
theorem d35_45 : decode B35 45 = .ok (.iload 5, 2) := by decide +kernel
theorem d35_47 : decode B35 47 = .ok (.ireturn, 1) := by decide +kernel
theorem d35_37 : decode B35 37 = .ok (.iload 4, 2) := by decide +kernel
theorem d35_39 : decode B35 39 = .ok (.ifCond .eq 6, 3) := by decide +kernel
theorem d35_42 : decode B35 42 = .ok (.iinc 5 1, 3) := by decide +kernel
theorem d35_22 : decode B35 22 = .ok (.iload_n 3, 1) := by decide +kernel
theorem d35_23 : decode B35 23 = .ok (.ifCond .eq 6, 3) := by decide +kernel
theorem d35_26 : decode B35 26 = .ok (.iinc 5 1, 3) := by decide +kernel
theorem d35_9 : decode B35 9 = .ok (.iload_n 2, 1) := by decide +kernel
theorem d35_10 : decode B35 10 = .ok (.ifCond .eq 6, 3) := by decide +kernel
theorem d35_13 : decode B35 13 = .ok (.iinc 5 1, 3) := by decide +kernel
theorem c_idx (l : Launch) (Z : State) (a0 : Array Value) (hw : HW a0 Z) (n0 : Nat) (h : Heap) (p : Int64) (x0 : Int32) (x1 : Int32) (x2 : Int32)  : MeetsW l Z n0 (⟨sW, "idx", "(JZZZ)I"⟩ : MethodName) B35 6 (some .int) ({ frames := 0, cells := 0, slots := 0, locals := 0 } : Room) #[(.long p), (.int x0), (.int x1), (.int x2)] h (fun v h' => ∃ (z : Int32), v = some (.int z) ∧ (z.toInt = (if 0 < p.toInt ∧ x0.toInt ≠ 0 then (1 : Int) else 0) + (if 1 < p.toInt ∧ x1.toInt ≠ 0 then (1 : Int) else 0) + (if 2 < p.toInt ∧ x2.toInt ≠ 0 then (1 : Int) else 0)) ∧ h = h') := by
 refine MeetsW.intro (plainFor_of_name pn_com_example_odograph_odograph_online_PlacementCoveredPinLaw) (L0 := #[vj p, se, vi x0, vi x1, vi x2, un]) (fun m => rfl) ?_
 intro m G K0
 have K : Cx l ({ frames := 0, cells := 0, slots := 0, locals := 0 } : Room) Z n0 _ sW "idx" B35 6 (some .int) m G := K0
 have hw7 := tb hw (i:=7) rfl
 refine K.iconst d35_0 (w':=1) rfl (z := 0) rfl ?_
 refine K.istore d35_1 (w':=3) rfl (L' := #[vj p, se, vi x0, vi x1, vi x2, vi 0]) rfl ?_
 refine K.lloadN d35_3 (w':=4) rfl rfl ?_
 refine K.lconst d35_4 (w':=5) rfl (z := 0) rfl ?_
 refine K.lcmp_le d35_5 d35_6 (pc1 := 9) rfl (by decide) (pc2 := 16) (by decide) (a := p.toInt) (b := 0) rfl rfl (fun c5 => ?_) (fun c5 => ?_)
 ·refine K.lloadN d35_16 (w':=17) rfl rfl ?_
  refine K.lconst d35_17 (w':=18) rfl (z := 1) rfl ?_
  refine K.lcmp_le d35_18 d35_19 (pc1 := 22) rfl (by decide) (pc2 := 29) (by decide) (a := p.toInt) (b := 1) rfl rfl (fun c18 => ?_) (fun c18 => ?_)
  ·refine K.lloadN d35_29 (w':=30) rfl rfl ?_
   refine K.ldc2J d35_30 (w':=33) rfl hw7 ?_
   refine K.lcmp_le d35_33 d35_34 (pc1 := 37) rfl (by decide) (pc2 := 45) (by decide) (a := p.toInt) (b := 2) rfl rfl (fun c33 => ?_) (fun c33 => ?_)
   ·refine K.iload d35_45 (w':=47) rfl rfl ?_
    exact K.reti d35_47 (by decide) (by decide) ⟨(0 : Int32), rfl, by have ev : (0 : Int32).toInt = 0 := rfl; first | omega | ((repeat' split) <;> omega), rfl⟩
   ·refine K.iload d35_37 (w':=39) rfl rfl ?_
    refine K.if_eq d35_39 (pc1 := 42) rfl (by decide) (pc2 := 45) (by decide) (a := x2.toInt) rfl (fun c39 => ?_) (fun c39 => ?_)
    ·refine K.iload d35_45 (w':=47) rfl rfl ?_
     exact K.reti d35_47 (by decide) (by decide) ⟨(0 : Int32), rfl, by have ev : (0 : Int32).toInt = 0 := rfl; first | omega | ((repeat' split) <;> omega), rfl⟩
    ·refine K.iinc d35_42 (w':=45) rfl rfl (z := (1 : Int32)) rfl (L' := #[vj p, se, vi x0, vi x1, vi x2, vi 1]) rfl ?_
     refine K.iload d35_45 (w':=47) rfl rfl ?_
     exact K.reti d35_47 (by decide) (by decide) ⟨(1 : Int32), rfl, by have ev : (1 : Int32).toInt = 1 := rfl; first | omega | ((repeat' split) <;> omega), rfl⟩
  ·refine K.iloadN d35_22 (w':=23) rfl rfl ?_
   refine K.if_eq d35_23 (pc1 := 26) rfl (by decide) (pc2 := 29) (by decide) (a := x1.toInt) rfl (fun c23 => ?_) (fun c23 => ?_)
   ·refine K.lloadN d35_29 (w':=30) rfl rfl ?_
    refine K.ldc2J d35_30 (w':=33) rfl hw7 ?_
    refine K.lcmp_le d35_33 d35_34 (pc1 := 37) rfl (by decide) (pc2 := 45) (by decide) (a := p.toInt) (b := 2) rfl rfl (fun c33 => ?_) (fun c33 => ?_)
    ·refine K.iload d35_45 (w':=47) rfl rfl ?_
     exact K.reti d35_47 (by decide) (by decide) ⟨(0 : Int32), rfl, by have ev : (0 : Int32).toInt = 0 := rfl; first | omega | ((repeat' split) <;> omega), rfl⟩
    ·refine K.iload d35_37 (w':=39) rfl rfl ?_
     refine K.if_eq d35_39 (pc1 := 42) rfl (by decide) (pc2 := 45) (by decide) (a := x2.toInt) rfl (fun c39 => ?_) (fun c39 => ?_)
     ·refine K.iload d35_45 (w':=47) rfl rfl ?_
      exact K.reti d35_47 (by decide) (by decide) ⟨(0 : Int32), rfl, by have ev : (0 : Int32).toInt = 0 := rfl; first | omega | ((repeat' split) <;> omega), rfl⟩
     ·refine K.iinc d35_42 (w':=45) rfl rfl (z := (1 : Int32)) rfl (L' := #[vj p, se, vi x0, vi x1, vi x2, vi 1]) rfl ?_
      refine K.iload d35_45 (w':=47) rfl rfl ?_
      exact K.reti d35_47 (by decide) (by decide) ⟨(1 : Int32), rfl, by have ev : (1 : Int32).toInt = 1 := rfl; first | omega | ((repeat' split) <;> omega), rfl⟩
   ·refine K.iinc d35_26 (w':=29) rfl rfl (z := (1 : Int32)) rfl (L' := #[vj p, se, vi x0, vi x1, vi x2, vi 1]) rfl ?_
    refine K.lloadN d35_29 (w':=30) rfl rfl ?_
    refine K.ldc2J d35_30 (w':=33) rfl hw7 ?_
    refine K.lcmp_le d35_33 d35_34 (pc1 := 37) rfl (by decide) (pc2 := 45) (by decide) (a := p.toInt) (b := 2) rfl rfl (fun c33 => ?_) (fun c33 => ?_)
    ·refine K.iload d35_45 (w':=47) rfl rfl ?_
     exact K.reti d35_47 (by decide) (by decide) ⟨(1 : Int32), rfl, by have ev : (1 : Int32).toInt = 1 := rfl; first | omega | ((repeat' split) <;> omega), rfl⟩
    ·refine K.iload d35_37 (w':=39) rfl rfl ?_
     refine K.if_eq d35_39 (pc1 := 42) rfl (by decide) (pc2 := 45) (by decide) (a := x2.toInt) rfl (fun c39 => ?_) (fun c39 => ?_)
     ·refine K.iload d35_45 (w':=47) rfl rfl ?_
      exact K.reti d35_47 (by decide) (by decide) ⟨(1 : Int32), rfl, by have ev : (1 : Int32).toInt = 1 := rfl; first | omega | ((repeat' split) <;> omega), rfl⟩
     ·refine K.iinc d35_42 (w':=45) rfl rfl (z := (2 : Int32)) rfl (L' := #[vj p, se, vi x0, vi x1, vi x2, vi 2]) rfl ?_
      refine K.iload d35_45 (w':=47) rfl rfl ?_
      exact K.reti d35_47 (by decide) (by decide) ⟨(2 : Int32), rfl, by have ev : (2 : Int32).toInt = 2 := rfl; first | omega | ((repeat' split) <;> omega), rfl⟩
 ·refine K.iloadN d35_9 (w':=10) rfl rfl ?_
  refine K.if_eq d35_10 (pc1 := 13) rfl (by decide) (pc2 := 16) (by decide) (a := x0.toInt) rfl (fun c10 => ?_) (fun c10 => ?_)
  ·refine K.lloadN d35_16 (w':=17) rfl rfl ?_
   refine K.lconst d35_17 (w':=18) rfl (z := 1) rfl ?_
   refine K.lcmp_le d35_18 d35_19 (pc1 := 22) rfl (by decide) (pc2 := 29) (by decide) (a := p.toInt) (b := 1) rfl rfl (fun c18 => ?_) (fun c18 => ?_)
   ·refine K.lloadN d35_29 (w':=30) rfl rfl ?_
    refine K.ldc2J d35_30 (w':=33) rfl hw7 ?_
    refine K.lcmp_le d35_33 d35_34 (pc1 := 37) rfl (by decide) (pc2 := 45) (by decide) (a := p.toInt) (b := 2) rfl rfl (fun c33 => ?_) (fun c33 => ?_)
    ·refine K.iload d35_45 (w':=47) rfl rfl ?_
     exact K.reti d35_47 (by decide) (by decide) ⟨(0 : Int32), rfl, by have ev : (0 : Int32).toInt = 0 := rfl; first | omega | ((repeat' split) <;> omega), rfl⟩
    ·refine K.iload d35_37 (w':=39) rfl rfl ?_
     refine K.if_eq d35_39 (pc1 := 42) rfl (by decide) (pc2 := 45) (by decide) (a := x2.toInt) rfl (fun c39 => ?_) (fun c39 => ?_)
     ·refine K.iload d35_45 (w':=47) rfl rfl ?_
      exact K.reti d35_47 (by decide) (by decide) ⟨(0 : Int32), rfl, by have ev : (0 : Int32).toInt = 0 := rfl; first | omega | ((repeat' split) <;> omega), rfl⟩
     ·refine K.iinc d35_42 (w':=45) rfl rfl (z := (1 : Int32)) rfl (L' := #[vj p, se, vi x0, vi x1, vi x2, vi 1]) rfl ?_
      refine K.iload d35_45 (w':=47) rfl rfl ?_
      exact K.reti d35_47 (by decide) (by decide) ⟨(1 : Int32), rfl, by have ev : (1 : Int32).toInt = 1 := rfl; first | omega | ((repeat' split) <;> omega), rfl⟩
   ·refine K.iloadN d35_22 (w':=23) rfl rfl ?_
    refine K.if_eq d35_23 (pc1 := 26) rfl (by decide) (pc2 := 29) (by decide) (a := x1.toInt) rfl (fun c23 => ?_) (fun c23 => ?_)
    ·refine K.lloadN d35_29 (w':=30) rfl rfl ?_
     refine K.ldc2J d35_30 (w':=33) rfl hw7 ?_
     refine K.lcmp_le d35_33 d35_34 (pc1 := 37) rfl (by decide) (pc2 := 45) (by decide) (a := p.toInt) (b := 2) rfl rfl (fun c33 => ?_) (fun c33 => ?_)
     ·refine K.iload d35_45 (w':=47) rfl rfl ?_
      exact K.reti d35_47 (by decide) (by decide) ⟨(0 : Int32), rfl, by have ev : (0 : Int32).toInt = 0 := rfl; first | omega | ((repeat' split) <;> omega), rfl⟩
     ·refine K.iload d35_37 (w':=39) rfl rfl ?_
      refine K.if_eq d35_39 (pc1 := 42) rfl (by decide) (pc2 := 45) (by decide) (a := x2.toInt) rfl (fun c39 => ?_) (fun c39 => ?_)
      ·refine K.iload d35_45 (w':=47) rfl rfl ?_
       exact K.reti d35_47 (by decide) (by decide) ⟨(0 : Int32), rfl, by have ev : (0 : Int32).toInt = 0 := rfl; first | omega | ((repeat' split) <;> omega), rfl⟩
      ·refine K.iinc d35_42 (w':=45) rfl rfl (z := (1 : Int32)) rfl (L' := #[vj p, se, vi x0, vi x1, vi x2, vi 1]) rfl ?_
       refine K.iload d35_45 (w':=47) rfl rfl ?_
       exact K.reti d35_47 (by decide) (by decide) ⟨(1 : Int32), rfl, by have ev : (1 : Int32).toInt = 1 := rfl; first | omega | ((repeat' split) <;> omega), rfl⟩
    ·refine K.iinc d35_26 (w':=29) rfl rfl (z := (1 : Int32)) rfl (L' := #[vj p, se, vi x0, vi x1, vi x2, vi 1]) rfl ?_
     refine K.lloadN d35_29 (w':=30) rfl rfl ?_
     refine K.ldc2J d35_30 (w':=33) rfl hw7 ?_
     refine K.lcmp_le d35_33 d35_34 (pc1 := 37) rfl (by decide) (pc2 := 45) (by decide) (a := p.toInt) (b := 2) rfl rfl (fun c33 => ?_) (fun c33 => ?_)
     ·refine K.iload d35_45 (w':=47) rfl rfl ?_
      exact K.reti d35_47 (by decide) (by decide) ⟨(1 : Int32), rfl, by have ev : (1 : Int32).toInt = 1 := rfl; first | omega | ((repeat' split) <;> omega), rfl⟩
     ·refine K.iload d35_37 (w':=39) rfl rfl ?_
      refine K.if_eq d35_39 (pc1 := 42) rfl (by decide) (pc2 := 45) (by decide) (a := x2.toInt) rfl (fun c39 => ?_) (fun c39 => ?_)
      ·refine K.iload d35_45 (w':=47) rfl rfl ?_
       exact K.reti d35_47 (by decide) (by decide) ⟨(1 : Int32), rfl, by have ev : (1 : Int32).toInt = 1 := rfl; first | omega | ((repeat' split) <;> omega), rfl⟩
      ·refine K.iinc d35_42 (w':=45) rfl rfl (z := (2 : Int32)) rfl (L' := #[vj p, se, vi x0, vi x1, vi x2, vi 2]) rfl ?_
       refine K.iload d35_45 (w':=47) rfl rfl ?_
       exact K.reti d35_47 (by decide) (by decide) ⟨(2 : Int32), rfl, by have ev : (2 : Int32).toInt = 2 := rfl; first | omega | ((repeat' split) <;> omega), rfl⟩
  ·refine K.iinc d35_13 (w':=16) rfl rfl (z := (1 : Int32)) rfl (L' := #[vj p, se, vi x0, vi x1, vi x2, vi 1]) rfl ?_
   refine K.lloadN d35_16 (w':=17) rfl rfl ?_
   refine K.lconst d35_17 (w':=18) rfl (z := 1) rfl ?_
   refine K.lcmp_le d35_18 d35_19 (pc1 := 22) rfl (by decide) (pc2 := 29) (by decide) (a := p.toInt) (b := 1) rfl rfl (fun c18 => ?_) (fun c18 => ?_)
   ·refine K.lloadN d35_29 (w':=30) rfl rfl ?_
    refine K.ldc2J d35_30 (w':=33) rfl hw7 ?_
    refine K.lcmp_le d35_33 d35_34 (pc1 := 37) rfl (by decide) (pc2 := 45) (by decide) (a := p.toInt) (b := 2) rfl rfl (fun c33 => ?_) (fun c33 => ?_)
    ·refine K.iload d35_45 (w':=47) rfl rfl ?_
     exact K.reti d35_47 (by decide) (by decide) ⟨(1 : Int32), rfl, by have ev : (1 : Int32).toInt = 1 := rfl; first | omega | ((repeat' split) <;> omega), rfl⟩
    ·refine K.iload d35_37 (w':=39) rfl rfl ?_
     refine K.if_eq d35_39 (pc1 := 42) rfl (by decide) (pc2 := 45) (by decide) (a := x2.toInt) rfl (fun c39 => ?_) (fun c39 => ?_)
     ·refine K.iload d35_45 (w':=47) rfl rfl ?_
      exact K.reti d35_47 (by decide) (by decide) ⟨(1 : Int32), rfl, by have ev : (1 : Int32).toInt = 1 := rfl; first | omega | ((repeat' split) <;> omega), rfl⟩
     ·refine K.iinc d35_42 (w':=45) rfl rfl (z := (2 : Int32)) rfl (L' := #[vj p, se, vi x0, vi x1, vi x2, vi 2]) rfl ?_
      refine K.iload d35_45 (w':=47) rfl rfl ?_
      exact K.reti d35_47 (by decide) (by decide) ⟨(2 : Int32), rfl, by have ev : (2 : Int32).toInt = 2 := rfl; first | omega | ((repeat' split) <;> omega), rfl⟩
   ·refine K.iloadN d35_22 (w':=23) rfl rfl ?_
    refine K.if_eq d35_23 (pc1 := 26) rfl (by decide) (pc2 := 29) (by decide) (a := x1.toInt) rfl (fun c23 => ?_) (fun c23 => ?_)
    ·refine K.lloadN d35_29 (w':=30) rfl rfl ?_
     refine K.ldc2J d35_30 (w':=33) rfl hw7 ?_
     refine K.lcmp_le d35_33 d35_34 (pc1 := 37) rfl (by decide) (pc2 := 45) (by decide) (a := p.toInt) (b := 2) rfl rfl (fun c33 => ?_) (fun c33 => ?_)
     ·refine K.iload d35_45 (w':=47) rfl rfl ?_
      exact K.reti d35_47 (by decide) (by decide) ⟨(1 : Int32), rfl, by have ev : (1 : Int32).toInt = 1 := rfl; first | omega | ((repeat' split) <;> omega), rfl⟩
     ·refine K.iload d35_37 (w':=39) rfl rfl ?_
      refine K.if_eq d35_39 (pc1 := 42) rfl (by decide) (pc2 := 45) (by decide) (a := x2.toInt) rfl (fun c39 => ?_) (fun c39 => ?_)
      ·refine K.iload d35_45 (w':=47) rfl rfl ?_
       exact K.reti d35_47 (by decide) (by decide) ⟨(1 : Int32), rfl, by have ev : (1 : Int32).toInt = 1 := rfl; first | omega | ((repeat' split) <;> omega), rfl⟩
      ·refine K.iinc d35_42 (w':=45) rfl rfl (z := (2 : Int32)) rfl (L' := #[vj p, se, vi x0, vi x1, vi x2, vi 2]) rfl ?_
       refine K.iload d35_45 (w':=47) rfl rfl ?_
       exact K.reti d35_47 (by decide) (by decide) ⟨(2 : Int32), rfl, by have ev : (2 : Int32).toInt = 2 := rfl; first | omega | ((repeat' split) <;> omega), rfl⟩
    ·refine K.iinc d35_26 (w':=29) rfl rfl (z := (2 : Int32)) rfl (L' := #[vj p, se, vi x0, vi x1, vi x2, vi 2]) rfl ?_
     refine K.lloadN d35_29 (w':=30) rfl rfl ?_
     refine K.ldc2J d35_30 (w':=33) rfl hw7 ?_
     refine K.lcmp_le d35_33 d35_34 (pc1 := 37) rfl (by decide) (pc2 := 45) (by decide) (a := p.toInt) (b := 2) rfl rfl (fun c33 => ?_) (fun c33 => ?_)
     ·refine K.iload d35_45 (w':=47) rfl rfl ?_
      exact K.reti d35_47 (by decide) (by decide) ⟨(2 : Int32), rfl, by have ev : (2 : Int32).toInt = 2 := rfl; first | omega | ((repeat' split) <;> omega), rfl⟩
     ·refine K.iload d35_37 (w':=39) rfl rfl ?_
      refine K.if_eq d35_39 (pc1 := 42) rfl (by decide) (pc2 := 45) (by decide) (a := x2.toInt) rfl (fun c39 => ?_) (fun c39 => ?_)
      ·refine K.iload d35_45 (w':=47) rfl rfl ?_
       exact K.reti d35_47 (by decide) (by decide) ⟨(2 : Int32), rfl, by have ev : (2 : Int32).toInt = 2 := rfl; first | omega | ((repeat' split) <;> omega), rfl⟩
      ·refine K.iinc d35_42 (w':=45) rfl rfl (z := (3 : Int32)) rfl (L' := #[vj p, se, vi x0, vi x1, vi x2, vi 3]) rfl ?_
       refine K.iload d35_45 (w':=47) rfl rfl ?_
       exact K.reti d35_47 (by decide) (by decide) ⟨(3 : Int32), rfl, by have ev : (3 : Int32).toInt = 3 := rfl; first | omega | ((repeat' split) <;> omega), rfl⟩
theorem pd_22 : parseMethodDescriptor "(I)[I" = some ⟨[.int], some (.array .int)⟩ := by decide +kernel
theorem pd_23 : parseMethodDescriptor "([J[J[J)V" = some ⟨[(.array .long), (.array .long), (.array .long)], none⟩ := by decide +kernel
theorem pd_24 : parseMethodDescriptor "(Lcom/example/odograph/odograph/model/Instance;[J[I)V" = some ⟨[(.object sI), (.array .long), (.array .int)], none⟩ := by decide +kernel
theorem pd_25 : parseMethodDescriptor "(JJJJJJZ)Z" = some ⟨[.long, .long, .long, .long, .long, .long, .boolean], some .boolean⟩ := by decide +kernel
theorem pd_26 : parseMethodDescriptor "(JZZZ)I" = some ⟨[.long, .boolean, .boolean, .boolean], some .int⟩ := by decide +kernel
theorem pd_27 : parseMethodDescriptor "(I)Z" = some ⟨[.int], some .boolean⟩ := by decide +kernel
theorem pd_28 : parseMethodDescriptor "(II)V" = some ⟨[.int, .int], none⟩ := by decide +kernel
theorem c_law (l : Launch) (Z : State) (a0 : Array Value) (hw : HW a0 Z) (n0 : Nat) (h : Heap) (a : Int32) (o : Int32) (mv : Int32) (xx : Int32) (Z0 : n0 ≤ h.size) (P2 : Old Z n0 h) (P3 : Sta Z Z.heap sB "$assertionsDisabled" "Z" (.int 1)) : Jvm.Wv.MeetsV l Z n0 x code maxLocals ret room_1 #[(.int a), (.int o), (.int mv), (.int xx)] h none (fun v h' lv' => v = some (.int 1)) := by
 refine Jvm.Wv.MeetsV.intro (plainFor_of_name pn_com_example_odograph_odograph_online_PlacementCoveredPinLaw) (L0 := #[vi a, vi o, vi mv, vi xx, un, un, un, un, un, un, un, un, un, un, un, un, un, un, un, un, un, un, un, un, un, un, un, un, un, un, un, un, un, un, un]) (fun m => by first | (simp [entryFrame, mkF, argsToLocals, Value.category, maxLocals]; done) | rfl) ?_
 intro m G K0
 have K : Jvm.Wv.Cx l room_1 Z n0 _ sW "law" code 35 (some .boolean) m none h G := K0
 have hw0 := tb hw (i:=0) rfl
 have hw1 := tb hw (i:=1) rfl
 have hw2 := tb hw (i:=2) rfl
 have hw3 := tb hw (i:=3) rfl
 have hw4 := tb hw (i:=4) rfl
 have hw6 := tb hw (i:=6) rfl
 have hw7 := tb hw (i:=7) rfl
 have hw8 := tb hw (i:=8) rfl
 have hw9 := tb hw (i:=9) rfl
 have hw10 := tb hw (i:=10) rfl
 have hw11 := tb hw (i:=11) rfl
 have hw12 := tb hw (i:=12) rfl
 have hw13 := tb hw (i:=13) rfl
 have hw14 := tb hw (i:=14) rfl
 have hw60 := tb hw (i:=60) rfl
 have hw62 := tb hw (i:=62) rfl
 have hw64 := tb hw (i:=64) rfl
 have hw65 := tb hw (i:=65) rfl
 have hw66 := tb hw (i:=66) rfl
 have hw67 := tb hw (i:=67) rfl
 have hw68 := tb hw (i:=68) rfl
 have hw69 := tb hw (i:=69) rfl
 have hw117 := tb hw (i:=117) rfl
 have hw118 := tb hw (i:=118) rfl
 have hw119 := tb hw (i:=119) rfl
 have hw120 := tb hw (i:=120) rfl
 have hw121 := tb hw (i:=121) rfl
 have hw122 := tb hw (i:=122) rfl
 have hw141 := tb hw (i:=141) rfl
 have hw143 := tb hw (i:=143) rfl
 have hw145 := tb hw (i:=145) rfl
 have hw147 := tb hw (i:=147) rfl
 have hw170 := tb hw (i:=170) rfl
 have hw200 := tb hw (i:=200) rfl
 have hw201 := tb hw (i:=201) rfl
 have hw202 := tb hw (i:=202) rfl
 have hw203 := tb hw (i:=203) rfl
 have hw204 := tb hw (i:=204) rfl
 have hw205 := tb hw (i:=205) rfl
 have hw206 := tb hw (i:=206) rfl
 have hw207 := tb hw (i:=207) rfl
 have hw208 := tb hw (i:=208) rfl
 have hw209 := tb hw (i:=209) rfl
 have hw210 := tb hw (i:=210) rfl
 have hw211 := tb hw (i:=211) rfl
 have hw212 := tb hw (i:=212) rfl
 have hw213 := tb hw (i:=213) rfl
 have hw214 := tb hw (i:=214) rfl
 have hw215 := tb hw (i:=215) rfl
 have hw216 := tb hw (i:=216) rfl
 have hw217 := tb hw (i:=217) rfl
 have hw218 := tb hw (i:=218) rfl
 have hw219 := tb hw (i:=219) rfl
 have hw220 := tb hw (i:=220) rfl
 refine K.iloadN at_0 (w':=1) rfl rfl ?_
 refine K.iconst at_1 (w':=2) rfl (z := 3) rfl ?_
 obtain ⟨b0, e_b0⟩ : ∃ z, a &&& (3 : Int32) = z := ⟨_, rfl⟩
 have r_b0 : b0.toInt = a.toInt % 4 := by have q := c_mask a (3 : Int32) 2 (by decide) (by decide); rw [e_b0] at q; exact q
 have t_b0 : 0 ≤ b0.toInt ∧ b0.toInt ≤ 3 := by omega
 clear r_b0
 refine K.iand at_2 (w':=3) rfl e_b0 ?_
 obtain ⟨s0, e_s0⟩ : ∃ z, b0.toInt64 = z := ⟨_, rfl⟩
 have r_s0 : s0.toInt = b0.toInt := by have q := c_i2l b0; rw [e_s0] at q; exact q
 have t_s0 : 0 ≤ s0.toInt ∧ s0.toInt ≤ 3 := by omega
 clear r_s0
 refine K.i2l at_3 (w':=4) rfl e_s0 ?_
 refine K.lstore at_4 (w':=6) rfl (L' := #[vi a, vi o, vi mv, vi xx, vj s0, se, un, un, un, un, un, un, un, un, un, un, un, un, un, un, un, un, un, un, un, un, un, un, un, un, un, un, un, un, un]) rfl ?_
 refine K.iloadN at_6 (w':=7) rfl rfl ?_
 refine K.iconst at_7 (w':=8) rfl (z := 2) rfl ?_
 obtain ⟨z8, e_z8⟩ : ∃ z, (a.toUInt32 >>> ((2 : Int32) &&& 31).toUInt32).toInt32 = z := ⟨_, rfl⟩
 refine K.iushr at_8 (w':=9) rfl e_z8 ?_
 refine K.iconst at_9 (w':=10) rfl (z := 3) rfl ?_
 obtain ⟨b1, e_b1⟩ : ∃ z, z8 &&& (3 : Int32) = z := ⟨_, rfl⟩
 have r_b1 : b1.toInt = z8.toInt % 4 := by have q := c_mask z8 (3 : Int32) 2 (by decide) (by decide); rw [e_b1] at q; exact q
 have t_b1 : 0 ≤ b1.toInt ∧ b1.toInt ≤ 3 := by omega
 clear r_b1
 refine K.iand at_10 (w':=11) rfl e_b1 ?_
 obtain ⟨s1, e_s1⟩ : ∃ z, b1.toInt64 = z := ⟨_, rfl⟩
 have r_s1 : s1.toInt = b1.toInt := by have q := c_i2l b1; rw [e_s1] at q; exact q
 have t_s1 : 0 ≤ s1.toInt ∧ s1.toInt ≤ 3 := by omega
 clear r_s1
 refine K.i2l at_11 (w':=12) rfl e_s1 ?_
 refine K.lstore at_12 (w':=14) rfl (L' := #[vi a, vi o, vi mv, vi xx, vj s0, se, vj s1, se, un, un, un, un, un, un, un, un, un, un, un, un, un, un, un, un, un, un, un, un, un, un, un, un, un, un, un]) rfl ?_
 refine K.iloadN at_14 (w':=15) rfl rfl ?_
 refine K.iconst at_15 (w':=16) rfl (z := 4) rfl ?_
 obtain ⟨z16, e_z16⟩ : ∃ z, (a.toUInt32 >>> ((4 : Int32) &&& 31).toUInt32).toInt32 = z := ⟨_, rfl⟩
 refine K.iushr at_16 (w':=17) rfl e_z16 ?_
 refine K.iconst at_17 (w':=18) rfl (z := 3) rfl ?_
 obtain ⟨b2_, e_b2_⟩ : ∃ z, z16 &&& (3 : Int32) = z := ⟨_, rfl⟩
 have r_b2_ : b2_.toInt = z16.toInt % 4 := by have q := c_mask z16 (3 : Int32) 2 (by decide) (by decide); rw [e_b2_] at q; exact q
 have t_b2_ : 0 ≤ b2_.toInt ∧ b2_.toInt ≤ 3 := by omega
 clear r_b2_
 refine K.iand at_18 (w':=19) rfl e_b2_ ?_
 obtain ⟨s2, e_s2⟩ : ∃ z, b2_.toInt64 = z := ⟨_, rfl⟩
 have r_s2 : s2.toInt = b2_.toInt := by have q := c_i2l b2_; rw [e_s2] at q; exact q
 have t_s2 : 0 ≤ s2.toInt ∧ s2.toInt ≤ 3 := by omega
 clear r_s2
 refine K.i2l at_19 (w':=20) rfl e_s2 ?_
 refine K.lstore at_20 (w':=22) rfl (L' := #[vi a, vi o, vi mv, vi xx, vj s0, se, vj s1, se, vj s2, se, un, un, un, un, un, un, un, un, un, un, un, un, un, un, un, un, un, un, un, un, un, un, un, un, un]) rfl ?_
 refine K.iloadN at_22 (w':=23) rfl rfl ?_
 refine K.bipush at_23 (w':=25) rfl (z := 6) rfl ?_
 obtain ⟨z25, e_z25⟩ : ∃ z, (a.toUInt32 >>> ((6 : Int32) &&& 31).toUInt32).toInt32 = z := ⟨_, rfl⟩
 refine K.iushr at_25 (w':=26) rfl e_z25 ?_
 refine K.iconst at_26 (w':=27) rfl (z := 3) rfl ?_
 obtain ⟨b3, e_b3⟩ : ∃ z, z25 &&& (3 : Int32) = z := ⟨_, rfl⟩
 have r_b3 : b3.toInt = z25.toInt % 4 := by have q := c_mask z25 (3 : Int32) 2 (by decide) (by decide); rw [e_b3] at q; exact q
 have t_b3 : 0 ≤ b3.toInt ∧ b3.toInt ≤ 3 := by omega
 clear r_b3
 refine K.iand at_27 (w':=28) rfl e_b3 ?_
 obtain ⟨r0, e_r0⟩ : ∃ z, b3.toInt64 = z := ⟨_, rfl⟩
 have r_r0 : r0.toInt = b3.toInt := by have q := c_i2l b3; rw [e_r0] at q; exact q
 have t_r0 : 0 ≤ r0.toInt ∧ r0.toInt ≤ 3 := by omega
 clear r_r0
 refine K.i2l at_28 (w':=29) rfl e_r0 ?_
 refine K.lstore at_29 (w':=31) rfl (L' := #[vi a, vi o, vi mv, vi xx, vj s0, se, vj s1, se, vj s2, se, vj r0, se, un, un, un, un, un, un, un, un, un, un, un, un, un, un, un, un, un, un, un, un, un, un, un]) rfl ?_
 refine K.iloadN at_31 (w':=32) rfl rfl ?_
 refine K.bipush at_32 (w':=34) rfl (z := 8) rfl ?_
 obtain ⟨z34, e_z34⟩ : ∃ z, (a.toUInt32 >>> ((8 : Int32) &&& 31).toUInt32).toInt32 = z := ⟨_, rfl⟩
 refine K.iushr at_34 (w':=35) rfl e_z34 ?_
 refine K.iconst at_35 (w':=36) rfl (z := 3) rfl ?_
 obtain ⟨b4, e_b4⟩ : ∃ z, z34 &&& (3 : Int32) = z := ⟨_, rfl⟩
 have r_b4 : b4.toInt = z34.toInt % 4 := by have q := c_mask z34 (3 : Int32) 2 (by decide) (by decide); rw [e_b4] at q; exact q
 have t_b4 : 0 ≤ b4.toInt ∧ b4.toInt ≤ 3 := by omega
 clear r_b4
 refine K.iand at_36 (w':=37) rfl e_b4 ?_
 obtain ⟨r1, e_r1⟩ : ∃ z, b4.toInt64 = z := ⟨_, rfl⟩
 have r_r1 : r1.toInt = b4.toInt := by have q := c_i2l b4; rw [e_r1] at q; exact q
 have t_r1 : 0 ≤ r1.toInt ∧ r1.toInt ≤ 3 := by omega
 clear r_r1
 refine K.i2l at_37 (w':=38) rfl e_r1 ?_
 refine K.lstore at_38 (w':=40) rfl (L' := #[vi a, vi o, vi mv, vi xx, vj s0, se, vj s1, se, vj s2, se, vj r0, se, vj r1, se, un, un, un, un, un, un, un, un, un, un, un, un, un, un, un, un, un, un, un, un, un]) rfl ?_
 refine K.iloadN at_40 (w':=41) rfl rfl ?_
 refine K.bipush at_41 (w':=43) rfl (z := 10) rfl ?_
 obtain ⟨z43, e_z43⟩ : ∃ z, (a.toUInt32 >>> ((10 : Int32) &&& 31).toUInt32).toInt32 = z := ⟨_, rfl⟩
 refine K.iushr at_43 (w':=44) rfl e_z43 ?_
 refine K.iconst at_44 (w':=45) rfl (z := 1) rfl ?_
 obtain ⟨z45, e_z45⟩ : ∃ z, z43 &&& (1 : Int32) = z := ⟨_, rfl⟩
 refine K.iand at_45 (w':=46) rfl e_z45 ?_
 refine K.if_eq at_46 (pc1 := 49) rfl (by decide) (pc2 := 53) (by decide) (a := z45.toInt) rfl (fun c46 => ?_) (fun c46 => ?_)
 ·refine K.iconst at_53 (w':=54) rfl (z := 0) rfl ?_
  refine K.istore at_54 (w':=56) rfl (L' := #[vi a, vi o, vi mv, vi xx, vj s0, se, vj s1, se, vj s2, se, vj r0, se, vj r1, se, vi 0, un, un, un, un, un, un, un, un, un, un, un, un, un, un, un, un, un, un, un, un]) rfl ?_
  have J70 : ∀ (dm : Int32), (True) → G h 0 0 (mkF m 70 #[vi a, vi o, vi mv, vi xx, vj s0, se, vj s1, se, vj s2, se, vj r0, se, vj r1, se, vi 0, un, un, un, un, un, un, un, un, un, un, un, un, un, un, un, un, un, un, un, un] [(.int dm)]) := by
   intro dm hj70
   refine K.istore at_70 (w':=72) rfl (L' := #[vi a, vi o, vi mv, vi xx, vj s0, se, vj s1, se, vj s2, se, vj r0, se, vj r1, se, vi 0, vi dm, un, un, un, un, un, un, un, un, un, un, un, un, un, un, un, un, un, un, un]) rfl ?_
   refine K.iloadN at_72 (w':=73) rfl rfl ?_
   refine K.ldcI at_73 (w':=75) rfl hw0 ?_
   obtain ⟨m0, e_m0⟩ : ∃ z, o &&& (2147483647 : Int32) = z := ⟨_, rfl⟩
   have r_m0 : m0.toInt = o.toInt % 2147483648 := by have q := c_mask o (2147483647 : Int32) 31 (by decide) (by decide); rw [e_m0] at q; exact q
   have t_m0 : 0 ≤ m0.toInt := by omega
   clear r_m0
   refine K.iand at_75 (w':=76) rfl e_m0 ?_
   refine K.bipush at_76 (w':=78) rfl (z := 6) rfl ?_
   obtain ⟨k, e_k⟩ : ∃ z, m0 % (6 : Int32) = z := ⟨_, rfl⟩
   have r_k : (0 ≤ m0.toInt → k.toInt = m0.toInt % 6) ∧ (m0.toInt < 0 → k.toInt = -((-m0.toInt) % 6)) := by have q := c_irem m0 (6 : Int32) 6 rfl; rw [e_k] at q; exact q
   have t_k : 0 ≤ k.toInt ∧ k.toInt ≤ 5 := by omega
   clear r_k
   refine K.irem at_78 (w':=79) rfl (by decide) e_k ?_
   refine K.calls (argsL := [(.int k)]) (rest := []) at_79 (w':=82) rfl (c_perm l Z a0 hw n0 h (k := k) Z0 t_k) hw1 hw2 hw3 hw4 (by decide) pd_22 rfl rfl (W := 0) (Nat.le_refl _) (by decide) (by decide) (by decide) (by decide) (fun v_3 h_1 q_2 => ?_)
   obtain ⟨od, o0, o1, o2, rfl, K_4, f_5, f_6, hpm_od⟩ := q_2
   show G h_1 1 3 (mkF m 82 #[vi a, vi o, vi mv, vi xx, vj s0, se, vj s1, se, vj s2, se, vj r0, se, vj r1, se, vi 0, vi dm, un, un, un, un, un, un, un, un, un, un, un, un, un, un, un, un, un, un, un] [(.ref od)])
   refine K.astore at_82 (w':=84) rfl rfl (L' := #[vi a, vi o, vi mv, vi xx, vj s0, se, vj s1, se, vj s2, se, vj r0, se, vj r1, se, vi 0, vi dm, vr od, un, un, un, un, un, un, un, un, un, un, un, un, un, un, un, un, un, un]) rfl ?_
   refine K.iconst at_84 (w':=85) rfl (z := 3) rfl ?_
   refine K.newa at_85 (w':=87) rfl hw6 (k := 3) (cap := 3) rfl (by decide) (by decide) (by decide) (by decide) (ad := "[J") (by decide) (fun h_7 wt g_wt E_8 A_9 x_wt => ?_)
   have sz_10 := Nat.le_trans Z0 K_4.1
   have ge_wt : n0 ≤ wt := g_wt ▸ sz_10
   have A_11 : Ary Z h_7 wt .long [(.long 0), (.long 0), (.long 0)] := A_9
   refine K.dup at_87 (w':=88) rfl rfl ?_
   refine K.iconst at_88 (w':=89) rfl (z := 0) rfl ?_
   refine K.lconst at_89 (w':=90) rfl (z := 1) rfl ?_
   refine K.last at_90 (w':=91) rfl A_11 (i := 0) rfl (show 0 < 3 by decide) ge_wt (fun h_12 W_13 A_14 => ?_)
   have A_15 : Ary Z h_12 wt .long [(.long 1), (.long 0), (.long 0)] := A_14
   refine K.dup at_91 (w':=92) rfl rfl ?_
   refine K.iconst at_92 (w':=93) rfl (z := 1) rfl ?_
   refine K.ldc2J at_93 (w':=96) rfl hw7 ?_
   refine K.last at_96 (w':=97) rfl A_15 (i := 1) rfl (show 1 < 3 by decide) ge_wt (fun h_16 W_17 A_18 => ?_)
   have A_19 : Ary Z h_16 wt .long [(.long 1), (.long 2), (.long 0)] := A_18
   refine K.dup at_97 (w':=98) rfl rfl ?_
   refine K.iconst at_98 (w':=99) rfl (z := 2) rfl ?_
   refine K.ldc2J at_99 (w':=102) rfl hw8 ?_
   refine K.last at_102 (w':=103) rfl A_19 (i := 2) rfl (show 2 < 3 by decide) ge_wt (fun h_20 W_21 A_22 => ?_)
   have A_23 : Ary Z h_20 wt .long [(.long 1), (.long 2), (.long 3)] := A_22
   refine K.astore at_103 (w':=105) rfl rfl (L' := #[vi a, vi o, vi mv, vi xx, vj s0, se, vj s1, se, vj s2, se, vj r0, se, vj r1, se, vi 0, vi dm, vr od, vr wt, un, un, un, un, un, un, un, un, un, un, un, un, un, un, un, un, un]) rfl ?_
   refine K.iload at_105 (w':=107) rfl rfl ?_
   refine K.if_eq at_107 (pc1 := 110) rfl (by decide) (pc2 := 114) (by decide) (a := 0) rfl (fun c107 => ?_) (fun c107 => ?_)
   ·refine K.iconst at_114 (w':=115) rfl (z := 3) rfl ?_
    refine K.newa at_115 (w':=117) rfl hw6 (k := 3) (cap := 3) rfl (by decide) (by decide) (by decide) (by decide) (ad := "[J") (by decide) (fun h_24 sa g_sa E_25 A_26 x_sa => ?_)
    have sz_27 := Nat.le_trans sz_10 (Nat.le_trans E_8.1 (Nat.le_trans (Keep.of_wr W_13).1 (Nat.le_trans (Keep.of_wr W_17).1 (Keep.of_wr W_21).1)))
    have ge_sa : n0 ≤ sa := g_sa ▸ sz_27
    have A_28 : Ary Z h_24 sa .long [(.long 0), (.long 0), (.long 0)] := A_26
    refine K.dup at_117 (w':=118) rfl rfl ?_
    refine K.iconst at_118 (w':=119) rfl (z := 0) rfl ?_
    refine K.lload at_119 (w':=121) rfl rfl ?_
    refine K.last at_121 (w':=122) rfl A_28 (i := 0) rfl (show 0 < 3 by decide) ge_sa (fun h_29 W_30 A_31 => ?_)
    have A_32 : Ary Z h_29 sa .long [(.long s0), (.long 0), (.long 0)] := A_31
    refine K.dup at_122 (w':=123) rfl rfl ?_
    refine K.iconst at_123 (w':=124) rfl (z := 1) rfl ?_
    refine K.lload at_124 (w':=126) rfl rfl ?_
    refine K.last at_126 (w':=127) rfl A_32 (i := 1) rfl (show 1 < 3 by decide) ge_sa (fun h_33 W_34 A_35 => ?_)
    have A_36 : Ary Z h_33 sa .long [(.long s0), (.long s1), (.long 0)] := A_35
    refine K.dup at_127 (w':=128) rfl rfl ?_
    refine K.iconst at_128 (w':=129) rfl (z := 2) rfl ?_
    refine K.lload at_129 (w':=131) rfl rfl ?_
    refine K.last at_131 (w':=132) rfl A_36 (i := 2) rfl (show 2 < 3 by decide) ge_sa (fun h_37 W_38 A_39 => ?_)
    have A_40 : Ary Z h_37 sa .long [(.long s0), (.long s1), (.long s2)] := A_39
    refine K.astore at_132 (w':=134) rfl rfl (L' := #[vi a, vi o, vi mv, vi xx, vj s0, se, vj s1, se, vj s2, se, vj r0, se, vj r1, se, vi 0, vi dm, vr od, vr wt, vr sa, un, un, un, un, un, un, un, un, un, un, un, un, un, un, un, un]) rfl ?_
    refine K.iconst at_134 (w':=135) rfl (z := 2) rfl ?_
    refine K.newa at_135 (w':=137) rfl hw6 (k := 2) (cap := 2) rfl (by decide) (by decide) (by decide) (by decide) (ad := "[J") (by decide) (fun h_41 ra g_ra E_42 A_43 x_ra => ?_)
    have sz_44 := Nat.le_trans sz_27 (Nat.le_trans E_25.1 (Nat.le_trans (Keep.of_wr W_30).1 (Nat.le_trans (Keep.of_wr W_34).1 (Keep.of_wr W_38).1)))
    have ge_ra : n0 ≤ ra := g_ra ▸ sz_44
    have A_45 : Ary Z h_41 ra .long [(.long 0), (.long 0)] := A_43
    refine K.dup at_137 (w':=138) rfl rfl ?_
    refine K.iconst at_138 (w':=139) rfl (z := 0) rfl ?_
    refine K.lload at_139 (w':=141) rfl rfl ?_
    refine K.last at_141 (w':=142) rfl A_45 (i := 0) rfl (show 0 < 2 by decide) ge_ra (fun h_46 W_47 A_48 => ?_)
    have A_49 : Ary Z h_46 ra .long [(.long r0), (.long 0)] := A_48
    refine K.dup at_142 (w':=143) rfl rfl ?_
    refine K.iconst at_143 (w':=144) rfl (z := 1) rfl ?_
    refine K.lload at_144 (w':=146) rfl rfl ?_
    refine K.last at_146 (w':=147) rfl A_49 (i := 1) rfl (show 1 < 2 by decide) ge_ra (fun h_50 W_51 A_52 => ?_)
    have A_53 : Ary Z h_50 ra .long [(.long r0), (.long r1)] := A_52
    refine K.astore at_147 (w':=149) rfl rfl (L' := #[vi a, vi o, vi mv, vi xx, vj s0, se, vj s1, se, vj s2, se, vj r0, se, vj r1, se, vi 0, vi dm, vr od, vr wt, vr sa, vr ra, un, un, un, un, un, un, un, un, un, un, un, un, un, un, un]) rfl ?_
    refine K.newo at_149 (w':=152) rfl hw9 hw10 hw11 (by decide) (by decide) (fun h_54 ins g_ins E_55 x_ins D_ins => ?_)
    have sz_56 := Nat.le_trans sz_44 (Nat.le_trans E_42.1 (Nat.le_trans (Keep.of_wr W_47).1 (Keep.of_wr W_51).1))
    have ge_ins : n0 ≤ ins := g_ins ▸ sz_56
    have f_57 : Fld Z h_54 ins sI "weights" "[J" .null := D_ins (Or.inr hw60) (ty := (.array .long)) (by decide)
    have f_58 : Fld Z h_54 ins sI "start" "[J" .null := D_ins (Or.inr hw62) (ty := (.array .long)) (by decide)
    have f_59 : Fld Z h_54 ins sI "requests" "Lcom/example/odograph/odograph/model/Requests;" .null := D_ins (Or.inr hw64) (ty := (.object sR)) (by decide)
    refine K.dup at_152 (w':=153) rfl rfl ?_
    refine K.aload at_153 (w':=155) rfl rfl rfl ?_
    refine K.aload at_155 (w':=157) rfl rfl rfl ?_
    refine K.aload at_157 (w':=159) rfl rfl rfl ?_
    have sz_60 := Nat.le_trans sz_56 E_55.1
    have ne_61 := (Nat.ne_of_lt (Nat.lt_of_lt_of_le x_wt.lt (Nat.le_trans (Nat.le_trans (Keep.of_wr W_13).1 (Nat.le_trans (Keep.of_wr W_17).1 (Keep.of_wr W_21).1)) (Nat.le_of_eq g_sa.symm))))
    have ne_62 := (Nat.ne_of_lt (Nat.lt_of_lt_of_le x_wt.lt (Nat.le_trans (Nat.le_trans (Keep.of_wr W_13).1 (Nat.le_trans (Keep.of_wr W_17).1 (Nat.le_trans (Keep.of_wr W_21).1 (Nat.le_trans E_25.1 (Nat.le_trans (Keep.of_wr W_30).1 (Nat.le_trans (Keep.of_wr W_34).1 (Keep.of_wr W_38).1)))))) (Nat.le_of_eq g_ra.symm))))
    have f_63 := ((((((((A_23.ext E_25).other W_30 ne_61).other W_34 ne_61).other W_38 ne_61).ext E_42).other W_47 ne_62).other W_51 ne_62).ext E_55)
    have f_64 := (((((((((((x_wt.wr W_13).wr W_17).wr W_21).ext E_25).wr W_30).wr W_34).wr W_38).ext E_42).wr W_47).wr W_51).ext E_55)
    have ne_65 := (Nat.ne_of_lt (Nat.lt_of_lt_of_le x_wt.lt (Nat.le_trans (Nat.le_trans (Keep.of_wr W_13).1 (Nat.le_trans (Keep.of_wr W_17).1 (Nat.le_trans (Keep.of_wr W_21).1 (Nat.le_trans E_25.1 (Nat.le_trans (Keep.of_wr W_30).1 (Nat.le_trans (Keep.of_wr W_34).1 (Nat.le_trans (Keep.of_wr W_38).1 (Nat.le_trans E_42.1 (Nat.le_trans (Keep.of_wr W_47).1 (Keep.of_wr W_51).1))))))))) (Nat.le_of_eq g_ins.symm))))
    have ne_66 := (Nat.ne_of_lt (Nat.lt_of_lt_of_le x_sa.lt (Nat.le_trans (Nat.le_trans (Keep.of_wr W_30).1 (Nat.le_trans (Keep.of_wr W_34).1 (Keep.of_wr W_38).1)) (Nat.le_of_eq g_ra.symm))))
    have f_67 := ((((A_40.ext E_42).other W_47 ne_66).other W_51 ne_66).ext E_55)
    have f_68 := (((((((x_sa.wr W_30).wr W_34).wr W_38).ext E_42).wr W_47).wr W_51).ext E_55)
    have ne_69 := (Nat.ne_of_lt (Nat.lt_of_lt_of_le x_sa.lt (Nat.le_trans (Nat.le_trans (Keep.of_wr W_30).1 (Nat.le_trans (Keep.of_wr W_34).1 (Nat.le_trans (Keep.of_wr W_38).1 (Nat.le_trans E_42.1 (Nat.le_trans (Keep.of_wr W_47).1 (Keep.of_wr W_51).1))))) (Nat.le_of_eq g_ins.symm))))
    have f_70 := (A_53.ext E_55)
    have f_71 := (((x_ra.wr W_47).wr W_51).ext E_55)
    have ne_72 := (Nat.ne_of_lt (Nat.lt_of_lt_of_le x_ra.lt (Nat.le_trans (Nat.le_trans (Keep.of_wr W_47).1 (Keep.of_wr W_51).1) (Nat.le_of_eq g_ins.symm))))
    refine K.callcV (argsL := [(.ref wt), (.ref sa), (.ref ra)]) (rest := [(.ref ins)]) at_159 (w':=162) rfl rfl (c_in1w l Z a0 hw n0 h_54 (a := ins) (w := wt) (r := ra) (r0 := r0) (r1 := r1) (s := sa) (s0 := s0) (s1 := s1) (s2 := s2) (lv0 := _) sz_60 x_ins ge_ins f_57 f_58 f_59 f_63 f_64 ne_65 f_67 f_68 ne_69 (by omega) (by omega) (by omega) f_70 f_71 ne_72 (by omega) (by omega)) hw12 hw13 hw11 hw14 (by decide) pd_23 rfl rfl (W := 1) (Nat.le_refl _) (by decide) (by decide) (by decide) (by decide) (fun lv_76 G K v_75 h_73 q_74 => ?_)
    obtain ⟨d1_78, d2_79, q_80, d3_81, rfl, K_82, f_83, f_84, f_85, f_86, f_87, f_88, f_89, f_90, f_91, f_92, f_93, f_94, f_95⟩ := q_74
    show G h_73 20 235 (mkF m 162 #[vi a, vi o, vi mv, vi xx, vj s0, se, vj s1, se, vj s2, se, vj r0, se, vj r1, se, vi 0, vi dm, vr od, vr wt, vr sa, vr ra, un, un, un, un, un, un, un, un, un, un, un, un, un, un, un] [(.ref ins)])
    refine K.astore at_162 (w':=164) rfl rfl (L' := #[vi a, vi o, vi mv, vi xx, vj s0, se, vj s1, se, vj s2, se, vj r0, se, vj r1, se, vi 0, vi dm, vr od, vr wt, vr sa, vr ra, vr ins, un, un, un, un, un, un, un, un, un, un, un, un, un, un]) rfl ?_
    refine K.aload at_164 (w':=166) rfl rfl rfl ?_
    have f_96 := (x_ins.keep K_82)
    have sz_97 := Nat.le_trans sz_60 K_82.1
    refine K.callv (z := (⟨sI, "namedPoints", "()[J"⟩ : MethodName)) (argsL := []) (rest := []) at_166 (w':=169) rfl (c_npw l Z a0 hw n0 h_73 (a := ins) (q := q_80) (d := d3_81) (s := d2_79) (r0 := r0) (r1 := r1) (s0 := s0) (s1 := s1) (s2 := s2) sz_97 f_96 f_89 f_92 f_93 f_94 f_95 f_86 f_88) f_96 hw65 hw66 (nf_sel hw68 rfl) hw68 hw67 hw11 hw69 (by decide) pd_12 rfl rfl (W := 0) (Nat.le_refl _) (by decide) (by decide) (by decide) (by decide) (fun v_100 h_98 q_99 => ?_)
    obtain ⟨pt, ds, rfl, K_101, f_102, f_103, hsd_pt⟩ := q_99
    show G h_98 25 266 (mkF m 169 #[vi a, vi o, vi mv, vi xx, vj s0, se, vj s1, se, vj s2, se, vj r0, se, vj r1, se, vi 0, vi dm, vr od, vr wt, vr sa, vr ra, vr ins, un, un, un, un, un, un, un, un, un, un, un, un, un, un] [(.ref pt)])
    refine K.astore at_169 (w':=171) rfl rfl (L' := #[vi a, vi o, vi mv, vi xx, vj s0, se, vj s1, se, vj s2, se, vj r0, se, vj r1, se, vi 0, vi dm, vr od, vr wt, vr sa, vr ra, vr ins, vr pt, un, un, un, un, un, un, un, un, un, un, un, un, un]) rfl ?_
    refine K.newo at_171 (w':=174) rfl hw117 hw118 hw119 (by decide) (by decide) (fun h_104 plo g_plo E_105 x_plo D_plo => ?_)
    have sz_106 := Nat.le_trans sz_97 K_101.1
    have ge_plo : n0 ≤ plo := g_plo ▸ sz_106
    have f_107 : Fld Z h_104 plo sP "position" "[I" .null := D_plo (Or.inr hw141) (ty := (.array .int)) (by decide)
    have f_108 : Fld Z h_104 plo sP "first" "[I" .null := D_plo (Or.inr hw143) (ty := (.array .int)) (by decide)
    have f_109 : Fld Z h_104 plo sP "next" "[I" .null := D_plo (Or.inr hw145) (ty := (.array .int)) (by decide)
    have f_110 : Fld Z h_104 plo sP "previous" "[I" .null := D_plo (Or.inr hw147) (ty := (.array .int)) (by decide)
    have f_111 : Fld Z h_104 plo sP "stacked" "Ljava/util/BitSet;" .null := D_plo (Or.inr hw170) (ty := (.object sB)) (by decide)
    refine K.dup at_174 (w':=175) rfl rfl ?_
    refine K.aload at_175 (w':=177) rfl rfl rfl ?_
    refine K.aload at_177 (w':=179) rfl rfl rfl ?_
    refine K.aload at_179 (w':=181) rfl rfl rfl ?_
    have hSD : SD ds (fun v => (v = r0.toInt ∨ v = r1.toInt) ∨ (v = s0.toInt ∨ v = s1.toInt ∨ v = s2.toInt)) := hsd_pt
    have hne : ∃ v, ((fun v => (v = r0.toInt ∨ v = r1.toInt) ∨ (v = s0.toInt ∨ v = s1.toInt ∨ v = s2.toInt)) : Int → Prop) v := ⟨_, Or.inl (Or.inl rfl)⟩
    have hrg : ∀ v, ((fun v => (v = r0.toInt ∨ v = r1.toInt) ∨ (v = s0.toInt ∨ v = s1.toInt ∨ v = s2.toInt)) : Int → Prop) v → 0 ≤ v ∧ v ≤ 3 := fun v hv => by simp only at hv; omega
    have hds := sd4 hSD hne hrg
    have hin : (∃ d ∈ ds, d.toInt = s0.toInt) ∧ (∃ d ∈ ds, d.toInt = s1.toInt) ∧ (∃ d ∈ ds, d.toInt = s2.toInt) := ⟨(hSD.2 _).mpr (Or.inr (Or.inl rfl)), (hSD.2 _).mpr (Or.inr (Or.inr (Or.inl rfl))), (hSD.2 _).mpr (Or.inr (Or.inr (Or.inr rfl)))⟩
    have f_112 := ((f_85.keep K_101 nin0).ext E_105)
    have f_113 := ((f_86.keep K_101 nin0).ext E_105)
    have sz_114 := Nat.le_trans sz_106 E_105.1
    have f_115 := ((((((((((((((((P2.keep K_4 all0).ext E_8).wr W_13 ge_wt).wr W_17 ge_wt).wr W_21 ge_wt).ext E_25).wr W_30 ge_sa).wr W_34 ge_sa).wr W_38 ge_sa).ext E_42).wr W_47 ge_ra).wr W_51 ge_ra).ext E_55).keep K_82 (allS ge_ins all0)).keep K_101 all0).ext E_105)
    have f_116 := ((f_96.keep K_101).ext E_105)
    have ne_117 := (Nat.ne_of_lt (Nat.lt_of_lt_of_le x_ins.lt (Nat.le_trans (Nat.le_trans K_82.1 K_101.1) (Nat.le_of_eq g_plo.symm))))
    have f_118 := ((f_84.keep K_101 nin0).ext E_105)
    have ne_119 := (Nat.ne_of_lt (Nat.lt_of_lt_of_le f_84.lt (Nat.le_trans K_101.1 (Nat.le_of_eq g_plo.symm))))
    have f_120 := (f_103.ext E_105)
    have ne_121 := (Nat.ne_of_lt (Nat.lt_of_lt_of_le f_103.lt (Nat.le_trans (Nat.le_refl _) (Nat.le_of_eq g_plo.symm))))
    have ne_122 := (Nat.ne_of_lt (Nat.lt_of_lt_of_le f_6.lt (Nat.le_trans (Nat.le_refl _) (Nat.le_of_eq g_wt.symm))))
    have ne_123 := (Nat.ne_of_lt (Nat.lt_of_lt_of_le f_6.lt (Nat.le_trans (Nat.le_trans E_8.1 (Nat.le_trans (Keep.of_wr W_13).1 (Nat.le_trans (Keep.of_wr W_17).1 (Keep.of_wr W_21).1))) (Nat.le_of_eq g_sa.symm))))
    have ne_124 := (Nat.ne_of_lt (Nat.lt_of_lt_of_le f_6.lt (Nat.le_trans (Nat.le_trans E_8.1 (Nat.le_trans (Keep.of_wr W_13).1 (Nat.le_trans (Keep.of_wr W_17).1 (Nat.le_trans (Keep.of_wr W_21).1 (Nat.le_trans E_25.1 (Nat.le_trans (Keep.of_wr W_30).1 (Nat.le_trans (Keep.of_wr W_34).1 (Keep.of_wr W_38).1))))))) (Nat.le_of_eq g_ra.symm))))
    have ne_125 := (Nat.ne_of_lt (Nat.lt_of_lt_of_le f_6.lt (Nat.le_trans (Nat.le_trans E_8.1 (Nat.le_trans (Keep.of_wr W_13).1 (Nat.le_trans (Keep.of_wr W_17).1 (Nat.le_trans (Keep.of_wr W_21).1 (Nat.le_trans E_25.1 (Nat.le_trans (Keep.of_wr W_30).1 (Nat.le_trans (Keep.of_wr W_34).1 (Nat.le_trans (Keep.of_wr W_38).1 (Nat.le_trans E_42.1 (Nat.le_trans (Keep.of_wr W_47).1 (Keep.of_wr W_51).1)))))))))) (Nat.le_of_eq g_ins.symm))))
    have f_126 := (((((((((((((((f_6.ext E_8).other W_13 ne_122).other W_17 ne_122).other W_21 ne_122).ext E_25).other W_30 ne_123).other W_34 ne_123).other W_38 ne_123).ext E_42).other W_47 ne_124).other W_51 ne_124).ext E_55).keep K_82 (ninS ne_125 nin0)).keep K_101 nin0).ext E_105)
    have ne_127 := (Nat.ne_of_lt (Nat.lt_of_lt_of_le f_6.lt (Nat.le_trans (Nat.le_trans E_8.1 (Nat.le_trans (Keep.of_wr W_13).1 (Nat.le_trans (Keep.of_wr W_17).1 (Nat.le_trans (Keep.of_wr W_21).1 (Nat.le_trans E_25.1 (Nat.le_trans (Keep.of_wr W_30).1 (Nat.le_trans (Keep.of_wr W_34).1 (Nat.le_trans (Keep.of_wr W_38).1 (Nat.le_trans E_42.1 (Nat.le_trans (Keep.of_wr W_47).1 (Nat.le_trans (Keep.of_wr W_51).1 (Nat.le_trans E_55.1 (Nat.le_trans K_82.1 K_101.1))))))))))))) (Nat.le_of_eq g_plo.symm))))
    have f_128 := ((f_88.keep K_101 nin0).ext E_105)
    have ne_129 := (Nat.ne_of_lt (Nat.lt_of_lt_of_le f_88.lt (Nat.le_trans K_101.1 (Nat.le_of_eq g_plo.symm))))
    refine K.callc (argsL := [(.ref ins), (.ref pt), (.ref od)]) (rest := [(.ref plo)]) at_181 (w':=184) rfl rfl (c_plw l Z a0 hw n0 h_104 (a := plo) (i := ins) (b := pt) (o := od) (w := d1_78) (s := d2_79) (s0 := s0) (s1 := s1) (s2 := s2) (o0 := o0) (o1 := o1) (o2 := o2) (ds := ds) sz_114 f_115 P3 x_plo ge_plo f_107 f_108 f_109 f_110 f_111 f_116 ne_117 f_112 f_118 ne_119 f_120 hds ne_121 f_126 ne_127 hpm_od f_113 f_128 ne_129 hin) hw120 hw121 hw119 hw122 (by decide) pd_24 rfl rfl (W := 1) (Nat.le_refl _) (by decide) (by decide) (by decide) (by decide) (fun v_132 h_130 q_131 => ?_)
    obtain ⟨pa, fa, na, va, ba, wa, pl, fl, nl, vl, u, x, p0, p1, p2, rfl, K_133, f_134, f_135, f_136, f_137, f_138, f_139, f_140, f_141, f_142, f_143, f_144, f_145, f_146, f_147, f_148, f_149, f_150, f_151, f_152, f_153, f_154, f_155, f_156, f_157, f_158, f_159, f_160, f_161, f_162, f_163, f_164, f_165, f_166, f_167, f_168, f_169, f_170, f_171, f_172, f_173, hu_pp, hPI_pp⟩ := q_131
    show G h_130 32 291 (mkF m 184 #[vi a, vi o, vi mv, vi xx, vj s0, se, vj s1, se, vj s2, se, vj r0, se, vj r1, se, vi 0, vi dm, vr od, vr wt, vr sa, vr ra, vr ins, vr pt, un, un, un, un, un, un, un, un, un, un, un, un, un] [(.ref plo)])
    refine K.astore at_184 (w':=186) rfl rfl (L' := #[vi a, vi o, vi mv, vi xx, vj s0, se, vj s1, se, vj s2, se, vj r0, se, vj r1, se, vi 0, vi dm, vr od, vr wt, vr sa, vr ra, vr ins, vr pt, vr plo, un, un, un, un, un, un, un, un, un, un, un, un]) rfl ?_
    refine K.lconst at_186 (w':=187) rfl (z := 0) rfl ?_
    refine K.lload at_187 (w':=189) rfl rfl ?_
    refine K.lload at_189 (w':=191) rfl rfl ?_
    refine K.lload at_191 (w':=193) rfl rfl ?_
    refine K.lload at_193 (w':=195) rfl rfl ?_
    refine K.lload at_195 (w':=197) rfl rfl ?_
    refine K.iload at_197 (w':=199) rfl rfl ?_
    refine K.calls (argsL := [(.long 0), (.long r0), (.long r1), (.long s0), (.long s1), (.long s2), (.int 0)]) (rest := []) at_199 (w':=202) rfl (c_prw l Z a0 hw n0 h_130 (p := (0 : Int64)) (r0 := r0) (r1 := r1) (s0 := s0) (s1 := s1) (s2 := s2) ) hw200 hw201 hw3 hw202 (by decide) pd_25 rfl rfl (W := 0) (Nat.le_refl _) (by decide) (by decide) (by decide) (by decide) (fun v_176 h_174 q_175 => ?_)
    obtain ⟨x0, rfl, t_x0, rfl⟩ := q_175
    show G h_130 32 291 (mkF m 202 #[vi a, vi o, vi mv, vi xx, vj s0, se, vj s1, se, vj s2, se, vj r0, se, vj r1, se, vi 0, vi dm, vr od, vr wt, vr sa, vr ra, vr ins, vr pt, vr plo, un, un, un, un, un, un, un, un, un, un, un, un] [(.int x0)])
    refine K.istore at_202 (w':=204) rfl (L' := #[vi a, vi o, vi mv, vi xx, vj s0, se, vj s1, se, vj s2, se, vj r0, se, vj r1, se, vi 0, vi dm, vr od, vr wt, vr sa, vr ra, vr ins, vr pt, vr plo, vi x0, un, un, un, un, un, un, un, un, un, un, un]) rfl ?_
    refine K.lconst at_204 (w':=205) rfl (z := 1) rfl ?_
    refine K.lload at_205 (w':=207) rfl rfl ?_
    refine K.lload at_207 (w':=209) rfl rfl ?_
    refine K.lload at_209 (w':=211) rfl rfl ?_
    refine K.lload at_211 (w':=213) rfl rfl ?_
    refine K.lload at_213 (w':=215) rfl rfl ?_
    refine K.iload at_215 (w':=217) rfl rfl ?_
    refine K.calls (argsL := [(.long 1), (.long r0), (.long r1), (.long s0), (.long s1), (.long s2), (.int 0)]) (rest := []) at_217 (w':=220) rfl (c_prw l Z a0 hw n0 h_130 (p := (1 : Int64)) (r0 := r0) (r1 := r1) (s0 := s0) (s1 := s1) (s2 := s2) ) hw200 hw201 hw3 hw202 (by decide) pd_25 rfl rfl (W := 0) (Nat.le_refl _) (by decide) (by decide) (by decide) (by decide) (fun v_179 h_177 q_178 => ?_)
    obtain ⟨x1, rfl, t_x1, rfl⟩ := q_178
    show G h_130 32 291 (mkF m 220 #[vi a, vi o, vi mv, vi xx, vj s0, se, vj s1, se, vj s2, se, vj r0, se, vj r1, se, vi 0, vi dm, vr od, vr wt, vr sa, vr ra, vr ins, vr pt, vr plo, vi x0, un, un, un, un, un, un, un, un, un, un, un] [(.int x1)])
    refine K.istore at_220 (w':=222) rfl (L' := #[vi a, vi o, vi mv, vi xx, vj s0, se, vj s1, se, vj s2, se, vj r0, se, vj r1, se, vi 0, vi dm, vr od, vr wt, vr sa, vr ra, vr ins, vr pt, vr plo, vi x0, vi x1, un, un, un, un, un, un, un, un, un, un]) rfl ?_
    refine K.ldc2J at_222 (w':=225) rfl hw7 ?_
    refine K.lload at_225 (w':=227) rfl rfl ?_
    refine K.lload at_227 (w':=229) rfl rfl ?_
    refine K.lload at_229 (w':=231) rfl rfl ?_
    refine K.lload at_231 (w':=233) rfl rfl ?_
    refine K.lload at_233 (w':=235) rfl rfl ?_
    refine K.iload at_235 (w':=237) rfl rfl ?_
    refine K.calls (argsL := [(.long 2), (.long r0), (.long r1), (.long s0), (.long s1), (.long s2), (.int 0)]) (rest := []) at_237 (w':=240) rfl (c_prw l Z a0 hw n0 h_130 (p := (2 : Int64)) (r0 := r0) (r1 := r1) (s0 := s0) (s1 := s1) (s2 := s2) ) hw200 hw201 hw3 hw202 (by decide) pd_25 rfl rfl (W := 0) (Nat.le_refl _) (by decide) (by decide) (by decide) (by decide) (fun v_182 h_180 q_181 => ?_)
    obtain ⟨x2, rfl, t_x2, rfl⟩ := q_181
    show G h_130 32 291 (mkF m 240 #[vi a, vi o, vi mv, vi xx, vj s0, se, vj s1, se, vj s2, se, vj r0, se, vj r1, se, vi 0, vi dm, vr od, vr wt, vr sa, vr ra, vr ins, vr pt, vr plo, vi x0, vi x1, un, un, un, un, un, un, un, un, un, un] [(.int x2)])
    refine K.istore at_240 (w':=242) rfl (L' := #[vi a, vi o, vi mv, vi xx, vj s0, se, vj s1, se, vj s2, se, vj r0, se, vj r1, se, vi 0, vi dm, vr od, vr wt, vr sa, vr ra, vr ins, vr pt, vr plo, vi x0, vi x1, vi x2, un, un, un, un, un, un, un, un, un]) rfl ?_
    refine K.ldc2J at_242 (w':=245) rfl hw8 ?_
    refine K.lload at_245 (w':=247) rfl rfl ?_
    refine K.lload at_247 (w':=249) rfl rfl ?_
    refine K.lload at_249 (w':=251) rfl rfl ?_
    refine K.lload at_251 (w':=253) rfl rfl ?_
    refine K.lload at_253 (w':=255) rfl rfl ?_
    refine K.iload at_255 (w':=257) rfl rfl ?_
    refine K.calls (argsL := [(.long 3), (.long r0), (.long r1), (.long s0), (.long s1), (.long s2), (.int 0)]) (rest := []) at_257 (w':=260) rfl (c_prw l Z a0 hw n0 h_130 (p := (3 : Int64)) (r0 := r0) (r1 := r1) (s0 := s0) (s1 := s1) (s2 := s2) ) hw200 hw201 hw3 hw202 (by decide) pd_25 rfl rfl (W := 0) (Nat.le_refl _) (by decide) (by decide) (by decide) (by decide) (fun v_185 h_183 q_184 => ?_)
    obtain ⟨x3, rfl, t_x3, rfl⟩ := q_184
    show G h_130 32 291 (mkF m 260 #[vi a, vi o, vi mv, vi xx, vj s0, se, vj s1, se, vj s2, se, vj r0, se, vj r1, se, vi 0, vi dm, vr od, vr wt, vr sa, vr ra, vr ins, vr pt, vr plo, vi x0, vi x1, vi x2, un, un, un, un, un, un, un, un, un] [(.int x3)])
    refine K.istore at_260 (w':=262) rfl (L' := #[vi a, vi o, vi mv, vi xx, vj s0, se, vj s1, se, vj s2, se, vj r0, se, vj r1, se, vi 0, vi dm, vr od, vr wt, vr sa, vr ra, vr ins, vr pt, vr plo, vi x0, vi x1, vi x2, vi x3, un, un, un, un, un, un, un, un]) rfl ?_
    have J272 : ∀ (y0 : Int32), (y0.toInt = x0.toInt) → G h_130 32 291 (mkF m 272 #[vi a, vi o, vi mv, vi xx, vj s0, se, vj s1, se, vj s2, se, vj r0, se, vj r1, se, vi 0, vi dm, vr od, vr wt, vr sa, vr ra, vr ins, vr pt, vr plo, vi x0, vi x1, vi x2, vi x3, un, un, un, un, un, un, un, un] [(.int y0)]) := by
     intro y0 hy0
     have J282 : ∀ (y1 : Int32), (y1.toInt = x1.toInt) → G h_130 32 291 (mkF m 282 #[vi a, vi o, vi mv, vi xx, vj s0, se, vj s1, se, vj s2, se, vj r0, se, vj r1, se, vi 0, vi dm, vr od, vr wt, vr sa, vr ra, vr ins, vr pt, vr plo, vi x0, vi x1, vi x2, vi x3, un, un, un, un, un, un, un, un] [(.int y1), (.int y0)]) := by
      intro y1 hy1
      obtain ⟨n2, e_n2⟩ : ∃ z, y0 + y1 = z := ⟨_, rfl⟩
      have r_n2 : (n2.toInt - (y0.toInt + y1.toInt)) % 4294967296 = 0 := by have q := c_iadd y0 y1; rw [e_n2] at q; exact q
      have g_n2 := rng32 n2
      have t_n2 : n2.toInt = y0.toInt + y1.toInt := by omega
      clear r_n2
      clear g_n2
      refine K.iadd at_282 (w':=283) rfl e_n2 ?_
      have J293 : ∀ (y2 : Int32), (y2.toInt = x2.toInt) → G h_130 32 291 (mkF m 293 #[vi a, vi o, vi mv, vi xx, vj s0, se, vj s1, se, vj s2, se, vj r0, se, vj r1, se, vi 0, vi dm, vr od, vr wt, vr sa, vr ra, vr ins, vr pt, vr plo, vi x0, vi x1, vi x2, vi x3, un, un, un, un, un, un, un, un] [(.int y2), (.int n2)]) := by
       intro y2 hy2
       obtain ⟨n3, e_n3⟩ : ∃ z, n2 + y2 = z := ⟨_, rfl⟩
       have r_n3 : (n3.toInt - (n2.toInt + y2.toInt)) % 4294967296 = 0 := by have q := c_iadd n2 y2; rw [e_n3] at q; exact q
       have g_n3 := rng32 n3
       have t_n3 : n3.toInt = n2.toInt + y2.toInt := by omega
       clear r_n3
       clear g_n3
       refine K.iadd at_293 (w':=294) rfl e_n3 ?_
       have J304 : ∀ (y3 : Int32), (y3.toInt = x3.toInt) → G h_130 32 291 (mkF m 304 #[vi a, vi o, vi mv, vi xx, vj s0, se, vj s1, se, vj s2, se, vj r0, se, vj r1, se, vi 0, vi dm, vr od, vr wt, vr sa, vr ra, vr ins, vr pt, vr plo, vi x0, vi x1, vi x2, vi x3, un, un, un, un, un, un, un, un] [(.int y3), (.int n3)]) := by
        intro y3 hy3
        obtain ⟨nm, e_nm⟩ : ∃ z, n3 + y3 = z := ⟨_, rfl⟩
        have r_nm : (nm.toInt - (n3.toInt + y3.toInt)) % 4294967296 = 0 := by have q := c_iadd n3 y3; rw [e_nm] at q; exact q
        have g_nm := rng32 nm
        have t_nm : nm.toInt = n3.toInt + y3.toInt := by omega
        clear r_nm
        clear g_nm
        refine K.iadd at_304 (w':=305) rfl e_nm ?_
        refine K.istore at_305 (w':=307) rfl (L' := #[vi a, vi o, vi mv, vi xx, vj s0, se, vj s1, se, vj s2, se, vj r0, se, vj r1, se, vi 0, vi dm, vr od, vr wt, vr sa, vr ra, vr ins, vr pt, vr plo, vi x0, vi x1, vi x2, vi x3, vi nm, un, un, un, un, un, un, un]) rfl ?_
        refine K.iload at_307 (w':=309) rfl rfl ?_
        refine K.if_eq at_309 (pc1 := 312) rfl (by decide) (pc2 := 317) (by decide) (a := 0) rfl (fun c309 => ?_) (fun c309 => ?_)
        ·refine K.lload at_317 (w':=319) rfl rfl ?_
         refine K.iload at_319 (w':=321) rfl rfl ?_
         refine K.iload at_321 (w':=323) rfl rfl ?_
         refine K.iload at_323 (w':=325) rfl rfl ?_
         refine K.calls (argsL := [(.long s0), (.int x0), (.int x1), (.int x2)]) (rest := []) at_325 (w':=328) rfl (c_idx l Z a0 hw n0 h_130 (p := s0) (x0 := x0) (x1 := x1) (x2 := x2) ) hw203 hw204 hw3 hw205 (by decide) pd_26 rfl rfl (W := 0) (Nat.le_refl _) (by decide) (by decide) (by decide) (by decide) (fun v_188 h_186 q_187 => ?_)
         obtain ⟨q0, rfl, t_q0, rfl⟩ := q_187
         show G h_130 32 291 (mkF m 328 #[vi a, vi o, vi mv, vi xx, vj s0, se, vj s1, se, vj s2, se, vj r0, se, vj r1, se, vi 0, vi dm, vr od, vr wt, vr sa, vr ra, vr ins, vr pt, vr plo, vi x0, vi x1, vi x2, vi x3, vi nm, un, un, un, un, un, un, un] [(.int q0)])
         refine K.istore at_328 (w':=330) rfl (L' := #[vi a, vi o, vi mv, vi xx, vj s0, se, vj s1, se, vj s2, se, vj r0, se, vj r1, se, vi 0, vi dm, vr od, vr wt, vr sa, vr ra, vr ins, vr pt, vr plo, vi x0, vi x1, vi x2, vi x3, vi nm, vi q0, un, un, un, un, un, un]) rfl ?_
         refine K.iload at_330 (w':=332) rfl rfl ?_
         refine K.if_eq at_332 (pc1 := 335) rfl (by decide) (pc2 := 342) (by decide) (a := 0) rfl (fun c332 => ?_) (fun c332 => ?_)
         ·refine K.lload at_342 (w':=344) rfl rfl ?_
          refine K.iload at_344 (w':=346) rfl rfl ?_
          refine K.iload at_346 (w':=348) rfl rfl ?_
          refine K.iload at_348 (w':=350) rfl rfl ?_
          refine K.calls (argsL := [(.long s1), (.int x0), (.int x1), (.int x2)]) (rest := []) at_350 (w':=353) rfl (c_idx l Z a0 hw n0 h_130 (p := s1) (x0 := x0) (x1 := x1) (x2 := x2) ) hw203 hw204 hw3 hw205 (by decide) pd_26 rfl rfl (W := 0) (Nat.le_refl _) (by decide) (by decide) (by decide) (by decide) (fun v_191 h_189 q_190 => ?_)
          obtain ⟨q1, rfl, t_q1, rfl⟩ := q_190
          show G h_130 32 291 (mkF m 353 #[vi a, vi o, vi mv, vi xx, vj s0, se, vj s1, se, vj s2, se, vj r0, se, vj r1, se, vi 0, vi dm, vr od, vr wt, vr sa, vr ra, vr ins, vr pt, vr plo, vi x0, vi x1, vi x2, vi x3, vi nm, vi q0, un, un, un, un, un, un] [(.int q1)])
          refine K.istore at_353 (w':=355) rfl (L' := #[vi a, vi o, vi mv, vi xx, vj s0, se, vj s1, se, vj s2, se, vj r0, se, vj r1, se, vi 0, vi dm, vr od, vr wt, vr sa, vr ra, vr ins, vr pt, vr plo, vi x0, vi x1, vi x2, vi x3, vi nm, vi q0, vi q1, un, un, un, un, un]) rfl ?_
          refine K.iload at_355 (w':=357) rfl rfl ?_
          refine K.if_eq at_357 (pc1 := 360) rfl (by decide) (pc2 := 367) (by decide) (a := 0) rfl (fun c357 => ?_) (fun c357 => ?_)
          ·refine K.lload at_367 (w':=369) rfl rfl ?_
           refine K.iload at_369 (w':=371) rfl rfl ?_
           refine K.iload at_371 (w':=373) rfl rfl ?_
           refine K.iload at_373 (w':=375) rfl rfl ?_
           refine K.calls (argsL := [(.long s2), (.int x0), (.int x1), (.int x2)]) (rest := []) at_375 (w':=378) rfl (c_idx l Z a0 hw n0 h_130 (p := s2) (x0 := x0) (x1 := x1) (x2 := x2) ) hw203 hw204 hw3 hw205 (by decide) pd_26 rfl rfl (W := 0) (Nat.le_refl _) (by decide) (by decide) (by decide) (by decide) (fun v_194 h_192 q_193 => ?_)
           obtain ⟨q2, rfl, t_q2, rfl⟩ := q_193
           show G h_130 32 291 (mkF m 378 #[vi a, vi o, vi mv, vi xx, vj s0, se, vj s1, se, vj s2, se, vj r0, se, vj r1, se, vi 0, vi dm, vr od, vr wt, vr sa, vr ra, vr ins, vr pt, vr plo, vi x0, vi x1, vi x2, vi x3, vi nm, vi q0, vi q1, un, un, un, un, un] [(.int q2)])
           refine K.istore at_378 (w':=380) rfl (L' := #[vi a, vi o, vi mv, vi xx, vj s0, se, vj s1, se, vj s2, se, vj r0, se, vj r1, se, vi 0, vi dm, vr od, vr wt, vr sa, vr ra, vr ins, vr pt, vr plo, vi x0, vi x1, vi x2, vi x3, vi nm, vi q0, vi q1, vi q2, un, un, un, un]) rfl ?_
           refine K.aload at_380 (w':=382) rfl rfl rfl ?_
           have f_195 := (x_plo.keep K_133)
           refine K.callv (z := (⟨sP, "positions", "()I"⟩ : MethodName)) (argsL := []) (rest := []) at_382 (w':=385) rfl (c_psn l Z a0 hw n0 h_130 (a := plo) (fa := fa) (fl := fl) f_195 f_135 f_140) f_195 hw206 hw207 (nf_sel hw209 rfl) hw209 hw208 hw119 hw210 (by decide) pd_18 rfl rfl (W := 0) (Nat.le_refl _) (by decide) (by decide) (by decide) (by decide) (fun v_198 h_196 q_197 => ?_)
           obtain ⟨np, rfl, t_np, rfl⟩ := q_197
           show G h_130 32 291 (mkF m 385 #[vi a, vi o, vi mv, vi xx, vj s0, se, vj s1, se, vj s2, se, vj r0, se, vj r1, se, vi 0, vi dm, vr od, vr wt, vr sa, vr ra, vr ins, vr pt, vr plo, vi x0, vi x1, vi x2, vi x3, vi nm, vi q0, vi q1, vi q2, un, un, un, un] [(.int np)])
           refine K.istore at_385 (w':=387) rfl (L' := #[vi a, vi o, vi mv, vi xx, vj s0, se, vj s1, se, vj s2, se, vj r0, se, vj r1, se, vi 0, vi dm, vr od, vr wt, vr sa, vr ra, vr ins, vr pt, vr plo, vi x0, vi x1, vi x2, vi x3, vi nm, vi q0, vi q1, vi q2, vi np, un, un, un]) rfl ?_
           have hcn := cnt_ hSD hrg hne t_x0.1 t_x1.1 t_x2.1 t_x3.1
           have hnm : nm.toInt = (ds.length : Int) := by omega
           have hfl := hPI_pp.1.2.1
           obtain ⟨hpp0, hpp1, hpp2, hpl⟩ := hPI_pp.2
           have hg0 : q0.toInt = (pl.getD 0 0).toInt := by rw [hpl]; exact idx_ hSD hrg hne t_x0.1 t_x1.1 t_x2.1 hpp0 t_q0
           have hg1 : q1.toInt = (pl.getD 1 0).toInt := by rw [hpl]; exact idx_ hSD hrg hne t_x0.1 t_x1.1 t_x2.1 hpp1 t_q1
           have hg2 : q2.toInt = (pl.getD 2 0).toInt := by rw [hpl]; exact idx_ hSD hrg hne t_x0.1 t_x1.1 t_x2.1 hpp2 t_q2
           have hp012 : p0.toInt < ds.length ∧ p1.toInt < ds.length ∧ p2.toInt < ds.length := by obtain ⟨i0, a0', b0', -⟩ := hpp0; obtain ⟨i1, a1, b1, -⟩ := hpp1; obtain ⟨i2, a2, b2', -⟩ := hpp2; omega
           refine K.iload at_387 (w':=389) rfl rfl ?_
           refine K.iload at_389 (w':=391) rfl rfl ?_
           refine K.iconst at_391 (w':=392) rfl (z := 3) rfl ?_
           obtain ⟨n9, e_n9⟩ : ∃ z, nm + (3 : Int32) = z := ⟨_, rfl⟩
           have r_n9 : (n9.toInt - (nm.toInt + 3)) % 4294967296 = 0 := by have q := c_iadd nm (3 : Int32); rw [e_n9] at q; exact q
           have g_n9 := rng32 n9
           have t_n9 : n9.toInt = nm.toInt + 3 := by omega
           clear r_n9
           clear g_n9
           refine K.iadd at_392 (w':=393) rfl e_n9 ?_
           refine K.icmp_eq at_393 (pc1 := 396) rfl (by decide) (pc2 := 398) (by decide) (a := np.toInt) (b := n9.toInt) rfl rfl (fun c393 => ?_) (fun c393 => ?_)
           ·refine K.iloadN at_398 (w':=399) rfl rfl ?_
            refine K.ldcI at_399 (w':=401) rfl hw0 ?_
            obtain ⟨m1, e_m1⟩ : ∃ z, mv &&& (2147483647 : Int32) = z := ⟨_, rfl⟩
            have r_m1 : m1.toInt = mv.toInt % 2147483648 := by have q := c_mask mv (2147483647 : Int32) 31 (by decide) (by decide); rw [e_m1] at q; exact q
            have t_m1 : 0 ≤ m1.toInt := by omega
            clear r_m1
            refine K.iand at_401 (w':=402) rfl e_m1 ?_
            refine K.iconst at_402 (w':=403) rfl (z := 3) rfl ?_
            obtain ⟨mi, e_mi⟩ : ∃ z, m1 % (3 : Int32) = z := ⟨_, rfl⟩
            have r_mi : (0 ≤ m1.toInt → mi.toInt = m1.toInt % 3) ∧ (m1.toInt < 0 → mi.toInt = -((-m1.toInt) % 3)) := by have q := c_irem m1 (3 : Int32) 3 rfl; rw [e_mi] at q; exact q
            have t_mi : 0 ≤ mi.toInt ∧ mi.toInt ≤ 2 := by omega
            clear r_mi
            refine K.irem at_403 (w':=404) rfl (by decide) e_mi ?_
            refine K.istore at_404 (w':=406) rfl (L' := #[vi a, vi o, vi mv, vi xx, vj s0, se, vj s1, se, vj s2, se, vj r0, se, vj r1, se, vi 0, vi dm, vr od, vr wt, vr sa, vr ra, vr ins, vr pt, vr plo, vi x0, vi x1, vi x2, vi x3, vi nm, vi q0, vi q1, vi q2, vi np, vi mi, un, un]) rfl ?_
            have H474_1 : ∀ (a0_ : Int32) (a1_ : Int32) (a2_ : Int32) (p : Int32) (fz : List Int32) (h_199 : Heap) (K_200 : Keep h_130 h_199 [pa, fa, na, va, ba, wa]) (A_201 : Ary Z h_199 fa .int (fz.map Value.int)), ((fz.length = (ds.length + 3) ∧ ∀ q : Nat, q < (ds.length + 3) → ((fz.getD q 0).toInt ≠ -1 ↔ (a0_.toInt = q ∨ a1_.toInt = q ∨ a2_.toInt = q))) ∧ 0 ≤ p.toInt ∧ p.toInt < np.toInt) → G h_199 32 291 (mkF m 474 #[vi a, vi o, vi mv, vi xx, vj s0, se, vj s1, se, vj s2, se, vj r0, se, vj r1, se, vi 0, vi dm, vr od, vr wt, vr sa, vr ra, vr ins, vr pt, vr plo, vi x0, vi x1, vi x2, vi x3, vi nm, vi a0_, vi a1_, vi a2_, vi np, vi mi, vi p, un] []) := by
             intro a0_ a1_ a2_ p fz h_199 K_200 A_201 hz_
             obtain ⟨hz, t_p⟩ := hz_
             have J500 : ∀ jb : Int32, jb = b2 (a0_.toInt = p.toInt ∨ a1_.toInt = p.toInt ∨ a2_.toInt = p.toInt) → G h_199 32 291 (mkF m 500 #[vi a, vi o, vi mv, vi xx, vj s0, se, vj s1, se, vj s2, se, vj r0, se, vj r1, se, vi 0, vi dm, vr od, vr wt, vr sa, vr ra, vr ins, vr pt, vr plo, vi x0, vi x1, vi x2, vi x3, vi nm, vi a0_, vi a1_, vi a2_, vi np, vi mi, vi p, un] [(.int jb)]) := by
              intro jb hjb; subst hjb
              refine K.istore at_500 (w':=502) rfl (L' := #[vi a, vi o, vi mv, vi xx, vj s0, se, vj s1, se, vj s2, se, vj r0, se, vj r1, se, vi 0, vi dm, vr od, vr wt, vr sa, vr ra, vr ins, vr pt, vr plo, vi x0, vi x1, vi x2, vi x3, vi nm, vi a0_, vi a1_, vi a2_, vi np, vi mi, vi p, .val (.int (b2 (a0_.toInt = p.toInt ∨ a1_.toInt = p.toInt ∨ a2_.toInt = p.toInt)))]) rfl ?_
              refine K.aload at_502 (w':=504) rfl rfl rfl ?_
              refine K.iload at_504 (w':=506) rfl rfl ?_
              have f_202 := (f_195.keep K_200)
              have ne_203 := (Nat.ne_of_lt (Nat.lt_of_lt_of_le x_plo.lt (Nat.le_trans (Nat.le_refl _) f_152)))
              have ne_204 := (Nat.ne_of_lt (Nat.lt_of_lt_of_le x_plo.lt (Nat.le_trans (Nat.le_refl _) f_151)))
              have ne_205 := (Nat.ne_of_lt (Nat.lt_of_lt_of_le x_plo.lt (Nat.le_trans (Nat.le_refl _) f_150)))
              have ne_206 := (Nat.ne_of_lt (Nat.lt_of_lt_of_le x_plo.lt (Nat.le_trans (Nat.le_refl _) f_149)))
              have ne_207 := (Nat.ne_of_lt (Nat.lt_of_lt_of_le x_plo.lt (Nat.le_trans (Nat.le_refl _) f_148)))
              have ne_208 := (Nat.ne_of_lt (Nat.lt_of_lt_of_le x_plo.lt (Nat.le_trans (Nat.le_refl _) f_147)))
              have f_209 := (f_135.keep K_200 (ninS ne_208 (ninS ne_207 (ninS ne_206 (ninS ne_205 (ninS ne_204 (ninS ne_203 nin0)))))))
              refine K.callv (z := (⟨sP, "covered", "(I)Z"⟩ : MethodName)) (argsL := [(.int p)]) (rest := []) at_506 (w':=509) rfl (c_cov l Z a0 hw n0 h_199 (a := plo) (fa := fa) (p := p) (f := (fz.getD p.toInt.toNat 0)) (fl := fz) f_202 f_209 A_201 ⟨t_p.1, getd (by have q := hz.1; omega)⟩) f_202 hw211 hw212 (nf_sel hw214 rfl) hw214 hw213 hw119 hw215 (by decide) pd_27 rfl rfl (W := 0) (Nat.le_refl _) (by decide) (by decide) (by decide) (by decide) (fun v_212 h_210 q_211 => ?_)
              obtain ⟨rfl, rfl⟩ := q_211
              show G h_199 32 291 (mkF m 509 #[vi a, vi o, vi mv, vi xx, vj s0, se, vj s1, se, vj s2, se, vj r0, se, vj r1, se, vi 0, vi dm, vr od, vr wt, vr sa, vr ra, vr ins, vr pt, vr plo, vi x0, vi x1, vi x2, vi x3, vi nm, vi a0_, vi a1_, vi a2_, vi np, vi mi, vi p, .val (.int (b2 (a0_.toInt = p.toInt ∨ a1_.toInt = p.toInt ∨ a2_.toInt = p.toInt)))] [(.int (b2 ((fz.getD p.toInt.toNat 0).toInt ≠ -1)))])
              refine K.iload at_509 (w':=511) rfl rfl ?_
              refine K.icmpneB at_511 (pc1 := 514) rfl (by decide) (pc2 := 518) (by decide) (fun c511 => ?_) (fun c511 => ?_)
              ·exfalso; exact c511 (fin_z hz.2 t_p (by omega))
              ·refine K.iconst at_514 (w':=515) rfl (z := 1) rfl ?_
               refine K.goto at_515 (by decide) (w':=519) (by decide) ?_
               exact K.retz at_519 (Or.inr rfl) (by decide) (by decide) rfl
             refine K.iload at_474 (w':=476) rfl rfl ?_
             refine K.iload at_476 (w':=478) rfl rfl ?_
             refine K.icmp_eq at_478 (pc1 := 481) rfl (by decide) (pc2 := 495) (by decide) (a := a0_.toInt) (b := p.toInt) rfl rfl (fun c478 => ?_) (fun c478 => ?_)
             ·refine K.iconst at_495 (w':=496) rfl (z := 1) rfl ?_
              refine K.goto at_496 (by decide) (w':=500) (by decide) ?_
              exact J500 _ (b2_t (by omega)).symm
             ·refine K.iload at_481 (w':=483) rfl rfl ?_
              refine K.iload at_483 (w':=485) rfl rfl ?_
              refine K.icmp_eq at_485 (pc1 := 488) rfl (by decide) (pc2 := 495) (by decide) (a := a1_.toInt) (b := p.toInt) rfl rfl (fun c485 => ?_) (fun c485 => ?_)
              ·refine K.iconst at_495 (w':=496) rfl (z := 1) rfl ?_
               refine K.goto at_496 (by decide) (w':=500) (by decide) ?_
               exact J500 _ (b2_t (by omega)).symm
              ·refine K.iload at_488 (w':=490) rfl rfl ?_
               refine K.iload at_490 (w':=492) rfl rfl ?_
               refine K.icmp_ne at_492 (pc1 := 495) rfl (by decide) (pc2 := 499) (by decide) (a := a2_.toInt) (b := p.toInt) rfl rfl (fun c492 => ?_) (fun c492 => ?_)
               ·refine K.iconst at_499 (w':=500) rfl (z := 0) rfl ?_
                exact J500 _ (b2_f (by omega)).symm
               ·refine K.iconst at_495 (w':=496) rfl (z := 1) rfl ?_
                refine K.goto at_496 (by decide) (w':=500) (by decide) ?_
                exact J500 _ (b2_t (by omega)).symm
            refine K.iload at_406 (w':=408) rfl rfl ?_
            refine K.if_eq at_408 (pc1 := 411) rfl (by decide) (pc2 := 465) (by decide) (a := dm.toInt) rfl (fun c408 => ?_) (fun c408 => ?_)
            ·refine K.iloadN at_465 (w':=466) rfl rfl ?_
             refine K.ldcI at_466 (w':=468) rfl hw0 ?_
             obtain ⟨m5, e_m5⟩ : ∃ z, xx &&& (2147483647 : Int32) = z := ⟨_, rfl⟩
             have r_m5 : m5.toInt = xx.toInt % 2147483648 := by have q := c_mask xx (2147483647 : Int32) 31 (by decide) (by decide); rw [e_m5] at q; exact q
             have t_m5 : 0 ≤ m5.toInt := by omega
             clear r_m5
             refine K.iand at_468 (w':=469) rfl e_m5 ?_
             refine K.iload at_469 (w':=471) rfl rfl ?_
             obtain ⟨p, e_p⟩ : ∃ z, m5 % np = z := ⟨_, rfl⟩
             have t_p : 0 ≤ p.toInt ∧ p.toInt < np.toInt := by rw [← e_p, Int32.toInt_mod, Int.tmod_eq_emod_of_nonneg (by omega)]; exact ⟨Int.emod_nonneg _ (by omega), Int.emod_lt_of_pos _ (by omega)⟩
             refine K.irem at_471 (w':=472) rfl (by intro q; have q2 := congrArg Int32.toInt q; rw [show (0 : Int32).toInt = 0 from rfl] at q2; omega) e_p ?_
             refine K.istore at_472 (w':=474) rfl (L' := #[vi a, vi o, vi mv, vi xx, vj s0, se, vj s1, se, vj s2, se, vj r0, se, vj r1, se, vi 0, vi dm, vr od, vr wt, vr sa, vr ra, vr ins, vr pt, vr plo, vi x0, vi x1, vi x2, vi x3, vi nm, vi q0, vi q1, vi q2, vi np, vi mi, vi p, un]) rfl ?_
             exact H474_1 q0 q1 q2 p (fl) h_130 (Keep.refl h_130 [pa, fa, na, va, ba, wa]) f_140 (by exact ⟨fin_g hPI_pp.1 hg0 hg1 hg2, t_p⟩)
            ·refine K.iload at_411 (w':=413) rfl rfl ?_
             refine K.if_eq at_413 (pc1 := 416) rfl (by decide) (pc2 := 420) (by decide) (a := 0) rfl (fun c413 => ?_) (fun c413 => ?_)
             ·refine K.iload at_420 (w':=422) rfl rfl ?_
              refine K.iload at_422 (w':=424) rfl rfl ?_
              obtain ⟨to, e_to⟩ : ∃ z, nm + mi = z := ⟨_, rfl⟩
              have r_to : (to.toInt - (nm.toInt + mi.toInt)) % 4294967296 = 0 := by have q := c_iadd nm mi; rw [e_to] at q; exact q
              have g_to := rng32 to
              have t_to : to.toInt = nm.toInt + mi.toInt := by omega
              clear r_to
              clear g_to
              refine K.iadd at_424 (w':=425) rfl e_to ?_
              refine K.istore at_425 (w':=427) rfl (L' := #[vi a, vi o, vi mv, vi xx, vj s0, se, vj s1, se, vj s2, se, vj r0, se, vj r1, se, vi 0, vi dm, vr od, vr wt, vr sa, vr ra, vr ins, vr pt, vr plo, vi x0, vi x1, vi x2, vi x3, vi nm, vi q0, vi q1, vi q2, vi np, vi mi, vi to, un]) rfl ?_
              refine K.aload at_427 (w':=429) rfl rfl rfl ?_
              refine K.iload at_429 (w':=431) rfl rfl ?_
              refine K.iload at_431 (w':=433) rfl rfl ?_
              have f_214 := (f_115.keep K_133 (allS ge_plo all0))
              have ne_215 := (Nat.ne_of_lt (Nat.lt_of_lt_of_le x_plo.lt (Nat.le_trans (Nat.le_refl _) f_147)))
              have ne_216 := (Nat.ne_of_lt (Nat.lt_of_lt_of_le x_plo.lt (Nat.le_trans (Nat.le_refl _) f_148)))
              have ne_217 := (Nat.ne_of_lt (Nat.lt_of_lt_of_le x_plo.lt (Nat.le_trans (Nat.le_refl _) f_149)))
              have ne_218 := (Nat.ne_of_lt (Nat.lt_of_lt_of_le x_plo.lt (Nat.le_trans (Nat.le_refl _) f_150)))
              have ne_219 := (Nat.ne_of_lt (Nat.lt_of_lt_of_le x_plo.lt (Nat.le_trans (Nat.le_refl _) f_151)))
              have ne_220 := (Nat.ne_of_lt (Nat.lt_of_lt_of_le x_plo.lt (Nat.le_trans (Nat.le_refl _) f_152)))
              refine K.callv (z := (⟨sP, "move", "(II)V"⟩ : MethodName)) (argsL := [(.int mi), (.int to)]) (rest := []) at_433 (w':=436) rfl (c_mov l Z a0 hw n0 h_130 (a := plo) (pa := pa) (fa := fa) (na := na) (va := va) (ba := ba) (wa := wa) (pl := pl) (fl := fl) (nl := nl) (vl := vl) (u := u) (mi := mi) (to := to) (x := x) (N := (ds.length + 3)) f_214 P3 f_195 f_134 f_135 f_136 f_137 f_138 f_139 f_140 f_141 f_142 f_143 f_144 f_145 f_146 f_153 f_154 f_155 f_156 f_157 f_158 f_159 f_160 f_161 f_162 f_163 f_164 f_165 f_166 f_167 f_168 f_169 f_170 f_171 f_172 f_173 ne_215 ne_216 ne_217 ne_218 ne_219 ne_220 hu_pp hPI_pp.1 t_mi (to_w hnm t_to t_mi hpl hp012.1 hp012.2.1 hp012.2.2)) f_195 hw216 hw217 (nf_sel hw219 rfl) hw219 hw218 hw119 hw220 (by decide) pd_28 rfl rfl (W := 0) (Nat.le_refl _) (by decide) (by decide) (by decide) (by decide) (fun v_223 h_221 q_222 => ?_)
              obtain ⟨fl2, rfl, K_224, f_225, hMV_mv⟩ := q_222
              show G h_221 32 291 (mkF m 436 #[vi a, vi o, vi mv, vi xx, vj s0, se, vj s1, se, vj s2, se, vj r0, se, vj r1, se, vi 0, vi dm, vr od, vr wt, vr sa, vr ra, vr ins, vr pt, vr plo, vi x0, vi x1, vi x2, vi x3, vi nm, vi q0, vi q1, vi q2, vi np, vi mi, vi to, un] [])
              refine K.iload at_436 (w':=438) rfl rfl ?_
              refine K.if_ne at_438 (pc1 := 441) rfl (by decide) (pc2 := 448) (by decide) (a := mi.toInt) rfl (fun c438 => ?_) (fun c438 => ?_)
              ·refine K.iload at_448 (w':=450) rfl rfl ?_
               refine K.iconst at_450 (w':=451) rfl (z := 1) rfl ?_
               refine K.icmp_ne at_451 (pc1 := 454) rfl (by decide) (pc2 := 461) (by decide) (a := mi.toInt) (b := 1) rfl rfl (fun c451 => ?_) (fun c451 => ?_)
               ·refine K.iload at_461 (w':=463) rfl rfl ?_
                refine K.istore at_463 (w':=465) rfl (L' := #[vi a, vi o, vi mv, vi xx, vj s0, se, vj s1, se, vj s2, se, vj r0, se, vj r1, se, vi 0, vi dm, vr od, vr wt, vr sa, vr ra, vr ins, vr pt, vr plo, vi x0, vi x1, vi x2, vi x3, vi nm, vi q0, vi q1, vi to, vi np, vi mi, vi to, un]) rfl ?_
                refine K.iloadN at_465 (w':=466) rfl rfl ?_
                refine K.ldcI at_466 (w':=468) rfl hw0 ?_
                obtain ⟨m5, e_m5⟩ : ∃ z, xx &&& (2147483647 : Int32) = z := ⟨_, rfl⟩
                have r_m5 : m5.toInt = xx.toInt % 2147483648 := by have q := c_mask xx (2147483647 : Int32) 31 (by decide) (by decide); rw [e_m5] at q; exact q
                have t_m5 : 0 ≤ m5.toInt := by omega
                clear r_m5
                refine K.iand at_468 (w':=469) rfl e_m5 ?_
                refine K.iload at_469 (w':=471) rfl rfl ?_
                obtain ⟨p, e_p⟩ : ∃ z, m5 % np = z := ⟨_, rfl⟩
                have t_p : 0 ≤ p.toInt ∧ p.toInt < np.toInt := by rw [← e_p, Int32.toInt_mod, Int.tmod_eq_emod_of_nonneg (by omega)]; exact ⟨Int.emod_nonneg _ (by omega), Int.emod_lt_of_pos _ (by omega)⟩
                refine K.irem at_471 (w':=472) rfl (by intro q; have q2 := congrArg Int32.toInt q; rw [show (0 : Int32).toInt = 0 from rfl] at q2; omega) e_p ?_
                refine K.istore at_472 (w':=474) rfl (L' := #[vi a, vi o, vi mv, vi xx, vj s0, se, vj s1, se, vj s2, se, vj r0, se, vj r1, se, vi 0, vi dm, vr od, vr wt, vr sa, vr ra, vr ins, vr pt, vr plo, vi x0, vi x1, vi x2, vi x3, vi nm, vi q0, vi q1, vi to, vi np, vi mi, vi p, un]) rfl ?_
                exact H474_1 q0 q1 to p (fl2) h_221 ((Keep.refl h_130 [pa, fa, na, va, ba, wa]).trans K_224 (allS (Or.inl (by simp)) (allS (Or.inl (by simp)) (allS (Or.inl (by simp)) (allS (Or.inl (by simp)) (allS (Or.inl (by simp)) (allS (Or.inl (by simp)) all0))))))) f_225 (by exact ⟨fin_m2 hMV_mv (by omega) hg0 hg1, t_p⟩)
               ·refine K.iload at_454 (w':=456) rfl rfl ?_
                refine K.istore at_456 (w':=458) rfl (L' := #[vi a, vi o, vi mv, vi xx, vj s0, se, vj s1, se, vj s2, se, vj r0, se, vj r1, se, vi 0, vi dm, vr od, vr wt, vr sa, vr ra, vr ins, vr pt, vr plo, vi x0, vi x1, vi x2, vi x3, vi nm, vi q0, vi to, vi q2, vi np, vi mi, vi to, un]) rfl ?_
                refine K.goto at_458 (by decide) (w':=465) (by decide) ?_
                refine K.iloadN at_465 (w':=466) rfl rfl ?_
                refine K.ldcI at_466 (w':=468) rfl hw0 ?_
                obtain ⟨m5, e_m5⟩ : ∃ z, xx &&& (2147483647 : Int32) = z := ⟨_, rfl⟩
                have r_m5 : m5.toInt = xx.toInt % 2147483648 := by have q := c_mask xx (2147483647 : Int32) 31 (by decide) (by decide); rw [e_m5] at q; exact q
                have t_m5 : 0 ≤ m5.toInt := by omega
                clear r_m5
                refine K.iand at_468 (w':=469) rfl e_m5 ?_
                refine K.iload at_469 (w':=471) rfl rfl ?_
                obtain ⟨p, e_p⟩ : ∃ z, m5 % np = z := ⟨_, rfl⟩
                have t_p : 0 ≤ p.toInt ∧ p.toInt < np.toInt := by rw [← e_p, Int32.toInt_mod, Int.tmod_eq_emod_of_nonneg (by omega)]; exact ⟨Int.emod_nonneg _ (by omega), Int.emod_lt_of_pos _ (by omega)⟩
                refine K.irem at_471 (w':=472) rfl (by intro q; have q2 := congrArg Int32.toInt q; rw [show (0 : Int32).toInt = 0 from rfl] at q2; omega) e_p ?_
                refine K.istore at_472 (w':=474) rfl (L' := #[vi a, vi o, vi mv, vi xx, vj s0, se, vj s1, se, vj s2, se, vj r0, se, vj r1, se, vi 0, vi dm, vr od, vr wt, vr sa, vr ra, vr ins, vr pt, vr plo, vi x0, vi x1, vi x2, vi x3, vi nm, vi q0, vi to, vi q2, vi np, vi mi, vi p, un]) rfl ?_
                exact H474_1 q0 to q2 p (fl2) h_221 ((Keep.refl h_130 [pa, fa, na, va, ba, wa]).trans K_224 (allS (Or.inl (by simp)) (allS (Or.inl (by simp)) (allS (Or.inl (by simp)) (allS (Or.inl (by simp)) (allS (Or.inl (by simp)) (allS (Or.inl (by simp)) all0))))))) f_225 (by exact ⟨fin_m1 hMV_mv (by omega) hg0 hg2, t_p⟩)
              ·refine K.iload at_441 (w':=443) rfl rfl ?_
               refine K.istore at_443 (w':=445) rfl (L' := #[vi a, vi o, vi mv, vi xx, vj s0, se, vj s1, se, vj s2, se, vj r0, se, vj r1, se, vi 0, vi dm, vr od, vr wt, vr sa, vr ra, vr ins, vr pt, vr plo, vi x0, vi x1, vi x2, vi x3, vi nm, vi to, vi q1, vi q2, vi np, vi mi, vi to, un]) rfl ?_
               refine K.goto at_445 (by decide) (w':=465) (by decide) ?_
               refine K.iloadN at_465 (w':=466) rfl rfl ?_
               refine K.ldcI at_466 (w':=468) rfl hw0 ?_
               obtain ⟨m5, e_m5⟩ : ∃ z, xx &&& (2147483647 : Int32) = z := ⟨_, rfl⟩
               have r_m5 : m5.toInt = xx.toInt % 2147483648 := by have q := c_mask xx (2147483647 : Int32) 31 (by decide) (by decide); rw [e_m5] at q; exact q
               have t_m5 : 0 ≤ m5.toInt := by omega
               clear r_m5
               refine K.iand at_468 (w':=469) rfl e_m5 ?_
               refine K.iload at_469 (w':=471) rfl rfl ?_
               obtain ⟨p, e_p⟩ : ∃ z, m5 % np = z := ⟨_, rfl⟩
               have t_p : 0 ≤ p.toInt ∧ p.toInt < np.toInt := by rw [← e_p, Int32.toInt_mod, Int.tmod_eq_emod_of_nonneg (by omega)]; exact ⟨Int.emod_nonneg _ (by omega), Int.emod_lt_of_pos _ (by omega)⟩
               refine K.irem at_471 (w':=472) rfl (by intro q; have q2 := congrArg Int32.toInt q; rw [show (0 : Int32).toInt = 0 from rfl] at q2; omega) e_p ?_
               refine K.istore at_472 (w':=474) rfl (L' := #[vi a, vi o, vi mv, vi xx, vj s0, se, vj s1, se, vj s2, se, vj r0, se, vj r1, se, vi 0, vi dm, vr od, vr wt, vr sa, vr ra, vr ins, vr pt, vr plo, vi x0, vi x1, vi x2, vi x3, vi nm, vi to, vi q1, vi q2, vi np, vi mi, vi p, un]) rfl ?_
               exact H474_1 to q1 q2 p (fl2) h_221 ((Keep.refl h_130 [pa, fa, na, va, ba, wa]).trans K_224 (allS (Or.inl (by simp)) (allS (Or.inl (by simp)) (allS (Or.inl (by simp)) (allS (Or.inl (by simp)) (allS (Or.inl (by simp)) (allS (Or.inl (by simp)) all0))))))) f_225 (by exact ⟨fin_m0 hMV_mv (by omega) hg1 hg2, t_p⟩)
             ·exfalso; omega
           ·exfalso; omega
          ·exfalso; omega
         ·exfalso; omega
        ·exfalso; omega
       refine K.iload at_294 (w':=296) rfl rfl ?_
       refine K.if_eq at_296 (pc1 := 299) rfl (by decide) (pc2 := 303) (by decide) (a := x3.toInt) rfl (fun c296 => ?_) (fun c296 => ?_)
       ·refine K.iconst at_303 (w':=304) rfl (z := 0) rfl ?_
        exact J304 _ (by (have o0 : (0 : Int32).toInt = 0 := rfl; have o1 : (1 : Int32).toInt = 1 := rfl; omega))
       ·refine K.iconst at_299 (w':=300) rfl (z := 1) rfl ?_
        refine K.goto at_300 (by decide) (w':=304) (by decide) ?_
        exact J304 _ (by (have o0 : (0 : Int32).toInt = 0 := rfl; have o1 : (1 : Int32).toInt = 1 := rfl; omega))
      refine K.iload at_283 (w':=285) rfl rfl ?_
      refine K.if_eq at_285 (pc1 := 288) rfl (by decide) (pc2 := 292) (by decide) (a := x2.toInt) rfl (fun c285 => ?_) (fun c285 => ?_)
      ·refine K.iconst at_292 (w':=293) rfl (z := 0) rfl ?_
       exact J293 _ (by (have o0 : (0 : Int32).toInt = 0 := rfl; have o1 : (1 : Int32).toInt = 1 := rfl; omega))
      ·refine K.iconst at_288 (w':=289) rfl (z := 1) rfl ?_
       refine K.goto at_289 (by decide) (w':=293) (by decide) ?_
       exact J293 _ (by (have o0 : (0 : Int32).toInt = 0 := rfl; have o1 : (1 : Int32).toInt = 1 := rfl; omega))
     refine K.iload at_272 (w':=274) rfl rfl ?_
     refine K.if_eq at_274 (pc1 := 277) rfl (by decide) (pc2 := 281) (by decide) (a := x1.toInt) rfl (fun c274 => ?_) (fun c274 => ?_)
     ·refine K.iconst at_281 (w':=282) rfl (z := 0) rfl ?_
      exact J282 _ (by (have o0 : (0 : Int32).toInt = 0 := rfl; have o1 : (1 : Int32).toInt = 1 := rfl; omega))
     ·refine K.iconst at_277 (w':=278) rfl (z := 1) rfl ?_
      refine K.goto at_278 (by decide) (w':=282) (by decide) ?_
      exact J282 _ (by (have o0 : (0 : Int32).toInt = 0 := rfl; have o1 : (1 : Int32).toInt = 1 := rfl; omega))
    refine K.iload at_262 (w':=264) rfl rfl ?_
    refine K.if_eq at_264 (pc1 := 267) rfl (by decide) (pc2 := 271) (by decide) (a := x0.toInt) rfl (fun c264 => ?_) (fun c264 => ?_)
    ·refine K.iconst at_271 (w':=272) rfl (z := 0) rfl ?_
     exact J272 _ (by (have o0 : (0 : Int32).toInt = 0 := rfl; have o1 : (1 : Int32).toInt = 1 := rfl; omega))
    ·refine K.iconst at_267 (w':=268) rfl (z := 1) rfl ?_
     refine K.goto at_268 (by decide) (w':=272) (by decide) ?_
     exact J272 _ (by (have o0 : (0 : Int32).toInt = 0 := rfl; have o1 : (1 : Int32).toInt = 1 := rfl; omega))
   ·exfalso; omega
  refine K.iloadN at_56 (w':=57) rfl rfl ?_
  refine K.bipush at_57 (w':=59) rfl (z := 11) rfl ?_
  obtain ⟨z59, e_z59⟩ : ∃ z, (a.toUInt32 >>> ((11 : Int32) &&& 31).toUInt32).toInt32 = z := ⟨_, rfl⟩
  refine K.iushr at_59 (w':=60) rfl e_z59 ?_
  refine K.iconst at_60 (w':=61) rfl (z := 1) rfl ?_
  obtain ⟨z61, e_z61⟩ : ∃ z, z59 &&& (1 : Int32) = z := ⟨_, rfl⟩
  refine K.iand at_61 (w':=62) rfl e_z61 ?_
  refine K.if_eq at_62 (pc1 := 65) rfl (by decide) (pc2 := 69) (by decide) (a := z61.toInt) rfl (fun c62 => ?_) (fun c62 => ?_)
  ·refine K.iconst at_69 (w':=70) rfl (z := 0) rfl ?_
   exact J70 _ (by trivial)
  ·refine K.iconst at_65 (w':=66) rfl (z := 1) rfl ?_
   refine K.goto at_66 (by decide) (w':=70) (by decide) ?_
   exact J70 _ (by trivial)
 ·refine K.iconst at_49 (w':=50) rfl (z := 1) rfl ?_
  refine K.goto at_50 (by decide) (w':=54) (by decide) ?_
  refine K.istore at_54 (w':=56) rfl (L' := #[vi a, vi o, vi mv, vi xx, vj s0, se, vj s1, se, vj s2, se, vj r0, se, vj r1, se, vi 1, un, un, un, un, un, un, un, un, un, un, un, un, un, un, un, un, un, un, un, un]) rfl ?_
  have J70 : ∀ (dm : Int32), (True) → G h 0 0 (mkF m 70 #[vi a, vi o, vi mv, vi xx, vj s0, se, vj s1, se, vj s2, se, vj r0, se, vj r1, se, vi 1, un, un, un, un, un, un, un, un, un, un, un, un, un, un, un, un, un, un, un, un] [(.int dm)]) := by
   intro dm hj70
   refine K.istore at_70 (w':=72) rfl (L' := #[vi a, vi o, vi mv, vi xx, vj s0, se, vj s1, se, vj s2, se, vj r0, se, vj r1, se, vi 1, vi dm, un, un, un, un, un, un, un, un, un, un, un, un, un, un, un, un, un, un, un]) rfl ?_
   refine K.iloadN at_72 (w':=73) rfl rfl ?_
   refine K.ldcI at_73 (w':=75) rfl hw0 ?_
   obtain ⟨m0, e_m0⟩ : ∃ z, o &&& (2147483647 : Int32) = z := ⟨_, rfl⟩
   have r_m0 : m0.toInt = o.toInt % 2147483648 := by have q := c_mask o (2147483647 : Int32) 31 (by decide) (by decide); rw [e_m0] at q; exact q
   have t_m0 : 0 ≤ m0.toInt := by omega
   clear r_m0
   refine K.iand at_75 (w':=76) rfl e_m0 ?_
   refine K.bipush at_76 (w':=78) rfl (z := 6) rfl ?_
   obtain ⟨k, e_k⟩ : ∃ z, m0 % (6 : Int32) = z := ⟨_, rfl⟩
   have r_k : (0 ≤ m0.toInt → k.toInt = m0.toInt % 6) ∧ (m0.toInt < 0 → k.toInt = -((-m0.toInt) % 6)) := by have q := c_irem m0 (6 : Int32) 6 rfl; rw [e_k] at q; exact q
   have t_k : 0 ≤ k.toInt ∧ k.toInt ≤ 5 := by omega
   clear r_k
   refine K.irem at_78 (w':=79) rfl (by decide) e_k ?_
   refine K.calls (argsL := [(.int k)]) (rest := []) at_79 (w':=82) rfl (c_perm l Z a0 hw n0 h (k := k) Z0 t_k) hw1 hw2 hw3 hw4 (by decide) pd_22 rfl rfl (W := 0) (Nat.le_refl _) (by decide) (by decide) (by decide) (by decide) (fun v_228 h_226 q_227 => ?_)
   obtain ⟨od, o0, o1, o2, rfl, K_229, f_230, f_231, hpm_od⟩ := q_227
   show G h_226 1 3 (mkF m 82 #[vi a, vi o, vi mv, vi xx, vj s0, se, vj s1, se, vj s2, se, vj r0, se, vj r1, se, vi 1, vi dm, un, un, un, un, un, un, un, un, un, un, un, un, un, un, un, un, un, un, un] [(.ref od)])
   refine K.astore at_82 (w':=84) rfl rfl (L' := #[vi a, vi o, vi mv, vi xx, vj s0, se, vj s1, se, vj s2, se, vj r0, se, vj r1, se, vi 1, vi dm, vr od, un, un, un, un, un, un, un, un, un, un, un, un, un, un, un, un, un, un]) rfl ?_
   refine K.iconst at_84 (w':=85) rfl (z := 3) rfl ?_
   refine K.newa at_85 (w':=87) rfl hw6 (k := 3) (cap := 3) rfl (by decide) (by decide) (by decide) (by decide) (ad := "[J") (by decide) (fun h_232 wt g_wt E_233 A_234 x_wt => ?_)
   have sz_235 := Nat.le_trans Z0 K_229.1
   have ge_wt : n0 ≤ wt := g_wt ▸ sz_235
   have A_236 : Ary Z h_232 wt .long [(.long 0), (.long 0), (.long 0)] := A_234
   refine K.dup at_87 (w':=88) rfl rfl ?_
   refine K.iconst at_88 (w':=89) rfl (z := 0) rfl ?_
   refine K.lconst at_89 (w':=90) rfl (z := 1) rfl ?_
   refine K.last at_90 (w':=91) rfl A_236 (i := 0) rfl (show 0 < 3 by decide) ge_wt (fun h_237 W_238 A_239 => ?_)
   have A_240 : Ary Z h_237 wt .long [(.long 1), (.long 0), (.long 0)] := A_239
   refine K.dup at_91 (w':=92) rfl rfl ?_
   refine K.iconst at_92 (w':=93) rfl (z := 1) rfl ?_
   refine K.ldc2J at_93 (w':=96) rfl hw7 ?_
   refine K.last at_96 (w':=97) rfl A_240 (i := 1) rfl (show 1 < 3 by decide) ge_wt (fun h_241 W_242 A_243 => ?_)
   have A_244 : Ary Z h_241 wt .long [(.long 1), (.long 2), (.long 0)] := A_243
   refine K.dup at_97 (w':=98) rfl rfl ?_
   refine K.iconst at_98 (w':=99) rfl (z := 2) rfl ?_
   refine K.ldc2J at_99 (w':=102) rfl hw8 ?_
   refine K.last at_102 (w':=103) rfl A_244 (i := 2) rfl (show 2 < 3 by decide) ge_wt (fun h_245 W_246 A_247 => ?_)
   have A_248 : Ary Z h_245 wt .long [(.long 1), (.long 2), (.long 3)] := A_247
   refine K.astore at_103 (w':=105) rfl rfl (L' := #[vi a, vi o, vi mv, vi xx, vj s0, se, vj s1, se, vj s2, se, vj r0, se, vj r1, se, vi 1, vi dm, vr od, vr wt, un, un, un, un, un, un, un, un, un, un, un, un, un, un, un, un, un]) rfl ?_
   refine K.iload at_105 (w':=107) rfl rfl ?_
   refine K.if_eq at_107 (pc1 := 110) rfl (by decide) (pc2 := 114) (by decide) (a := 1) rfl (fun c107 => ?_) (fun c107 => ?_)
   ·exfalso; omega
   ·refine K.anull at_110 (w':=111) rfl ?_
    refine K.goto at_111 (by decide) (w':=132) (by decide) ?_
    refine K.astore at_132 (w':=134) rfl rfl (L' := #[vi a, vi o, vi mv, vi xx, vj s0, se, vj s1, se, vj s2, se, vj r0, se, vj r1, se, vi 1, vi dm, vr od, vr wt, vn, un, un, un, un, un, un, un, un, un, un, un, un, un, un, un, un]) rfl ?_
    refine K.iconst at_134 (w':=135) rfl (z := 2) rfl ?_
    refine K.newa at_135 (w':=137) rfl hw6 (k := 2) (cap := 2) rfl (by decide) (by decide) (by decide) (by decide) (ad := "[J") (by decide) (fun h_249 ra g_ra E_250 A_251 x_ra => ?_)
    have sz_252 := Nat.le_trans sz_235 (Nat.le_trans E_233.1 (Nat.le_trans (Keep.of_wr W_238).1 (Nat.le_trans (Keep.of_wr W_242).1 (Keep.of_wr W_246).1)))
    have ge_ra : n0 ≤ ra := g_ra ▸ sz_252
    have A_253 : Ary Z h_249 ra .long [(.long 0), (.long 0)] := A_251
    refine K.dup at_137 (w':=138) rfl rfl ?_
    refine K.iconst at_138 (w':=139) rfl (z := 0) rfl ?_
    refine K.lload at_139 (w':=141) rfl rfl ?_
    refine K.last at_141 (w':=142) rfl A_253 (i := 0) rfl (show 0 < 2 by decide) ge_ra (fun h_254 W_255 A_256 => ?_)
    have A_257 : Ary Z h_254 ra .long [(.long r0), (.long 0)] := A_256
    refine K.dup at_142 (w':=143) rfl rfl ?_
    refine K.iconst at_143 (w':=144) rfl (z := 1) rfl ?_
    refine K.lload at_144 (w':=146) rfl rfl ?_
    refine K.last at_146 (w':=147) rfl A_257 (i := 1) rfl (show 1 < 2 by decide) ge_ra (fun h_258 W_259 A_260 => ?_)
    have A_261 : Ary Z h_258 ra .long [(.long r0), (.long r1)] := A_260
    refine K.astore at_147 (w':=149) rfl rfl (L' := #[vi a, vi o, vi mv, vi xx, vj s0, se, vj s1, se, vj s2, se, vj r0, se, vj r1, se, vi 1, vi dm, vr od, vr wt, vn, vr ra, un, un, un, un, un, un, un, un, un, un, un, un, un, un, un]) rfl ?_
    refine K.newo at_149 (w':=152) rfl hw9 hw10 hw11 (by decide) (by decide) (fun h_262 ins g_ins E_263 x_ins D_ins => ?_)
    have sz_264 := Nat.le_trans sz_252 (Nat.le_trans E_250.1 (Nat.le_trans (Keep.of_wr W_255).1 (Keep.of_wr W_259).1))
    have ge_ins : n0 ≤ ins := g_ins ▸ sz_264
    have f_265 : Fld Z h_262 ins sI "weights" "[J" .null := D_ins (Or.inr hw60) (ty := (.array .long)) (by decide)
    have f_266 : Fld Z h_262 ins sI "start" "[J" .null := D_ins (Or.inr hw62) (ty := (.array .long)) (by decide)
    have f_267 : Fld Z h_262 ins sI "requests" "Lcom/example/odograph/odograph/model/Requests;" .null := D_ins (Or.inr hw64) (ty := (.object sR)) (by decide)
    refine K.dup at_152 (w':=153) rfl rfl ?_
    refine K.aload at_153 (w':=155) rfl rfl rfl ?_
    refine K.aload at_155 (w':=157) rfl rfl rfl ?_
    refine K.aload at_157 (w':=159) rfl rfl rfl ?_
    have sz_268 := Nat.le_trans sz_264 E_263.1
    have ne_269 := (Nat.ne_of_lt (Nat.lt_of_lt_of_le x_wt.lt (Nat.le_trans (Nat.le_trans (Keep.of_wr W_238).1 (Nat.le_trans (Keep.of_wr W_242).1 (Keep.of_wr W_246).1)) (Nat.le_of_eq g_ra.symm))))
    have f_270 := ((((A_248.ext E_250).other W_255 ne_269).other W_259 ne_269).ext E_263)
    have f_271 := (((((((x_wt.wr W_238).wr W_242).wr W_246).ext E_250).wr W_255).wr W_259).ext E_263)
    have ne_272 := (Nat.ne_of_lt (Nat.lt_of_lt_of_le x_wt.lt (Nat.le_trans (Nat.le_trans (Keep.of_wr W_238).1 (Nat.le_trans (Keep.of_wr W_242).1 (Nat.le_trans (Keep.of_wr W_246).1 (Nat.le_trans E_250.1 (Nat.le_trans (Keep.of_wr W_255).1 (Keep.of_wr W_259).1))))) (Nat.le_of_eq g_ins.symm))))
    have f_273 := (A_261.ext E_263)
    have f_274 := (((x_ra.wr W_255).wr W_259).ext E_263)
    have ne_275 := (Nat.ne_of_lt (Nat.lt_of_lt_of_le x_ra.lt (Nat.le_trans (Nat.le_trans (Keep.of_wr W_255).1 (Keep.of_wr W_259).1) (Nat.le_of_eq g_ins.symm))))
    refine K.callcV (argsL := [(.ref wt), .null, (.ref ra)]) (rest := [(.ref ins)]) at_159 (w':=162) rfl rfl (c_in1c l Z a0 hw n0 h_262 (a := ins) (w := wt) (r := ra) (r0 := r0) (r1 := r1) (lv0 := _) sz_268 x_ins ge_ins f_265 f_266 f_267 f_270 f_271 ne_272 f_273 f_274 ne_275 (by omega) (by omega)) hw12 hw13 hw11 hw14 (by decide) pd_23 rfl rfl (W := 1) (Nat.le_refl _) (by decide) (by decide) (by decide) (by decide) (fun lv_279 G K v_278 h_276 q_277 => ?_)
    obtain ⟨d1_281, q_282, d3_283, rfl, K_284, f_285, f_286, f_287, f_288, f_289, f_290, f_291, f_292, f_293, f_294, f_295⟩ := q_277
    show G h_276 12 85 (mkF m 162 #[vi a, vi o, vi mv, vi xx, vj s0, se, vj s1, se, vj s2, se, vj r0, se, vj r1, se, vi 1, vi dm, vr od, vr wt, vn, vr ra, un, un, un, un, un, un, un, un, un, un, un, un, un, un, un] [(.ref ins)])
    refine K.astore at_162 (w':=164) rfl rfl (L' := #[vi a, vi o, vi mv, vi xx, vj s0, se, vj s1, se, vj s2, se, vj r0, se, vj r1, se, vi 1, vi dm, vr od, vr wt, vn, vr ra, vr ins, un, un, un, un, un, un, un, un, un, un, un, un, un, un]) rfl ?_
    refine K.aload at_164 (w':=166) rfl rfl rfl ?_
    have f_296 := (x_ins.keep K_284)
    have sz_297 := Nat.le_trans sz_268 K_284.1
    refine K.callv (z := (⟨sI, "namedPoints", "()[J"⟩ : MethodName)) (argsL := []) (rest := []) at_166 (w':=169) rfl (c_npc l Z a0 hw n0 h_276 (a := ins) (q := q_282) (d := d3_283) (r0 := r0) (r1 := r1) sz_297 f_296 f_289 f_292 f_293 f_294 f_295 f_288) f_296 hw65 hw66 (nf_sel hw68 rfl) hw68 hw67 hw11 hw69 (by decide) pd_12 rfl rfl (W := 0) (Nat.le_refl _) (by decide) (by decide) (by decide) (by decide) (fun v_300 h_298 q_299 => ?_)
    obtain ⟨pt, ds, rfl, K_301, f_302, f_303, hsd_pt⟩ := q_299
    show G h_298 14 95 (mkF m 169 #[vi a, vi o, vi mv, vi xx, vj s0, se, vj s1, se, vj s2, se, vj r0, se, vj r1, se, vi 1, vi dm, vr od, vr wt, vn, vr ra, vr ins, un, un, un, un, un, un, un, un, un, un, un, un, un, un] [(.ref pt)])
    refine K.astore at_169 (w':=171) rfl rfl (L' := #[vi a, vi o, vi mv, vi xx, vj s0, se, vj s1, se, vj s2, se, vj r0, se, vj r1, se, vi 1, vi dm, vr od, vr wt, vn, vr ra, vr ins, vr pt, un, un, un, un, un, un, un, un, un, un, un, un, un]) rfl ?_
    refine K.newo at_171 (w':=174) rfl hw117 hw118 hw119 (by decide) (by decide) (fun h_304 plo g_plo E_305 x_plo D_plo => ?_)
    have sz_306 := Nat.le_trans sz_297 K_301.1
    have ge_plo : n0 ≤ plo := g_plo ▸ sz_306
    have f_307 : Fld Z h_304 plo sP "position" "[I" .null := D_plo (Or.inr hw141) (ty := (.array .int)) (by decide)
    have f_308 : Fld Z h_304 plo sP "first" "[I" .null := D_plo (Or.inr hw143) (ty := (.array .int)) (by decide)
    have f_309 : Fld Z h_304 plo sP "next" "[I" .null := D_plo (Or.inr hw145) (ty := (.array .int)) (by decide)
    have f_310 : Fld Z h_304 plo sP "previous" "[I" .null := D_plo (Or.inr hw147) (ty := (.array .int)) (by decide)
    have f_311 : Fld Z h_304 plo sP "stacked" "Ljava/util/BitSet;" .null := D_plo (Or.inr hw170) (ty := (.object sB)) (by decide)
    refine K.dup at_174 (w':=175) rfl rfl ?_
    refine K.aload at_175 (w':=177) rfl rfl rfl ?_
    refine K.aload at_177 (w':=179) rfl rfl rfl ?_
    refine K.aload at_179 (w':=181) rfl rfl rfl ?_
    have hSD : SD ds (fun v => v = r0.toInt ∨ v = r1.toInt) := hsd_pt.1
    have hne : ∃ v, ((fun v => v = r0.toInt ∨ v = r1.toInt) : Int → Prop) v := ⟨_, Or.inl rfl⟩
    have hrg : ∀ v, ((fun v => v = r0.toInt ∨ v = r1.toInt) : Int → Prop) v → 0 ≤ v ∧ v ≤ 3 := fun v hv => by simp only at hv; omega
    have hds := sd4 hSD hne hrg
    have f_312 := ((f_287.keep K_301 nin0).ext E_305)
    have sz_313 := Nat.le_trans sz_306 E_305.1
    have f_314 := ((((((((((((P2.keep K_229 all0).ext E_233).wr W_238 ge_wt).wr W_242 ge_wt).wr W_246 ge_wt).ext E_250).wr W_255 ge_ra).wr W_259 ge_ra).ext E_263).keep K_284 (allS ge_ins all0)).keep K_301 all0).ext E_305)
    have f_315 := ((f_296.keep K_301).ext E_305)
    have ne_316 := (Nat.ne_of_lt (Nat.lt_of_lt_of_le x_ins.lt (Nat.le_trans (Nat.le_trans K_284.1 K_301.1) (Nat.le_of_eq g_plo.symm))))
    have f_317 := ((f_286.keep K_301 nin0).ext E_305)
    have ne_318 := (Nat.ne_of_lt (Nat.lt_of_lt_of_le f_286.lt (Nat.le_trans K_301.1 (Nat.le_of_eq g_plo.symm))))
    have f_319 := (f_303.ext E_305)
    have ne_320 := (Nat.ne_of_lt (Nat.lt_of_lt_of_le f_303.lt (Nat.le_trans (Nat.le_refl _) (Nat.le_of_eq g_plo.symm))))
    have ne_321 := (Nat.ne_of_lt (Nat.lt_of_lt_of_le f_231.lt (Nat.le_trans (Nat.le_refl _) (Nat.le_of_eq g_wt.symm))))
    have ne_322 := (Nat.ne_of_lt (Nat.lt_of_lt_of_le f_231.lt (Nat.le_trans (Nat.le_trans E_233.1 (Nat.le_trans (Keep.of_wr W_238).1 (Nat.le_trans (Keep.of_wr W_242).1 (Keep.of_wr W_246).1))) (Nat.le_of_eq g_ra.symm))))
    have ne_323 := (Nat.ne_of_lt (Nat.lt_of_lt_of_le f_231.lt (Nat.le_trans (Nat.le_trans E_233.1 (Nat.le_trans (Keep.of_wr W_238).1 (Nat.le_trans (Keep.of_wr W_242).1 (Nat.le_trans (Keep.of_wr W_246).1 (Nat.le_trans E_250.1 (Nat.le_trans (Keep.of_wr W_255).1 (Keep.of_wr W_259).1)))))) (Nat.le_of_eq g_ins.symm))))
    have f_324 := (((((((((((f_231.ext E_233).other W_238 ne_321).other W_242 ne_321).other W_246 ne_321).ext E_250).other W_255 ne_322).other W_259 ne_322).ext E_263).keep K_284 (ninS ne_323 nin0)).keep K_301 nin0).ext E_305)
    have ne_325 := (Nat.ne_of_lt (Nat.lt_of_lt_of_le f_231.lt (Nat.le_trans (Nat.le_trans E_233.1 (Nat.le_trans (Keep.of_wr W_238).1 (Nat.le_trans (Keep.of_wr W_242).1 (Nat.le_trans (Keep.of_wr W_246).1 (Nat.le_trans E_250.1 (Nat.le_trans (Keep.of_wr W_255).1 (Nat.le_trans (Keep.of_wr W_259).1 (Nat.le_trans E_263.1 (Nat.le_trans K_284.1 K_301.1))))))))) (Nat.le_of_eq g_plo.symm))))
    have f_326 := ((f_288.keep K_301 nin0).ext E_305)
    refine K.callc (argsL := [(.ref ins), (.ref pt), (.ref od)]) (rest := [(.ref plo)]) at_181 (w':=184) rfl rfl (c_plc l Z a0 hw n0 h_304 (a := plo) (i := ins) (b := pt) (o := od) (w := d1_281) (o0 := o0) (o1 := o1) (o2 := o2) (ds := ds) sz_313 f_314 P3 x_plo ge_plo f_307 f_308 f_309 f_310 f_311 f_315 ne_316 f_312 f_317 ne_318 f_319 hds ne_320 f_324 ne_325 hpm_od f_326) hw120 hw121 hw119 hw122 (by decide) pd_24 rfl rfl (W := 1) (Nat.le_refl _) (by decide) (by decide) (by decide) (by decide) (fun v_329 h_327 q_328 => ?_)
    obtain ⟨pa, fa, na, va, ba, wa, pl, fl, nl, vl, u, x, rfl, K_330, f_331, f_332, f_333, f_334, f_335, f_336, f_337, f_338, f_339, f_340, f_341, f_342, f_343, f_344, f_345, f_346, f_347, f_348, f_349, f_350, f_351, f_352, f_353, f_354, f_355, f_356, f_357, f_358, f_359, f_360, f_361, f_362, f_363, f_364, f_365, f_366, f_367, f_368, f_369, f_370, hu_pp, hPI_pp⟩ := q_328
    show G h_327 21 120 (mkF m 184 #[vi a, vi o, vi mv, vi xx, vj s0, se, vj s1, se, vj s2, se, vj r0, se, vj r1, se, vi 1, vi dm, vr od, vr wt, vn, vr ra, vr ins, vr pt, un, un, un, un, un, un, un, un, un, un, un, un, un] [(.ref plo)])
    refine K.astore at_184 (w':=186) rfl rfl (L' := #[vi a, vi o, vi mv, vi xx, vj s0, se, vj s1, se, vj s2, se, vj r0, se, vj r1, se, vi 1, vi dm, vr od, vr wt, vn, vr ra, vr ins, vr pt, vr plo, un, un, un, un, un, un, un, un, un, un, un, un]) rfl ?_
    refine K.lconst at_186 (w':=187) rfl (z := 0) rfl ?_
    refine K.lload at_187 (w':=189) rfl rfl ?_
    refine K.lload at_189 (w':=191) rfl rfl ?_
    refine K.lload at_191 (w':=193) rfl rfl ?_
    refine K.lload at_193 (w':=195) rfl rfl ?_
    refine K.lload at_195 (w':=197) rfl rfl ?_
    refine K.iload at_197 (w':=199) rfl rfl ?_
    refine K.calls (argsL := [(.long 0), (.long r0), (.long r1), (.long s0), (.long s1), (.long s2), (.int 1)]) (rest := []) at_199 (w':=202) rfl (c_prc l Z a0 hw n0 h_327 (p := (0 : Int64)) (r0 := r0) (r1 := r1) (s0 := s0) (s1 := s1) (s2 := s2) ) hw200 hw201 hw3 hw202 (by decide) pd_25 rfl rfl (W := 0) (Nat.le_refl _) (by decide) (by decide) (by decide) (by decide) (fun v_373 h_371 q_372 => ?_)
    obtain ⟨x0, rfl, t_x0, rfl⟩ := q_372
    show G h_327 21 120 (mkF m 202 #[vi a, vi o, vi mv, vi xx, vj s0, se, vj s1, se, vj s2, se, vj r0, se, vj r1, se, vi 1, vi dm, vr od, vr wt, vn, vr ra, vr ins, vr pt, vr plo, un, un, un, un, un, un, un, un, un, un, un, un] [(.int x0)])
    refine K.istore at_202 (w':=204) rfl (L' := #[vi a, vi o, vi mv, vi xx, vj s0, se, vj s1, se, vj s2, se, vj r0, se, vj r1, se, vi 1, vi dm, vr od, vr wt, vn, vr ra, vr ins, vr pt, vr plo, vi x0, un, un, un, un, un, un, un, un, un, un, un]) rfl ?_
    refine K.lconst at_204 (w':=205) rfl (z := 1) rfl ?_
    refine K.lload at_205 (w':=207) rfl rfl ?_
    refine K.lload at_207 (w':=209) rfl rfl ?_
    refine K.lload at_209 (w':=211) rfl rfl ?_
    refine K.lload at_211 (w':=213) rfl rfl ?_
    refine K.lload at_213 (w':=215) rfl rfl ?_
    refine K.iload at_215 (w':=217) rfl rfl ?_
    refine K.calls (argsL := [(.long 1), (.long r0), (.long r1), (.long s0), (.long s1), (.long s2), (.int 1)]) (rest := []) at_217 (w':=220) rfl (c_prc l Z a0 hw n0 h_327 (p := (1 : Int64)) (r0 := r0) (r1 := r1) (s0 := s0) (s1 := s1) (s2 := s2) ) hw200 hw201 hw3 hw202 (by decide) pd_25 rfl rfl (W := 0) (Nat.le_refl _) (by decide) (by decide) (by decide) (by decide) (fun v_376 h_374 q_375 => ?_)
    obtain ⟨x1, rfl, t_x1, rfl⟩ := q_375
    show G h_327 21 120 (mkF m 220 #[vi a, vi o, vi mv, vi xx, vj s0, se, vj s1, se, vj s2, se, vj r0, se, vj r1, se, vi 1, vi dm, vr od, vr wt, vn, vr ra, vr ins, vr pt, vr plo, vi x0, un, un, un, un, un, un, un, un, un, un, un] [(.int x1)])
    refine K.istore at_220 (w':=222) rfl (L' := #[vi a, vi o, vi mv, vi xx, vj s0, se, vj s1, se, vj s2, se, vj r0, se, vj r1, se, vi 1, vi dm, vr od, vr wt, vn, vr ra, vr ins, vr pt, vr plo, vi x0, vi x1, un, un, un, un, un, un, un, un, un, un]) rfl ?_
    refine K.ldc2J at_222 (w':=225) rfl hw7 ?_
    refine K.lload at_225 (w':=227) rfl rfl ?_
    refine K.lload at_227 (w':=229) rfl rfl ?_
    refine K.lload at_229 (w':=231) rfl rfl ?_
    refine K.lload at_231 (w':=233) rfl rfl ?_
    refine K.lload at_233 (w':=235) rfl rfl ?_
    refine K.iload at_235 (w':=237) rfl rfl ?_
    refine K.calls (argsL := [(.long 2), (.long r0), (.long r1), (.long s0), (.long s1), (.long s2), (.int 1)]) (rest := []) at_237 (w':=240) rfl (c_prc l Z a0 hw n0 h_327 (p := (2 : Int64)) (r0 := r0) (r1 := r1) (s0 := s0) (s1 := s1) (s2 := s2) ) hw200 hw201 hw3 hw202 (by decide) pd_25 rfl rfl (W := 0) (Nat.le_refl _) (by decide) (by decide) (by decide) (by decide) (fun v_379 h_377 q_378 => ?_)
    obtain ⟨x2, rfl, t_x2, rfl⟩ := q_378
    show G h_327 21 120 (mkF m 240 #[vi a, vi o, vi mv, vi xx, vj s0, se, vj s1, se, vj s2, se, vj r0, se, vj r1, se, vi 1, vi dm, vr od, vr wt, vn, vr ra, vr ins, vr pt, vr plo, vi x0, vi x1, un, un, un, un, un, un, un, un, un, un] [(.int x2)])
    refine K.istore at_240 (w':=242) rfl (L' := #[vi a, vi o, vi mv, vi xx, vj s0, se, vj s1, se, vj s2, se, vj r0, se, vj r1, se, vi 1, vi dm, vr od, vr wt, vn, vr ra, vr ins, vr pt, vr plo, vi x0, vi x1, vi x2, un, un, un, un, un, un, un, un, un]) rfl ?_
    refine K.ldc2J at_242 (w':=245) rfl hw8 ?_
    refine K.lload at_245 (w':=247) rfl rfl ?_
    refine K.lload at_247 (w':=249) rfl rfl ?_
    refine K.lload at_249 (w':=251) rfl rfl ?_
    refine K.lload at_251 (w':=253) rfl rfl ?_
    refine K.lload at_253 (w':=255) rfl rfl ?_
    refine K.iload at_255 (w':=257) rfl rfl ?_
    refine K.calls (argsL := [(.long 3), (.long r0), (.long r1), (.long s0), (.long s1), (.long s2), (.int 1)]) (rest := []) at_257 (w':=260) rfl (c_prc l Z a0 hw n0 h_327 (p := (3 : Int64)) (r0 := r0) (r1 := r1) (s0 := s0) (s1 := s1) (s2 := s2) ) hw200 hw201 hw3 hw202 (by decide) pd_25 rfl rfl (W := 0) (Nat.le_refl _) (by decide) (by decide) (by decide) (by decide) (fun v_382 h_380 q_381 => ?_)
    obtain ⟨x3, rfl, t_x3, rfl⟩ := q_381
    show G h_327 21 120 (mkF m 260 #[vi a, vi o, vi mv, vi xx, vj s0, se, vj s1, se, vj s2, se, vj r0, se, vj r1, se, vi 1, vi dm, vr od, vr wt, vn, vr ra, vr ins, vr pt, vr plo, vi x0, vi x1, vi x2, un, un, un, un, un, un, un, un, un] [(.int x3)])
    refine K.istore at_260 (w':=262) rfl (L' := #[vi a, vi o, vi mv, vi xx, vj s0, se, vj s1, se, vj s2, se, vj r0, se, vj r1, se, vi 1, vi dm, vr od, vr wt, vn, vr ra, vr ins, vr pt, vr plo, vi x0, vi x1, vi x2, vi x3, un, un, un, un, un, un, un, un]) rfl ?_
    have J272 : ∀ (y0 : Int32), (y0.toInt = x0.toInt) → G h_327 21 120 (mkF m 272 #[vi a, vi o, vi mv, vi xx, vj s0, se, vj s1, se, vj s2, se, vj r0, se, vj r1, se, vi 1, vi dm, vr od, vr wt, vn, vr ra, vr ins, vr pt, vr plo, vi x0, vi x1, vi x2, vi x3, un, un, un, un, un, un, un, un] [(.int y0)]) := by
     intro y0 hy0
     have J282 : ∀ (y1 : Int32), (y1.toInt = x1.toInt) → G h_327 21 120 (mkF m 282 #[vi a, vi o, vi mv, vi xx, vj s0, se, vj s1, se, vj s2, se, vj r0, se, vj r1, se, vi 1, vi dm, vr od, vr wt, vn, vr ra, vr ins, vr pt, vr plo, vi x0, vi x1, vi x2, vi x3, un, un, un, un, un, un, un, un] [(.int y1), (.int y0)]) := by
      intro y1 hy1
      obtain ⟨n2, e_n2⟩ : ∃ z, y0 + y1 = z := ⟨_, rfl⟩
      have r_n2 : (n2.toInt - (y0.toInt + y1.toInt)) % 4294967296 = 0 := by have q := c_iadd y0 y1; rw [e_n2] at q; exact q
      have g_n2 := rng32 n2
      have t_n2 : n2.toInt = y0.toInt + y1.toInt := by omega
      clear r_n2
      clear g_n2
      refine K.iadd at_282 (w':=283) rfl e_n2 ?_
      have J293 : ∀ (y2 : Int32), (y2.toInt = x2.toInt) → G h_327 21 120 (mkF m 293 #[vi a, vi o, vi mv, vi xx, vj s0, se, vj s1, se, vj s2, se, vj r0, se, vj r1, se, vi 1, vi dm, vr od, vr wt, vn, vr ra, vr ins, vr pt, vr plo, vi x0, vi x1, vi x2, vi x3, un, un, un, un, un, un, un, un] [(.int y2), (.int n2)]) := by
       intro y2 hy2
       obtain ⟨n3, e_n3⟩ : ∃ z, n2 + y2 = z := ⟨_, rfl⟩
       have r_n3 : (n3.toInt - (n2.toInt + y2.toInt)) % 4294967296 = 0 := by have q := c_iadd n2 y2; rw [e_n3] at q; exact q
       have g_n3 := rng32 n3
       have t_n3 : n3.toInt = n2.toInt + y2.toInt := by omega
       clear r_n3
       clear g_n3
       refine K.iadd at_293 (w':=294) rfl e_n3 ?_
       have J304 : ∀ (y3 : Int32), (y3.toInt = x3.toInt) → G h_327 21 120 (mkF m 304 #[vi a, vi o, vi mv, vi xx, vj s0, se, vj s1, se, vj s2, se, vj r0, se, vj r1, se, vi 1, vi dm, vr od, vr wt, vn, vr ra, vr ins, vr pt, vr plo, vi x0, vi x1, vi x2, vi x3, un, un, un, un, un, un, un, un] [(.int y3), (.int n3)]) := by
        intro y3 hy3
        obtain ⟨nm, e_nm⟩ : ∃ z, n3 + y3 = z := ⟨_, rfl⟩
        have r_nm : (nm.toInt - (n3.toInt + y3.toInt)) % 4294967296 = 0 := by have q := c_iadd n3 y3; rw [e_nm] at q; exact q
        have g_nm := rng32 nm
        have t_nm : nm.toInt = n3.toInt + y3.toInt := by omega
        clear r_nm
        clear g_nm
        refine K.iadd at_304 (w':=305) rfl e_nm ?_
        refine K.istore at_305 (w':=307) rfl (L' := #[vi a, vi o, vi mv, vi xx, vj s0, se, vj s1, se, vj s2, se, vj r0, se, vj r1, se, vi 1, vi dm, vr od, vr wt, vn, vr ra, vr ins, vr pt, vr plo, vi x0, vi x1, vi x2, vi x3, vi nm, un, un, un, un, un, un, un]) rfl ?_
        refine K.iload at_307 (w':=309) rfl rfl ?_
        refine K.if_eq at_309 (pc1 := 312) rfl (by decide) (pc2 := 317) (by decide) (a := 1) rfl (fun c309 => ?_) (fun c309 => ?_)
        ·exfalso; omega
        ·refine K.iload at_312 (w':=314) rfl rfl ?_
         refine K.goto at_314 (by decide) (w':=328) (by decide) ?_
         refine K.istore at_328 (w':=330) rfl (L' := #[vi a, vi o, vi mv, vi xx, vj s0, se, vj s1, se, vj s2, se, vj r0, se, vj r1, se, vi 1, vi dm, vr od, vr wt, vn, vr ra, vr ins, vr pt, vr plo, vi x0, vi x1, vi x2, vi x3, vi nm, vi nm, un, un, un, un, un, un]) rfl ?_
         refine K.iload at_330 (w':=332) rfl rfl ?_
         refine K.if_eq at_332 (pc1 := 335) rfl (by decide) (pc2 := 342) (by decide) (a := 1) rfl (fun c332 => ?_) (fun c332 => ?_)
         ·exfalso; omega
         ·refine K.iload at_335 (w':=337) rfl rfl ?_
          refine K.iconst at_337 (w':=338) rfl (z := 1) rfl ?_
          obtain ⟨q1, e_q1⟩ : ∃ z, nm + (1 : Int32) = z := ⟨_, rfl⟩
          have r_q1 : (q1.toInt - (nm.toInt + 1)) % 4294967296 = 0 := by have q := c_iadd nm (1 : Int32); rw [e_q1] at q; exact q
          have g_q1 := rng32 q1
          have t_q1 : q1.toInt = nm.toInt + 1 := by omega
          clear r_q1
          clear g_q1
          refine K.iadd at_338 (w':=339) rfl e_q1 ?_
          refine K.goto at_339 (by decide) (w':=353) (by decide) ?_
          refine K.istore at_353 (w':=355) rfl (L' := #[vi a, vi o, vi mv, vi xx, vj s0, se, vj s1, se, vj s2, se, vj r0, se, vj r1, se, vi 1, vi dm, vr od, vr wt, vn, vr ra, vr ins, vr pt, vr plo, vi x0, vi x1, vi x2, vi x3, vi nm, vi nm, vi q1, un, un, un, un, un]) rfl ?_
          refine K.iload at_355 (w':=357) rfl rfl ?_
          refine K.if_eq at_357 (pc1 := 360) rfl (by decide) (pc2 := 367) (by decide) (a := 1) rfl (fun c357 => ?_) (fun c357 => ?_)
          ·exfalso; omega
          ·refine K.iload at_360 (w':=362) rfl rfl ?_
           refine K.iconst at_362 (w':=363) rfl (z := 2) rfl ?_
           obtain ⟨q2, e_q2⟩ : ∃ z, nm + (2 : Int32) = z := ⟨_, rfl⟩
           have r_q2 : (q2.toInt - (nm.toInt + 2)) % 4294967296 = 0 := by have q := c_iadd nm (2 : Int32); rw [e_q2] at q; exact q
           have g_q2 := rng32 q2
           have t_q2 : q2.toInt = nm.toInt + 2 := by omega
           clear r_q2
           clear g_q2
           refine K.iadd at_363 (w':=364) rfl e_q2 ?_
           refine K.goto at_364 (by decide) (w':=378) (by decide) ?_
           refine K.istore at_378 (w':=380) rfl (L' := #[vi a, vi o, vi mv, vi xx, vj s0, se, vj s1, se, vj s2, se, vj r0, se, vj r1, se, vi 1, vi dm, vr od, vr wt, vn, vr ra, vr ins, vr pt, vr plo, vi x0, vi x1, vi x2, vi x3, vi nm, vi nm, vi q1, vi q2, un, un, un, un]) rfl ?_
           refine K.aload at_380 (w':=382) rfl rfl rfl ?_
           have f_383 := (x_plo.keep K_330)
           refine K.callv (z := (⟨sP, "positions", "()I"⟩ : MethodName)) (argsL := []) (rest := []) at_382 (w':=385) rfl (c_psn l Z a0 hw n0 h_327 (a := plo) (fa := fa) (fl := fl) f_383 f_332 f_337) f_383 hw206 hw207 (nf_sel hw209 rfl) hw209 hw208 hw119 hw210 (by decide) pd_18 rfl rfl (W := 0) (Nat.le_refl _) (by decide) (by decide) (by decide) (by decide) (fun v_386 h_384 q_385 => ?_)
           obtain ⟨np, rfl, t_np, rfl⟩ := q_385
           show G h_327 21 120 (mkF m 385 #[vi a, vi o, vi mv, vi xx, vj s0, se, vj s1, se, vj s2, se, vj r0, se, vj r1, se, vi 1, vi dm, vr od, vr wt, vn, vr ra, vr ins, vr pt, vr plo, vi x0, vi x1, vi x2, vi x3, vi nm, vi nm, vi q1, vi q2, un, un, un, un] [(.int np)])
           refine K.istore at_385 (w':=387) rfl (L' := #[vi a, vi o, vi mv, vi xx, vj s0, se, vj s1, se, vj s2, se, vj r0, se, vj r1, se, vi 1, vi dm, vr od, vr wt, vn, vr ra, vr ins, vr pt, vr plo, vi x0, vi x1, vi x2, vi x3, vi nm, vi nm, vi q1, vi q2, vi np, un, un, un]) rfl ?_
           have hcn := cnt_ hSD hrg hne t_x0.1 t_x1.1 t_x2.1 t_x3.1
           have hnm : nm.toInt = (ds.length : Int) := by omega
           have hfl := hPI_pp.1.2.1
           have hg0 : nm.toInt = (pl.getD 0 0).toInt := by rw [hPI_pp.2 0 (by omega)]; omega
           have hg1 : q1.toInt = (pl.getD 1 0).toInt := by rw [hPI_pp.2 1 (by omega)]; omega
           have hg2 : q2.toInt = (pl.getD 2 0).toInt := by rw [hPI_pp.2 2 (by omega)]; omega
           refine K.iload at_387 (w':=389) rfl rfl ?_
           refine K.iload at_389 (w':=391) rfl rfl ?_
           refine K.iconst at_391 (w':=392) rfl (z := 3) rfl ?_
           obtain ⟨n9, e_n9⟩ : ∃ z, nm + (3 : Int32) = z := ⟨_, rfl⟩
           have r_n9 : (n9.toInt - (nm.toInt + 3)) % 4294967296 = 0 := by have q := c_iadd nm (3 : Int32); rw [e_n9] at q; exact q
           have g_n9 := rng32 n9
           have t_n9 : n9.toInt = nm.toInt + 3 := by omega
           clear r_n9
           clear g_n9
           refine K.iadd at_392 (w':=393) rfl e_n9 ?_
           refine K.icmp_eq at_393 (pc1 := 396) rfl (by decide) (pc2 := 398) (by decide) (a := np.toInt) (b := n9.toInt) rfl rfl (fun c393 => ?_) (fun c393 => ?_)
           ·refine K.iloadN at_398 (w':=399) rfl rfl ?_
            refine K.ldcI at_399 (w':=401) rfl hw0 ?_
            obtain ⟨m1, e_m1⟩ : ∃ z, mv &&& (2147483647 : Int32) = z := ⟨_, rfl⟩
            have r_m1 : m1.toInt = mv.toInt % 2147483648 := by have q := c_mask mv (2147483647 : Int32) 31 (by decide) (by decide); rw [e_m1] at q; exact q
            have t_m1 : 0 ≤ m1.toInt := by omega
            clear r_m1
            refine K.iand at_401 (w':=402) rfl e_m1 ?_
            refine K.iconst at_402 (w':=403) rfl (z := 3) rfl ?_
            obtain ⟨mi, e_mi⟩ : ∃ z, m1 % (3 : Int32) = z := ⟨_, rfl⟩
            have r_mi : (0 ≤ m1.toInt → mi.toInt = m1.toInt % 3) ∧ (m1.toInt < 0 → mi.toInt = -((-m1.toInt) % 3)) := by have q := c_irem m1 (3 : Int32) 3 rfl; rw [e_mi] at q; exact q
            have t_mi : 0 ≤ mi.toInt ∧ mi.toInt ≤ 2 := by omega
            clear r_mi
            refine K.irem at_403 (w':=404) rfl (by decide) e_mi ?_
            refine K.istore at_404 (w':=406) rfl (L' := #[vi a, vi o, vi mv, vi xx, vj s0, se, vj s1, se, vj s2, se, vj r0, se, vj r1, se, vi 1, vi dm, vr od, vr wt, vn, vr ra, vr ins, vr pt, vr plo, vi x0, vi x1, vi x2, vi x3, vi nm, vi nm, vi q1, vi q2, vi np, vi mi, un, un]) rfl ?_
            have H474_2 : ∀ (a0_ : Int32) (a1_ : Int32) (a2_ : Int32) (p : Int32) (fz : List Int32) (h_387 : Heap) (K_388 : Keep h_327 h_387 [pa, fa, na, va, ba, wa]) (A_389 : Ary Z h_387 fa .int (fz.map Value.int)), ((fz.length = (ds.length + 3) ∧ ∀ q : Nat, q < (ds.length + 3) → ((fz.getD q 0).toInt ≠ -1 ↔ (a0_.toInt = q ∨ a1_.toInt = q ∨ a2_.toInt = q))) ∧ 0 ≤ p.toInt ∧ p.toInt < np.toInt) → G h_387 21 120 (mkF m 474 #[vi a, vi o, vi mv, vi xx, vj s0, se, vj s1, se, vj s2, se, vj r0, se, vj r1, se, vi 1, vi dm, vr od, vr wt, vn, vr ra, vr ins, vr pt, vr plo, vi x0, vi x1, vi x2, vi x3, vi nm, vi a0_, vi a1_, vi a2_, vi np, vi mi, vi p, un] []) := by
             intro a0_ a1_ a2_ p fz h_387 K_388 A_389 hz_
             obtain ⟨hz, t_p⟩ := hz_
             have J500 : ∀ jb : Int32, jb = b2 (a0_.toInt = p.toInt ∨ a1_.toInt = p.toInt ∨ a2_.toInt = p.toInt) → G h_387 21 120 (mkF m 500 #[vi a, vi o, vi mv, vi xx, vj s0, se, vj s1, se, vj s2, se, vj r0, se, vj r1, se, vi 1, vi dm, vr od, vr wt, vn, vr ra, vr ins, vr pt, vr plo, vi x0, vi x1, vi x2, vi x3, vi nm, vi a0_, vi a1_, vi a2_, vi np, vi mi, vi p, un] [(.int jb)]) := by
              intro jb hjb; subst hjb
              refine K.istore at_500 (w':=502) rfl (L' := #[vi a, vi o, vi mv, vi xx, vj s0, se, vj s1, se, vj s2, se, vj r0, se, vj r1, se, vi 1, vi dm, vr od, vr wt, vn, vr ra, vr ins, vr pt, vr plo, vi x0, vi x1, vi x2, vi x3, vi nm, vi a0_, vi a1_, vi a2_, vi np, vi mi, vi p, .val (.int (b2 (a0_.toInt = p.toInt ∨ a1_.toInt = p.toInt ∨ a2_.toInt = p.toInt)))]) rfl ?_
              refine K.aload at_502 (w':=504) rfl rfl rfl ?_
              refine K.iload at_504 (w':=506) rfl rfl ?_
              have f_390 := (f_383.keep K_388)
              have ne_391 := (Nat.ne_of_lt (Nat.lt_of_lt_of_le x_plo.lt (Nat.le_trans (Nat.le_refl _) f_349)))
              have ne_392 := (Nat.ne_of_lt (Nat.lt_of_lt_of_le x_plo.lt (Nat.le_trans (Nat.le_refl _) f_348)))
              have ne_393 := (Nat.ne_of_lt (Nat.lt_of_lt_of_le x_plo.lt (Nat.le_trans (Nat.le_refl _) f_347)))
              have ne_394 := (Nat.ne_of_lt (Nat.lt_of_lt_of_le x_plo.lt (Nat.le_trans (Nat.le_refl _) f_346)))
              have ne_395 := (Nat.ne_of_lt (Nat.lt_of_lt_of_le x_plo.lt (Nat.le_trans (Nat.le_refl _) f_345)))
              have ne_396 := (Nat.ne_of_lt (Nat.lt_of_lt_of_le x_plo.lt (Nat.le_trans (Nat.le_refl _) f_344)))
              have f_397 := (f_332.keep K_388 (ninS ne_396 (ninS ne_395 (ninS ne_394 (ninS ne_393 (ninS ne_392 (ninS ne_391 nin0)))))))
              refine K.callv (z := (⟨sP, "covered", "(I)Z"⟩ : MethodName)) (argsL := [(.int p)]) (rest := []) at_506 (w':=509) rfl (c_cov l Z a0 hw n0 h_387 (a := plo) (fa := fa) (p := p) (f := (fz.getD p.toInt.toNat 0)) (fl := fz) f_390 f_397 A_389 ⟨t_p.1, getd (by have q := hz.1; omega)⟩) f_390 hw211 hw212 (nf_sel hw214 rfl) hw214 hw213 hw119 hw215 (by decide) pd_27 rfl rfl (W := 0) (Nat.le_refl _) (by decide) (by decide) (by decide) (by decide) (fun v_400 h_398 q_399 => ?_)
              obtain ⟨rfl, rfl⟩ := q_399
              show G h_387 21 120 (mkF m 509 #[vi a, vi o, vi mv, vi xx, vj s0, se, vj s1, se, vj s2, se, vj r0, se, vj r1, se, vi 1, vi dm, vr od, vr wt, vn, vr ra, vr ins, vr pt, vr plo, vi x0, vi x1, vi x2, vi x3, vi nm, vi a0_, vi a1_, vi a2_, vi np, vi mi, vi p, .val (.int (b2 (a0_.toInt = p.toInt ∨ a1_.toInt = p.toInt ∨ a2_.toInt = p.toInt)))] [(.int (b2 ((fz.getD p.toInt.toNat 0).toInt ≠ -1)))])
              refine K.iload at_509 (w':=511) rfl rfl ?_
              refine K.icmpneB at_511 (pc1 := 514) rfl (by decide) (pc2 := 518) (by decide) (fun c511 => ?_) (fun c511 => ?_)
              ·exfalso; exact c511 (fin_z hz.2 t_p (by omega))
              ·refine K.iconst at_514 (w':=515) rfl (z := 1) rfl ?_
               refine K.goto at_515 (by decide) (w':=519) (by decide) ?_
               exact K.retz at_519 (Or.inr rfl) (by decide) (by decide) rfl
             refine K.iload at_474 (w':=476) rfl rfl ?_
             refine K.iload at_476 (w':=478) rfl rfl ?_
             refine K.icmp_eq at_478 (pc1 := 481) rfl (by decide) (pc2 := 495) (by decide) (a := a0_.toInt) (b := p.toInt) rfl rfl (fun c478 => ?_) (fun c478 => ?_)
             ·refine K.iconst at_495 (w':=496) rfl (z := 1) rfl ?_
              refine K.goto at_496 (by decide) (w':=500) (by decide) ?_
              exact J500 _ (b2_t (by omega)).symm
             ·refine K.iload at_481 (w':=483) rfl rfl ?_
              refine K.iload at_483 (w':=485) rfl rfl ?_
              refine K.icmp_eq at_485 (pc1 := 488) rfl (by decide) (pc2 := 495) (by decide) (a := a1_.toInt) (b := p.toInt) rfl rfl (fun c485 => ?_) (fun c485 => ?_)
              ·refine K.iconst at_495 (w':=496) rfl (z := 1) rfl ?_
               refine K.goto at_496 (by decide) (w':=500) (by decide) ?_
               exact J500 _ (b2_t (by omega)).symm
              ·refine K.iload at_488 (w':=490) rfl rfl ?_
               refine K.iload at_490 (w':=492) rfl rfl ?_
               refine K.icmp_ne at_492 (pc1 := 495) rfl (by decide) (pc2 := 499) (by decide) (a := a2_.toInt) (b := p.toInt) rfl rfl (fun c492 => ?_) (fun c492 => ?_)
               ·refine K.iconst at_499 (w':=500) rfl (z := 0) rfl ?_
                exact J500 _ (b2_f (by omega)).symm
               ·refine K.iconst at_495 (w':=496) rfl (z := 1) rfl ?_
                refine K.goto at_496 (by decide) (w':=500) (by decide) ?_
                exact J500 _ (b2_t (by omega)).symm
            refine K.iload at_406 (w':=408) rfl rfl ?_
            refine K.if_eq at_408 (pc1 := 411) rfl (by decide) (pc2 := 465) (by decide) (a := dm.toInt) rfl (fun c408 => ?_) (fun c408 => ?_)
            ·refine K.iloadN at_465 (w':=466) rfl rfl ?_
             refine K.ldcI at_466 (w':=468) rfl hw0 ?_
             obtain ⟨m5, e_m5⟩ : ∃ z, xx &&& (2147483647 : Int32) = z := ⟨_, rfl⟩
             have r_m5 : m5.toInt = xx.toInt % 2147483648 := by have q := c_mask xx (2147483647 : Int32) 31 (by decide) (by decide); rw [e_m5] at q; exact q
             have t_m5 : 0 ≤ m5.toInt := by omega
             clear r_m5
             refine K.iand at_468 (w':=469) rfl e_m5 ?_
             refine K.iload at_469 (w':=471) rfl rfl ?_
             obtain ⟨p, e_p⟩ : ∃ z, m5 % np = z := ⟨_, rfl⟩
             have t_p : 0 ≤ p.toInt ∧ p.toInt < np.toInt := by rw [← e_p, Int32.toInt_mod, Int.tmod_eq_emod_of_nonneg (by omega)]; exact ⟨Int.emod_nonneg _ (by omega), Int.emod_lt_of_pos _ (by omega)⟩
             refine K.irem at_471 (w':=472) rfl (by intro q; have q2 := congrArg Int32.toInt q; rw [show (0 : Int32).toInt = 0 from rfl] at q2; omega) e_p ?_
             refine K.istore at_472 (w':=474) rfl (L' := #[vi a, vi o, vi mv, vi xx, vj s0, se, vj s1, se, vj s2, se, vj r0, se, vj r1, se, vi 1, vi dm, vr od, vr wt, vn, vr ra, vr ins, vr pt, vr plo, vi x0, vi x1, vi x2, vi x3, vi nm, vi nm, vi q1, vi q2, vi np, vi mi, vi p, un]) rfl ?_
             exact H474_2 nm q1 q2 p (fl) h_327 (Keep.refl h_327 [pa, fa, na, va, ba, wa]) f_337 (by exact ⟨fin_g hPI_pp.1 hg0 hg1 hg2, t_p⟩)
            ·refine K.iload at_411 (w':=413) rfl rfl ?_
             refine K.if_eq at_413 (pc1 := 416) rfl (by decide) (pc2 := 420) (by decide) (a := 1) rfl (fun c413 => ?_) (fun c413 => ?_)
             ·exfalso; omega
             ·refine K.iconst at_416 (w':=417) rfl (z := 0) rfl ?_
              refine K.goto at_417 (by decide) (w':=425) (by decide) ?_
              refine K.istore at_425 (w':=427) rfl (L' := #[vi a, vi o, vi mv, vi xx, vj s0, se, vj s1, se, vj s2, se, vj r0, se, vj r1, se, vi 1, vi dm, vr od, vr wt, vn, vr ra, vr ins, vr pt, vr plo, vi x0, vi x1, vi x2, vi x3, vi nm, vi nm, vi q1, vi q2, vi np, vi mi, vi 0, un]) rfl ?_
              refine K.aload at_427 (w':=429) rfl rfl rfl ?_
              refine K.iload at_429 (w':=431) rfl rfl ?_
              refine K.iload at_431 (w':=433) rfl rfl ?_
              have f_402 := (f_314.keep K_330 (allS ge_plo all0))
              have ne_403 := (Nat.ne_of_lt (Nat.lt_of_lt_of_le x_plo.lt (Nat.le_trans (Nat.le_refl _) f_344)))
              have ne_404 := (Nat.ne_of_lt (Nat.lt_of_lt_of_le x_plo.lt (Nat.le_trans (Nat.le_refl _) f_345)))
              have ne_405 := (Nat.ne_of_lt (Nat.lt_of_lt_of_le x_plo.lt (Nat.le_trans (Nat.le_refl _) f_346)))
              have ne_406 := (Nat.ne_of_lt (Nat.lt_of_lt_of_le x_plo.lt (Nat.le_trans (Nat.le_refl _) f_347)))
              have ne_407 := (Nat.ne_of_lt (Nat.lt_of_lt_of_le x_plo.lt (Nat.le_trans (Nat.le_refl _) f_348)))
              have ne_408 := (Nat.ne_of_lt (Nat.lt_of_lt_of_le x_plo.lt (Nat.le_trans (Nat.le_refl _) f_349)))
              refine K.callv (z := (⟨sP, "move", "(II)V"⟩ : MethodName)) (argsL := [(.int mi), (.int 0)]) (rest := []) at_433 (w':=436) rfl (c_mov l Z a0 hw n0 h_327 (a := plo) (pa := pa) (fa := fa) (na := na) (va := va) (ba := ba) (wa := wa) (pl := pl) (fl := fl) (nl := nl) (vl := vl) (u := u) (mi := mi) (to := (0 : Int32)) (x := x) (N := (ds.length + 3)) f_402 P3 f_383 f_331 f_332 f_333 f_334 f_335 f_336 f_337 f_338 f_339 f_340 f_341 f_342 f_343 f_350 f_351 f_352 f_353 f_354 f_355 f_356 f_357 f_358 f_359 f_360 f_361 f_362 f_363 f_364 f_365 f_366 f_367 f_368 f_369 f_370 ne_403 ne_404 ne_405 ne_406 ne_407 ne_408 hu_pp hPI_pp.1 t_mi (to_c hds hPI_pp.2)) f_383 hw216 hw217 (nf_sel hw219 rfl) hw219 hw218 hw119 hw220 (by decide) pd_28 rfl rfl (W := 0) (Nat.le_refl _) (by decide) (by decide) (by decide) (by decide) (fun v_411 h_409 q_410 => ?_)
              obtain ⟨fl2, rfl, K_412, f_413, hMV_mv⟩ := q_410
              show G h_409 21 120 (mkF m 436 #[vi a, vi o, vi mv, vi xx, vj s0, se, vj s1, se, vj s2, se, vj r0, se, vj r1, se, vi 1, vi dm, vr od, vr wt, vn, vr ra, vr ins, vr pt, vr plo, vi x0, vi x1, vi x2, vi x3, vi nm, vi nm, vi q1, vi q2, vi np, vi mi, vi 0, un] [])
              refine K.iload at_436 (w':=438) rfl rfl ?_
              refine K.if_ne at_438 (pc1 := 441) rfl (by decide) (pc2 := 448) (by decide) (a := mi.toInt) rfl (fun c438 => ?_) (fun c438 => ?_)
              ·refine K.iload at_448 (w':=450) rfl rfl ?_
               refine K.iconst at_450 (w':=451) rfl (z := 1) rfl ?_
               refine K.icmp_ne at_451 (pc1 := 454) rfl (by decide) (pc2 := 461) (by decide) (a := mi.toInt) (b := 1) rfl rfl (fun c451 => ?_) (fun c451 => ?_)
               ·refine K.iload at_461 (w':=463) rfl rfl ?_
                refine K.istore at_463 (w':=465) rfl (L' := #[vi a, vi o, vi mv, vi xx, vj s0, se, vj s1, se, vj s2, se, vj r0, se, vj r1, se, vi 1, vi dm, vr od, vr wt, vn, vr ra, vr ins, vr pt, vr plo, vi x0, vi x1, vi x2, vi x3, vi nm, vi nm, vi q1, vi 0, vi np, vi mi, vi 0, un]) rfl ?_
                refine K.iloadN at_465 (w':=466) rfl rfl ?_
                refine K.ldcI at_466 (w':=468) rfl hw0 ?_
                obtain ⟨m5, e_m5⟩ : ∃ z, xx &&& (2147483647 : Int32) = z := ⟨_, rfl⟩
                have r_m5 : m5.toInt = xx.toInt % 2147483648 := by have q := c_mask xx (2147483647 : Int32) 31 (by decide) (by decide); rw [e_m5] at q; exact q
                have t_m5 : 0 ≤ m5.toInt := by omega
                clear r_m5
                refine K.iand at_468 (w':=469) rfl e_m5 ?_
                refine K.iload at_469 (w':=471) rfl rfl ?_
                obtain ⟨p, e_p⟩ : ∃ z, m5 % np = z := ⟨_, rfl⟩
                have t_p : 0 ≤ p.toInt ∧ p.toInt < np.toInt := by rw [← e_p, Int32.toInt_mod, Int.tmod_eq_emod_of_nonneg (by omega)]; exact ⟨Int.emod_nonneg _ (by omega), Int.emod_lt_of_pos _ (by omega)⟩
                refine K.irem at_471 (w':=472) rfl (by intro q; have q2 := congrArg Int32.toInt q; rw [show (0 : Int32).toInt = 0 from rfl] at q2; omega) e_p ?_
                refine K.istore at_472 (w':=474) rfl (L' := #[vi a, vi o, vi mv, vi xx, vj s0, se, vj s1, se, vj s2, se, vj r0, se, vj r1, se, vi 1, vi dm, vr od, vr wt, vn, vr ra, vr ins, vr pt, vr plo, vi x0, vi x1, vi x2, vi x3, vi nm, vi nm, vi q1, vi 0, vi np, vi mi, vi p, un]) rfl ?_
                exact H474_2 nm q1 (0 : Int32) p (fl2) h_409 ((Keep.refl h_327 [pa, fa, na, va, ba, wa]).trans K_412 (allS (Or.inl (by simp)) (allS (Or.inl (by simp)) (allS (Or.inl (by simp)) (allS (Or.inl (by simp)) (allS (Or.inl (by simp)) (allS (Or.inl (by simp)) all0))))))) f_413 (by exact ⟨fin_m2 hMV_mv (by omega) hg0 hg1, t_p⟩)
               ·refine K.iload at_454 (w':=456) rfl rfl ?_
                refine K.istore at_456 (w':=458) rfl (L' := #[vi a, vi o, vi mv, vi xx, vj s0, se, vj s1, se, vj s2, se, vj r0, se, vj r1, se, vi 1, vi dm, vr od, vr wt, vn, vr ra, vr ins, vr pt, vr plo, vi x0, vi x1, vi x2, vi x3, vi nm, vi nm, vi 0, vi q2, vi np, vi mi, vi 0, un]) rfl ?_
                refine K.goto at_458 (by decide) (w':=465) (by decide) ?_
                refine K.iloadN at_465 (w':=466) rfl rfl ?_
                refine K.ldcI at_466 (w':=468) rfl hw0 ?_
                obtain ⟨m5, e_m5⟩ : ∃ z, xx &&& (2147483647 : Int32) = z := ⟨_, rfl⟩
                have r_m5 : m5.toInt = xx.toInt % 2147483648 := by have q := c_mask xx (2147483647 : Int32) 31 (by decide) (by decide); rw [e_m5] at q; exact q
                have t_m5 : 0 ≤ m5.toInt := by omega
                clear r_m5
                refine K.iand at_468 (w':=469) rfl e_m5 ?_
                refine K.iload at_469 (w':=471) rfl rfl ?_
                obtain ⟨p, e_p⟩ : ∃ z, m5 % np = z := ⟨_, rfl⟩
                have t_p : 0 ≤ p.toInt ∧ p.toInt < np.toInt := by rw [← e_p, Int32.toInt_mod, Int.tmod_eq_emod_of_nonneg (by omega)]; exact ⟨Int.emod_nonneg _ (by omega), Int.emod_lt_of_pos _ (by omega)⟩
                refine K.irem at_471 (w':=472) rfl (by intro q; have q2 := congrArg Int32.toInt q; rw [show (0 : Int32).toInt = 0 from rfl] at q2; omega) e_p ?_
                refine K.istore at_472 (w':=474) rfl (L' := #[vi a, vi o, vi mv, vi xx, vj s0, se, vj s1, se, vj s2, se, vj r0, se, vj r1, se, vi 1, vi dm, vr od, vr wt, vn, vr ra, vr ins, vr pt, vr plo, vi x0, vi x1, vi x2, vi x3, vi nm, vi nm, vi 0, vi q2, vi np, vi mi, vi p, un]) rfl ?_
                exact H474_2 nm (0 : Int32) q2 p (fl2) h_409 ((Keep.refl h_327 [pa, fa, na, va, ba, wa]).trans K_412 (allS (Or.inl (by simp)) (allS (Or.inl (by simp)) (allS (Or.inl (by simp)) (allS (Or.inl (by simp)) (allS (Or.inl (by simp)) (allS (Or.inl (by simp)) all0))))))) f_413 (by exact ⟨fin_m1 hMV_mv (by omega) hg0 hg2, t_p⟩)
              ·refine K.iload at_441 (w':=443) rfl rfl ?_
               refine K.istore at_443 (w':=445) rfl (L' := #[vi a, vi o, vi mv, vi xx, vj s0, se, vj s1, se, vj s2, se, vj r0, se, vj r1, se, vi 1, vi dm, vr od, vr wt, vn, vr ra, vr ins, vr pt, vr plo, vi x0, vi x1, vi x2, vi x3, vi nm, vi 0, vi q1, vi q2, vi np, vi mi, vi 0, un]) rfl ?_
               refine K.goto at_445 (by decide) (w':=465) (by decide) ?_
               refine K.iloadN at_465 (w':=466) rfl rfl ?_
               refine K.ldcI at_466 (w':=468) rfl hw0 ?_
               obtain ⟨m5, e_m5⟩ : ∃ z, xx &&& (2147483647 : Int32) = z := ⟨_, rfl⟩
               have r_m5 : m5.toInt = xx.toInt % 2147483648 := by have q := c_mask xx (2147483647 : Int32) 31 (by decide) (by decide); rw [e_m5] at q; exact q
               have t_m5 : 0 ≤ m5.toInt := by omega
               clear r_m5
               refine K.iand at_468 (w':=469) rfl e_m5 ?_
               refine K.iload at_469 (w':=471) rfl rfl ?_
               obtain ⟨p, e_p⟩ : ∃ z, m5 % np = z := ⟨_, rfl⟩
               have t_p : 0 ≤ p.toInt ∧ p.toInt < np.toInt := by rw [← e_p, Int32.toInt_mod, Int.tmod_eq_emod_of_nonneg (by omega)]; exact ⟨Int.emod_nonneg _ (by omega), Int.emod_lt_of_pos _ (by omega)⟩
               refine K.irem at_471 (w':=472) rfl (by intro q; have q2 := congrArg Int32.toInt q; rw [show (0 : Int32).toInt = 0 from rfl] at q2; omega) e_p ?_
               refine K.istore at_472 (w':=474) rfl (L' := #[vi a, vi o, vi mv, vi xx, vj s0, se, vj s1, se, vj s2, se, vj r0, se, vj r1, se, vi 1, vi dm, vr od, vr wt, vn, vr ra, vr ins, vr pt, vr plo, vi x0, vi x1, vi x2, vi x3, vi nm, vi 0, vi q1, vi q2, vi np, vi mi, vi p, un]) rfl ?_
               exact H474_2 (0 : Int32) q1 q2 p (fl2) h_409 ((Keep.refl h_327 [pa, fa, na, va, ba, wa]).trans K_412 (allS (Or.inl (by simp)) (allS (Or.inl (by simp)) (allS (Or.inl (by simp)) (allS (Or.inl (by simp)) (allS (Or.inl (by simp)) (allS (Or.inl (by simp)) all0))))))) f_413 (by exact ⟨fin_m0 hMV_mv (by omega) hg1 hg2, t_p⟩)
           ·exfalso; omega
       refine K.iload at_294 (w':=296) rfl rfl ?_
       refine K.if_eq at_296 (pc1 := 299) rfl (by decide) (pc2 := 303) (by decide) (a := x3.toInt) rfl (fun c296 => ?_) (fun c296 => ?_)
       ·refine K.iconst at_303 (w':=304) rfl (z := 0) rfl ?_
        exact J304 _ (by (have o0 : (0 : Int32).toInt = 0 := rfl; have o1 : (1 : Int32).toInt = 1 := rfl; omega))
       ·refine K.iconst at_299 (w':=300) rfl (z := 1) rfl ?_
        refine K.goto at_300 (by decide) (w':=304) (by decide) ?_
        exact J304 _ (by (have o0 : (0 : Int32).toInt = 0 := rfl; have o1 : (1 : Int32).toInt = 1 := rfl; omega))
      refine K.iload at_283 (w':=285) rfl rfl ?_
      refine K.if_eq at_285 (pc1 := 288) rfl (by decide) (pc2 := 292) (by decide) (a := x2.toInt) rfl (fun c285 => ?_) (fun c285 => ?_)
      ·refine K.iconst at_292 (w':=293) rfl (z := 0) rfl ?_
       exact J293 _ (by (have o0 : (0 : Int32).toInt = 0 := rfl; have o1 : (1 : Int32).toInt = 1 := rfl; omega))
      ·refine K.iconst at_288 (w':=289) rfl (z := 1) rfl ?_
       refine K.goto at_289 (by decide) (w':=293) (by decide) ?_
       exact J293 _ (by (have o0 : (0 : Int32).toInt = 0 := rfl; have o1 : (1 : Int32).toInt = 1 := rfl; omega))
     refine K.iload at_272 (w':=274) rfl rfl ?_
     refine K.if_eq at_274 (pc1 := 277) rfl (by decide) (pc2 := 281) (by decide) (a := x1.toInt) rfl (fun c274 => ?_) (fun c274 => ?_)
     ·refine K.iconst at_281 (w':=282) rfl (z := 0) rfl ?_
      exact J282 _ (by (have o0 : (0 : Int32).toInt = 0 := rfl; have o1 : (1 : Int32).toInt = 1 := rfl; omega))
     ·refine K.iconst at_277 (w':=278) rfl (z := 1) rfl ?_
      refine K.goto at_278 (by decide) (w':=282) (by decide) ?_
      exact J282 _ (by (have o0 : (0 : Int32).toInt = 0 := rfl; have o1 : (1 : Int32).toInt = 1 := rfl; omega))
    refine K.iload at_262 (w':=264) rfl rfl ?_
    refine K.if_eq at_264 (pc1 := 267) rfl (by decide) (pc2 := 271) (by decide) (a := x0.toInt) rfl (fun c264 => ?_) (fun c264 => ?_)
    ·refine K.iconst at_271 (w':=272) rfl (z := 0) rfl ?_
     exact J272 _ (by (have o0 : (0 : Int32).toInt = 0 := rfl; have o1 : (1 : Int32).toInt = 1 := rfl; omega))
    ·refine K.iconst at_267 (w':=268) rfl (z := 1) rfl ?_
     refine K.goto at_268 (by decide) (w':=272) (by decide) ?_
     exact J272 _ (by (have o0 : (0 : Int32).toInt = 0 := rfl; have o1 : (1 : Int32).toInt = 1 := rfl; omega))
  refine K.iloadN at_56 (w':=57) rfl rfl ?_
  refine K.bipush at_57 (w':=59) rfl (z := 11) rfl ?_
  obtain ⟨z59, e_z59⟩ : ∃ z, (a.toUInt32 >>> ((11 : Int32) &&& 31).toUInt32).toInt32 = z := ⟨_, rfl⟩
  refine K.iushr at_59 (w':=60) rfl e_z59 ?_
  refine K.iconst at_60 (w':=61) rfl (z := 1) rfl ?_
  obtain ⟨z61, e_z61⟩ : ∃ z, z59 &&& (1 : Int32) = z := ⟨_, rfl⟩
  refine K.iand at_61 (w':=62) rfl e_z61 ?_
  refine K.if_eq at_62 (pc1 := 65) rfl (by decide) (pc2 := 69) (by decide) (a := z61.toInt) rfl (fun c62 => ?_) (fun c62 => ?_)
  ·refine K.iconst at_69 (w':=70) rfl (z := 0) rfl ?_
   exact J70 _ (by trivial)
  ·refine K.iconst at_65 (w':=66) rfl (z := 1) rfl ?_
   refine K.goto at_66 (by decide) (w':=70) (by decide) ?_
   exact J70 _ (by trivial)
theorem comes_1 {Post : Tables → Env → Array Value → State → Outcome → State → Prop} (hpost : ∀ tb e args s v u, (limb_1_1.after args s (.returned v) u = true ∧ limb_1_2.after args s (.returned v) u = true ∧ True) → FramedW s (.returned v) u (Jvm.fieldLocs frame_1_writes args s ++ Jvm.arrayLocs frame_1_arrays args s ++ Jvm.staticLocs frame_1_statics s) 56 2304 → Post tb e args s (.returned v) u) :
  ArmFor flags0 classFile x code maxLocals ret World_1 tables_1 room_1 Calls_1 rest_1 Pre_1 Post := by
 intro l hfl _ _ p e ha hc hk s m args below hf hA hF happ hP
 obtain ⟨hcalls, hrest, hpre⟩ := hP
 obtain ⟨-, -, -, hnamed, -, -, -, hat⟩ := (Spec.applies_iff hf).mp happ
 obtain ⟨hg, hn⟩ := and_e (Cond.before_iff.mp (show (Jvm.Cond.and given_1 narrow_1).before args s = true from hpre))
 obtain ⟨k0, j0⟩ := and_e hg
 obtain ⟨k1, j1⟩ := and_e j0
 obtain ⟨k2, j2⟩ := and_e j1
 obtain ⟨k3, j3⟩ := and_e j2
 obtain ⟨w0, w1, w2, w3, rfl⟩ : ∃ w0 w1 w2 w3 : Value, args = #[w0, w1, w2, w3] := by
  have hs : args.size = 4 := by simpa [Cond.value, given_1] using k0
  obtain ⟨L⟩ := args
  match L, hs with
  | [w0, w1, w2, w3], _ => exact ⟨w0, w1, w2, w3, rfl⟩
 have hw := fun d (hd : d ∈ tables_1) => atoms_spec (ws := Jvm.Cond.code x code maxLocals ret :: tables_1) hat d (List.mem_cons_of_mem _ hd)
 have hfit : Fit s := fun {y c} hc i hi => by
  obtain ⟨ha, rfl⟩ := Array.getElem?_eq_some_iff.mp hc
  have q := List.all_eq_true.mp ((Array.all_eq_true_iff_forall_mem.mp hF) _ (Array.getElem_mem ha)) i (List.mem_range.mpr hi)
  simpa [Array.getElem?_eq_getElem hi] using q
 obtain ⟨i0, ei0⟩ := is_v k1
 obtain rfl : w0 = (.int i0) := Option.some.inj ei0
 obtain ⟨i1, ei1⟩ := is_v k2
 obtain rfl : w1 = (.int i1) := Option.some.inj ei1
 obtain ⟨i2, ei2⟩ := is_v k3
 obtain rfl : w2 = (.int i2) := Option.some.inj ei2
 obtain ⟨i3, ei3⟩ := is_v j3
 obtain rfl : w3 = (.int i3) := Option.some.inj ei3
 obtain XD := ad_start (show rest_1_c.before _ s = true from hrest)
 obtain ⟨n, o, h1, h2, h3, _, L, rfl, ⟨⟨_, -, rfl⟩, N⟩, hq⟩ := c_law l s _ hw s.heap.size s.heap i0 i1 i2 i3 (Nat.le_refl _) (Old.start s) XD tables_1 p e ha hc hk s m _ below hf ((Spec.applies_iff_loose hf).mp happ).1 ⟨rfl, State.Warmed39.refl s, rfl, (by first | exact trivial | exact IB.start)⟩ trivial
 refine ⟨n, _, h1, h2, h3, hpost _ _ _ _ _ _ ⟨Cond.after_iff.mpr rfl, Cond.after_iff.mpr (eq_i res_at (Term.int_eval (1)) rfl), trivial⟩ ⟨hq.1, hq.2.1, hq.2.2.1, (hq.2.2.2.sift fun y hy => Or.inr (N y hy)).mono (by decide) (by decide)⟩⟩
theorem main_1_1 : Claimed_1_1 := comes_1 fun _ _ _ _ _ _ h hF => ⟨h.1, hF⟩
theorem main_1_2 : Claimed_1_2 := comes_1 fun _ _ _ _ _ _ h hF => ⟨h.2.1, hF⟩
end Jvm.Pilot.@@N@@
namespace Jvm.Pilot.@@N@@
open Jvm Jvm.ClassFile Sem Op Lib Jvm.Free Jvm.Stand Jvm.Pilot.@@N@@.Jvm.D
/-! MADE BY PROGRAM (witnessworld.py) out of the Statement's table words and the real class files: 23 classes; the members and pool entries that the words name. The judged class is class 1, her method 1. -/
namespace start1
open Jvm.ClassFile
def u (s : String) : CpInfo := .utf8 (stringToUtf16 s)
/-- a pool by its gaps: so many unusable entries, then the entry; so many at the end -/
def gap : Nat → List CpInfo → List CpInfo
  | 0, r => r
  | n + 1, r => .unusable :: gap n r
def poolList (es : List (Nat × CpInfo)) (last : Nat) : List CpInfo := es.foldr (fun e r => gap e.1 (e.2 :: r)) (gap last [])
def pool (es : List (Nat × CpInfo)) (last : Nat) : Array CpInfo := ⟨poolList es last⟩
def fileOf (pool : Array CpInfo) (this : Nat) (attrs : Array Attribute := #[]) (ms : Array MethodInfo := #[]) (fl : Nat := 33) (sup : Nat := 0) (ifs : Array Nat := #[]) (fds : Array FieldInfo := #[]) : ClassFile where
  minorVersion := 0
  majorVersion := 65
  constantPool := pool
  accessFlags := fl
  thisClass := this
  superClass := sup
  interfaces := ifs
  fields := fds
  methods := ms
  attributes := attrs
def plain (name : String) (sup : Option ClassId) : Class where
  name := name
  kind := .ordinary
  loader := none
  accessFlags := 33
  super := sup
  interfaces := #[]
  cf := none
  fields := #[]
  methods := #[]
  instanceTypes := #[]
  staticTypes := #[]
  resolved := #[]
  callSites := []
  init := .initialized
  statics := none
  mirror := none

def pool0 : Array CpInfo := pool [(5, u "<init>"), (0, u "()V"), (1, .class_ 10), (1, u "java/lang/Object"), (85, u "clone"), (0, u "()Ljava/lang/Object;")] 26

def k0c0 : Code := { maxStack := 0, maxLocals := 1, code := object_method_1_code, exceptionTable := #[], attributes := #[] }
def k0m0 : Method := { name := "<init>", desc := "()V", sig := { parameters := [], returnType := none }, accessFlags := 1, code := some k0c0 }
def k0m1 : Method := { name := "clone", desc := "()Ljava/lang/Object;", sig := { parameters := [], returnType := some (.object "java/lang/Object") }, accessFlags := 260, code := none }
/-- java/lang/Object -/
def k0 : Class := { plain "java/lang/Object" none with
  accessFlags := 33
  interfaces := #[]
  cf := some (fileOf pool0 8 #[] #[⟨1, 5, 6, #[]⟩, ⟨260, 96, 97, #[]⟩] 33 0 #[] #[])
  fields := #[]
  methods := #[k0m0, k0m1]
  instanceTypes := #[]
  staticTypes := #[]
  resolved := Array.replicate 124 none
  statics := none }

def pool1 : Array CpInfo := pool [(2, .class_ 4), (1, u "java/lang/Object"), (0, u "<init>"), (0, u "()V"), (0, .integer 2147483647), (0, .methodref 9 10), (0, .class_ 11), (0, .nameAndType 12 13), (0, u "com/example/odograph/odograph/online/PlacementCoveredPinLaw"), (0, u "perm"), (0, u "(I)[I"), (0, .long 2), (1, .long 3), (1, .class_ 19), (0, u "com/example/odograph/odograph/model/Instance"), (0, .methodref 18 21), (0, .nameAndType 5 22), (0, u "([J[J[J)V"), (0, .methodref 18 24), (0, .nameAndType 25 26), (0, u "namedPoints"), (0, u "()[J"), (0, .class_ 28), (0, u "com/example/odograph/odograph/online/Placement"), (0, .methodref 27 30), (0, .nameAndType 5 31), (0, u "(Lcom/example/odograph/odograph/model/Instance;[J[I)V"), (0, .methodref 9 33), (0, .nameAndType 34 35), (0, u "present"), (0, u "(JJJJJJZ)Z"), (0, .methodref 9 37), (0, .nameAndType 38 39), (0, u "idx"), (0, u "(JZZZ)I"), (0, .methodref 27 41), (0, .nameAndType 42 43), (0, u "positions"), (0, u "()I"), (0, .methodref 27 45), (0, .nameAndType 46 47), (0, u "move"), (0, u "(II)V"), (0, .methodref 27 49), (0, .nameAndType 50 51), (0, u "covered"), (0, u "(I)Z"), (2, u "law"), (0, u "(IIII)Z")] 7

def k1m0 : Method := { name := "<init>", desc := "()V", sig := { parameters := [], returnType := none }, accessFlags := 1, code := none }
def k1c1 : Code := { maxStack := 13, maxLocals := 35, code := code, exceptionTable := #[], attributes := #[] }
def k1m1 : Method := { name := "law", desc := "(IIII)Z", sig := { parameters := [.int, .int, .int, .int], returnType := some .boolean }, accessFlags := 9, code := some k1c1 }
def k1c2 : Code := { maxStack := 4, maxLocals := 13, code := method_3_code, exceptionTable := #[], attributes := #[] }
def k1m2 : Method := { name := "present", desc := "(JJJJJJZ)Z", sig := { parameters := [.long, .long, .long, .long, .long, .long, .boolean], returnType := some .boolean }, accessFlags := 10, code := some k1c2 }
def k1c3 : Code := { maxStack := 4, maxLocals := 6, code := method_4_code, exceptionTable := #[], attributes := #[] }
def k1m3 : Method := { name := "idx", desc := "(JZZZ)I", sig := { parameters := [.long, .boolean, .boolean, .boolean], returnType := some .int }, accessFlags := 10, code := some k1c3 }
def k1c4 : Code := { maxStack := 4, maxLocals := 1, code := method_5_code, exceptionTable := #[], attributes := #[] }
def k1m4 : Method := { name := "perm", desc := "(I)[I", sig := { parameters := [.int], returnType := some (.array .int) }, accessFlags := 10, code := some k1c4 }
/-- com/example/odograph/odograph/online/PlacementCoveredPinLaw -/
def k1 : Class := { plain "com/example/odograph/odograph/online/PlacementCoveredPinLaw" (some 0) with
  accessFlags := 49
  interfaces := #[]
  cf := some (fileOf pool1 9 #[] #[⟨1, 5, 6, #[]⟩, ⟨9, 54, 55, #[]⟩, ⟨10, 34, 35, #[]⟩, ⟨10, 38, 39, #[]⟩, ⟨10, 12, 13, #[]⟩] 49 2 #[] #[])
  fields := #[]
  methods := #[k1m0, k1m1, k1m2, k1m3, k1m4]
  instanceTypes := #[]
  staticTypes := #[]
  resolved := Array.replicate 63 none
  statics := none }

def pool2 : Array CpInfo := pool [(1, .methodref 2 3), (0, .class_ 4), (0, .nameAndType 5 6), (0, u "com/example/odograph/odograph/model/Requests"), (0, u "ofPoints"), (0, u "([J)Lcom/example/odograph/odograph/model/Requests;"), (0, .methodref 8 9), (0, .class_ 10), (0, .nameAndType 11 12), (0, u "com/example/odograph/odograph/model/Instance"), (0, u "<init>"), (0, u "([J[JLcom/example/odograph/odograph/model/Requests;)V"), (0, .methodref 14 15), (0, .class_ 16), (0, .nameAndType 11 17), (0, u "java/lang/Object"), (0, u "()V"), (28, .string 47), (0, u "start point"), (0, .methodref 2 49), (0, .nameAndType 50 51), (0, u "requirePoint"), (0, u "(JLjava/lang/String;)V"), (0, .methodref 53 54), (0, .class_ 55), (0, .nameAndType 56 57), (0, u "[J"), (0, u "clone"), (0, u "()Ljava/lang/Object;"), (0, .fieldref 8 59), (0, .nameAndType 60 55), (0, u "weights"), (0, .fieldref 8 62), (0, .nameAndType 63 55), (0, u "start"), (0, .fieldref 8 65), (0, .nameAndType 66 67), (0, u "requests"), (0, u "Lcom/example/odograph/odograph/model/Requests;"), (8, u "()I"), (11, u "()Z"), (6, .methodref 2 96), (0, .nameAndType 97 98), (0, u "points"), (0, u "()[J"), (0, .methodref 8 100), (0, .nameAndType 101 98), (0, u "requestedPoints"), (0, .methodref 103 104), (0, .class_ 105), (0, .nameAndType 106 107), (0, u "java/util/Arrays"), (0, u "copyOf"), (0, u "([JI)[J"), (0, .methodref 109 110), (0, .class_ 111), (0, .nameAndType 112 113), (0, u "java/lang/System"), (0, u "arraycopy"), (0, u "(Ljava/lang/Object;ILjava/lang/Object;II)V"), (0, .methodref 2 115), (0, .nameAndType 116 117), (0, u "distinct"), (0, u "([J)[J"), (0, .methodref 103 119), (0, .nameAndType 120 121), (0, u "binarySearch"), (0, u "([JJ)I"), (7, u "([J[J[J)V"), (3, u "servers"), (3, u "coldStart"), (1, u "namedPoints"), (0, u "startPositions"), (0, u "([J)[I")] 20

def k2c0 : Code := { maxStack := 4, maxLocals := 4, code := prog_11_method_1_code, exceptionTable := #[], attributes := #[] }
def k2m0 : Method := { name := "<init>", desc := "([J[J[J)V", sig := { parameters := [(.array .long), (.array .long), (.array .long)], returnType := none }, accessFlags := 1, code := some k2c0 }
def k2c1 : Code := { maxStack := 8, maxLocals := 5, code := prog_11_method_2_code, exceptionTable := #[], attributes := #[] }
def k2m1 : Method := { name := "<init>", desc := "([J[JLcom/example/odograph/odograph/model/Requests;)V", sig := { parameters := [(.array .long), (.array .long), (.object "com/example/odograph/odograph/model/Requests")], returnType := none }, accessFlags := 1, code := some k2c1 }
def k2c2 : Code := { maxStack := 1, maxLocals := 1, code := prog_11_method_3_code, exceptionTable := #[], attributes := #[] }
def k2m2 : Method := { name := "servers", desc := "()I", sig := { parameters := [], returnType := some .int }, accessFlags := 1, code := some k2c2 }
def k2c3 : Code := { maxStack := 1, maxLocals := 1, code := prog_11_method_6_code, exceptionTable := #[], attributes := #[] }
def k2m3 : Method := { name := "coldStart", desc := "()Z", sig := { parameters := [], returnType := some .boolean }, accessFlags := 1, code := some k2c3 }
def k2c4 : Code := { maxStack := 1, maxLocals := 1, code := prog_11_method_13_code, exceptionTable := #[], attributes := #[] }
def k2m4 : Method := { name := "requestedPoints", desc := "()[J", sig := { parameters := [], returnType := some (.array .long) }, accessFlags := 1, code := some k2c4 }
def k2c5 : Code := { maxStack := 5, maxLocals := 3, code := prog_11_method_14_code, exceptionTable := #[], attributes := #[] }
def k2m5 : Method := { name := "namedPoints", desc := "()[J", sig := { parameters := [], returnType := some (.array .long) }, accessFlags := 1, code := some k2c5 }
def k2c6 : Code := { maxStack := 5, maxLocals := 4, code := prog_11_method_15_code, exceptionTable := #[], attributes := #[] }
def k2m6 : Method := { name := "startPositions", desc := "([J)[I", sig := { parameters := [(.array .long)], returnType := some (.array .int) }, accessFlags := 1, code := some k2c6 }
/-- com/example/odograph/odograph/model/Instance -/
def k2 : Class := { plain "com/example/odograph/odograph/model/Instance" (some 0) with
  accessFlags := 49
  interfaces := #[]
  cf := some (fileOf pool2 8 #[] #[⟨1, 11, 129, #[]⟩, ⟨1, 11, 12, #[]⟩, ⟨1, 133, 76, #[]⟩, ⟨1, 137, 88, #[]⟩, ⟨1, 101, 98, #[]⟩, ⟨1, 139, 98, #[]⟩, ⟨1, 140, 141, #[]⟩] 49 14 #[] #[⟨18, 60, 55, #[]⟩, ⟨18, 63, 55, #[]⟩, ⟨18, 66, 67, #[]⟩])
  fields := #[⟨"weights", (.array .long), 18, 0, 0⟩, ⟨"start", (.array .long), 18, 1, 0⟩, ⟨"requests", (.object "com/example/odograph/odograph/model/Requests"), 18, 2, 0⟩]
  methods := #[k2m0, k2m1, k2m2, k2m3, k2m4, k2m5, k2m6]
  instanceTypes := #[(.array .long), (.array .long), (.object "com/example/odograph/odograph/model/Requests")]
  staticTypes := #[]
  resolved := Array.replicate 162 none
  statics := none }

def pool3 : Array CpInfo := pool [(3, .methodref 4 5), (0, .class_ 6), (0, .nameAndType 7 8), (0, u "java/lang/Object"), (0, u "<init>"), (0, u "()V"), (0, .fieldref 10 11), (0, .class_ 12), (0, .nameAndType 13 14), (0, u "com/example/odograph/odograph/model/Requests"), (0, u "points"), (0, u "[J"), (0, .fieldref 10 16), (0, .nameAndType 17 18), (0, u "bounds"), (0, u "[I"), (0, .class_ 20), (0, u "com/example/odograph/odograph/model/Requests$Builder"), (13, .string 35), (0, u "request"), (0, .methodref 10 37), (0, .nameAndType 38 39), (0, u "requirePoint"), (0, u "(JLjava/lang/String;)V"), (0, .methodref 41 42), (0, .class_ 14), (0, .nameAndType 43 44), (0, u "clone"), (0, u "()Ljava/lang/Object;"), (0, .methodref 10 46), (0, .nameAndType 7 47), (0, u "([J[I)V"), (1, .class_ 51), (1, u "java/util/Arrays"), (11, .methodref 10 64), (0, .nameAndType 65 66), (0, u "distinct"), (0, u "([J)[J"), (7, .methodref 10 75), (0, .nameAndType 76 77), (0, u "toSet"), (0, u "([JII)I"), (0, .methodref 49 79), (0, .nameAndType 80 81), (0, u "copyOf"), (0, u "([JI)[J"), (19, .methodref 49 102), (0, .nameAndType 103 104), (0, u "sort"), (0, u "([JII)V"), (0, u "MAX_POINTS"), (0, u "I"), (9, u "ofPoints"), (0, u "([J)Lcom/example/odograph/odograph/model/Requests;"), (6, u "()[J")] 6

def k3c0 : Code := { maxStack := 2, maxLocals := 3, code := prog_13_method_1_code, exceptionTable := #[], attributes := #[] }
def k3m0 : Method := { name := "<init>", desc := "([J[I)V", sig := { parameters := [(.array .long), (.array .int)], returnType := none }, accessFlags := 2, code := some k3c0 }
def k3c1 : Code := { maxStack := 4, maxLocals := 3, code := prog_13_method_3_code, exceptionTable := #[], attributes := #[] }
def k3m1 : Method := { name := "ofPoints", desc := "([J)Lcom/example/odograph/odograph/model/Requests;", sig := { parameters := [(.array .long)], returnType := some (.object "com/example/odograph/odograph/model/Requests") }, accessFlags := 137, code := some k3c1 }
def k3c2 : Code := { maxStack := 1, maxLocals := 1, code := prog_13_method_8_code, exceptionTable := #[], attributes := #[] }
def k3m2 : Method := { name := "points", desc := "()[J", sig := { parameters := [], returnType := some (.array .long) }, accessFlags := 1, code := some k3c2 }
def k3c3 : Code := { maxStack := 3, maxLocals := 3, code := prog_13_method_10_code, exceptionTable := #[], attributes := #[] }
def k3m3 : Method := { name := "distinct", desc := "([J)[J", sig := { parameters := [(.array .long)], returnType := some (.array .long) }, accessFlags := 8, code := some k3c3 }
def k3c4 : Code := { maxStack := 8, maxLocals := 3, code := prog_13_method_11_code, exceptionTable := #[], attributes := #[] }
def k3m4 : Method := { name := "requirePoint", desc := "(JLjava/lang/String;)V", sig := { parameters := [.long, (.object "java/lang/String")], returnType := none }, accessFlags := 8, code := some k3c4 }
def k3c5 : Code := { maxStack := 4, maxLocals := 5, code := prog_13_method_12_code, exceptionTable := #[], attributes := #[] }
def k3m5 : Method := { name := "toSet", desc := "([JII)I", sig := { parameters := [(.array .long), .int, .int], returnType := some .int }, accessFlags := 10, code := some k3c5 }
/-- com/example/odograph/odograph/model/Requests -/
def k3 : Class := { plain "com/example/odograph/odograph/model/Requests" (some 0) with
  accessFlags := 49
  interfaces := #[]
  cf := some (fileOf pool3 10 #[.nestMembers #[19]] #[⟨2, 7, 47, #[]⟩, ⟨137, 116, 117, #[]⟩, ⟨1, 13, 124, #[]⟩, ⟨8, 65, 66, #[]⟩, ⟨8, 38, 39, #[]⟩, ⟨10, 76, 77, #[]⟩] 49 4 #[] #[⟨26, 105, 106, #[]⟩, ⟨18, 13, 14, #[]⟩, ⟨18, 17, 18, #[]⟩])
  fields := #[⟨"MAX_POINTS", .int, 26, 0, 0⟩, ⟨"points", (.array .long), 18, 0, 0⟩, ⟨"bounds", (.array .int), 18, 1, 0⟩]
  methods := #[k3m0, k3m1, k3m2, k3m3, k3m4, k3m5]
  instanceTypes := #[(.array .long), (.array .int)]
  staticTypes := #[.int]
  resolved := Array.replicate 131 none
  statics := none }

def pool4 : Array CpInfo := pool [(1, .class_ 2), (0, u "java/io/Serializable"), (0, .class_ 4), (0, u "java/lang/Object")] 2

/-- java/io/Serializable -/
def k4 : Class := { plain "java/io/Serializable" (some 0) with
  accessFlags := 1537
  interfaces := #[]
  cf := some (fileOf pool4 1 #[] #[] 1537 3 #[] #[])
  fields := #[]
  methods := #[]
  instanceTypes := #[]
  staticTypes := #[]
  resolved := Array.replicate 7 none
  statics := none }

def pool5 : Array CpInfo := pool [(1, .class_ 2), (0, u "java/lang/Comparable"), (0, .class_ 4), (0, u "java/lang/Object")] 7

/-- java/lang/Comparable -/
def k5 : Class := { plain "java/lang/Comparable" (some 0) with
  accessFlags := 1537
  interfaces := #[]
  cf := some (fileOf pool5 1 #[] #[] 1537 3 #[] #[])
  fields := #[]
  methods := #[]
  instanceTypes := #[]
  staticTypes := #[]
  resolved := Array.replicate 12 none
  statics := none }

def pool6 : Array CpInfo := pool [(2, .class_ 4), (1, u "java/lang/CharSequence"), (42, .class_ 48), (0, u "java/lang/CharSequence$1CodePointIterator"), (10, .class_ 60), (0, u "java/lang/CharSequence$1CharIterator"), (5, .class_ 67), (0, u "java/lang/Object")] 63

/-- java/lang/CharSequence -/
def k6 : Class := { plain "java/lang/CharSequence" (some 0) with
  accessFlags := 1537
  interfaces := #[]
  cf := some (fileOf pool6 2 #[.nestMembers #[47, 59]] #[] 1537 66 #[] #[])
  fields := #[]
  methods := #[]
  instanceTypes := #[]
  staticTypes := #[]
  resolved := Array.replicate 131 none
  statics := none }

def pool7 : Array CpInfo := pool [(1, .class_ 2), (0, u "java/lang/constant/Constable"), (0, .class_ 4), (0, u "java/lang/Object")] 6

/-- java/lang/constant/Constable -/
def k7 : Class := { plain "java/lang/constant/Constable" (some 0) with
  accessFlags := 1537
  interfaces := #[]
  cf := some (fileOf pool7 1 #[] #[] 1537 3 #[] #[])
  fields := #[]
  methods := #[]
  instanceTypes := #[]
  staticTypes := #[]
  resolved := Array.replicate 11 none
  statics := none }

def pool8 : Array CpInfo := pool [(1, .class_ 2), (0, u "java/lang/constant/ConstantDesc"), (0, .class_ 4), (0, u "java/lang/Object")] 32

/-- java/lang/constant/ConstantDesc -/
def k8 : Class := { plain "java/lang/constant/ConstantDesc" (some 0) with
  accessFlags := 1537
  interfaces := #[]
  cf := some (fileOf pool8 1 #[] #[] 1537 3 #[] #[])
  fields := #[]
  methods := #[]
  instanceTypes := #[]
  staticTypes := #[]
  resolved := Array.replicate 37 none
  statics := none }

def pool9 : Array CpInfo := pool [(2, .class_ 4), (1, u "java/lang/Object"), (0, u "<init>"), (0, u "()V"), (3, .class_ 12), (1, u "java/lang/String"), (0, u "value"), (0, u "[B"), (2, u "coder"), (0, u "B"), (2, u "hash"), (0, u "I"), (2, u "hashIsZero"), (0, u "Z"), (13, u "COMPACT_STRINGS"), (534, .class_ 576), (0, u "java/lang/CharSequence"), (22, u "CASE_INSENSITIVE_ORDER"), (0, u "Ljava/util/Comparator;"), (500, u "serialPersistentFields"), (0, u "[Ljava/io/ObjectStreamField;"), (0, .class_ 1104), (0, u "java/lang/String$CaseInsensitiveComparator"), (1, .class_ 1107), (0, u "java/io/Serializable"), (0, .class_ 1109), (0, u "java/lang/Comparable"), (0, .class_ 1111), (0, u "java/lang/constant/Constable"), (0, .class_ 1113), (0, u "java/lang/constant/ConstantDesc"), (2, u "serialVersionUID"), (0, u "J"), (3, u "REPL"), (0, u "C"), (2, u "LATIN1"), (1, u "UTF16")] 323

def k9m0 : Method := { name := "<init>", desc := "()V", sig := { parameters := [], returnType := none }, accessFlags := 1, code := none }
/-- java/lang/String -/
def k9 : Class := { plain "java/lang/String" (some 0) with
  accessFlags := 49
  interfaces := #[4, 5, 6, 7, 8]
  cf := some (fileOf pool9 10 #[.nestMembers #[1103]] #[⟨1, 5, 6, #[]⟩] 49 2 #[1106, 1108, 575, 1110, 1112] #[⟨18, 13, 14, #[]⟩, ⟨18, 17, 18, #[]⟩, ⟨2, 21, 22, #[]⟩, ⟨2, 25, 26, #[]⟩, ⟨26, 1116, 1117, #[]⟩, ⟨24, 40, 26, #[]⟩, ⟨26, 1101, 1102, #[]⟩, ⟨26, 1121, 1122, #[]⟩, ⟨25, 599, 600, #[]⟩, ⟨24, 1125, 18, #[]⟩, ⟨24, 1127, 18, #[]⟩])
  fields := #[⟨"value", (.array .byte), 18, 0, 0⟩, ⟨"coder", .byte, 18, 1, 0⟩, ⟨"hash", .int, 2, 2, 0⟩, ⟨"hashIsZero", .boolean, 2, 3, 0⟩, ⟨"serialVersionUID", .long, 26, 0, 0⟩, ⟨"COMPACT_STRINGS", .boolean, 24, 1, 0⟩, ⟨"serialPersistentFields", (.array (.object "java/io/ObjectStreamField")), 26, 2, 0⟩, ⟨"REPL", .char, 26, 3, 0⟩, ⟨"CASE_INSENSITIVE_ORDER", (.object "java/util/Comparator"), 25, 4, 0⟩, ⟨"LATIN1", .byte, 24, 5, 0⟩, ⟨"UTF16", .byte, 24, 6, 0⟩]
  methods := #[k9m0]
  instanceTypes := #[(.array .byte), .byte, .int, .boolean]
  staticTypes := #[.long, .boolean, (.array (.object "java/io/ObjectStreamField")), .char, (.object "java/util/Comparator"), .byte, .byte]
  resolved := Array.replicate 1451 none
  statics := none }

def pool10 : Array CpInfo := pool [(1, .class_ 2), (0, u "java/lang/Cloneable"), (0, .class_ 4), (0, u "java/lang/Object")] 2

/-- java/lang/Cloneable -/
def k10 : Class := { plain "java/lang/Cloneable" (some 0) with
  accessFlags := 1537
  interfaces := #[]
  cf := some (fileOf pool10 1 #[] #[] 1537 3 #[] #[])
  fields := #[]
  methods := #[]
  instanceTypes := #[]
  staticTypes := #[]
  resolved := Array.replicate 7 none
  statics := none }

def pool11 : Array CpInfo := pool [(2, .class_ 4), (1, u "java/lang/Object"), (0, u "<init>"), (0, u "()V"), (1, .class_ 10), (1, u "java/util/DualPivotQuicksort"), (0, u "sort"), (1, .methodref 14 15), (0, .class_ 16), (0, .nameAndType 17 18), (0, u "java/util/Arrays"), (0, u "rangeCheck"), (0, u "(III)V"), (0, .methodref 8 20), (0, .nameAndType 11 21), (0, u "([JIII)V"), (52, .class_ 76), (1, u "java/util/Arrays$NaturalOrder"), (36, .class_ 115), (1, u "java/util/Arrays$LegacyMergeSort"), (1, u "Z"), (32, .methodref 151 152), (0, .class_ 153), (0, .nameAndType 154 155), (0, u "java/lang/System"), (0, u "arraycopy"), (0, u "(Ljava/lang/Object;ILjava/lang/Object;II)V"), (49, .methodref 14 206), (0, .nameAndType 207 208), (0, u "binarySearch0"), (0, u "([JIIJ)I"), (93, u "copyOf"), (1, .methodref 305 306), (0, .class_ 307), (0, .nameAndType 308 309), (0, u "java/lang/Math"), (0, u "min"), (0, u "(II)I"), (65, .class_ 376), (0, u "java/util/Arrays$ArrayList"), (68, u "$assertionsDisabled"), (269, u "MIN_ARRAY_SORT_GRAN"), (0, u "I"), (2, u "INSERTIONSORT_THRESHOLD"), (12, u "([JII)V"), (61, u "binarySearch"), (0, u "([JJ)I"), (44, u "fill"), (4, u "([II)V"), (26, u "([JI)[J"), (102, .class_ 976), (0, u "java/util/Arrays$ArrayItr")] 52

def k11m0 : Method := { name := "<init>", desc := "()V", sig := { parameters := [], returnType := none }, accessFlags := 2, code := none }
def k11c1 : Code := { maxStack := 4, maxLocals := 3, code := jdk_65_method_5_code, exceptionTable := #[], attributes := #[] }
def k11m1 : Method := { name := "sort", desc := "([JII)V", sig := { parameters := [(.array .long), .int, .int], returnType := none }, accessFlags := 9, code := some k11c1 }
def k11c2 : Code := { maxStack := 4, maxLocals := 3, code := jdk_65_method_30_code, exceptionTable := #[], attributes := #[] }
def k11m2 : Method := { name := "rangeCheck", desc := "(III)V", sig := { parameters := [.int, .int, .int], returnType := none }, accessFlags := 8, code := some k11c2 }
def k11c3 : Code := { maxStack := 5, maxLocals := 3, code := jdk_65_method_54_code, exceptionTable := #[], attributes := #[] }
def k11m3 : Method := { name := "binarySearch", desc := "([JJ)I", sig := { parameters := [(.array .long), .long], returnType := some .int }, accessFlags := 9, code := some k11c3 }
def k11c4 : Code := { maxStack := 4, maxLocals := 10, code := jdk_65_method_56_code, exceptionTable := #[], attributes := #[] }
def k11m4 : Method := { name := "binarySearch0", desc := "([JIIJ)I", sig := { parameters := [(.array .long), .int, .int, .long], returnType := some .int }, accessFlags := 10, code := some k11c4 }
def k11c5 : Code := { maxStack := 3, maxLocals := 4, code := jdk_65_method_103_code, exceptionTable := #[], attributes := #[] }
def k11m5 : Method := { name := "fill", desc := "([II)V", sig := { parameters := [(.array .int), .int], returnType := none }, accessFlags := 9, code := some k11c5 }
def k11c6 : Code := { maxStack := 6, maxLocals := 3, code := jdk_65_method_124_code, exceptionTable := #[], attributes := #[] }
def k11m6 : Method := { name := "copyOf", desc := "([JI)[J", sig := { parameters := [(.array .long), .int], returnType := some (.array .long) }, accessFlags := 9, code := some k11c6 }
/-- java/util/Arrays -/
def k11 : Class := { plain "java/util/Arrays" (some 0) with
  accessFlags := 49
  interfaces := #[]
  cf := some (fileOf pool11 14 #[.nestMembers #[975, 375, 113, 74]] #[⟨2, 5, 6, #[]⟩, ⟨9, 11, 732, #[]⟩, ⟨8, 17, 18, #[]⟩, ⟨9, 794, 795, #[]⟩, ⟨10, 207, 208, #[]⟩, ⟨9, 840, 845, #[]⟩, ⟨9, 302, 872, #[]⟩] 49 2 #[] #[⟨26, 715, 716, #[]⟩, ⟨26, 719, 716, #[]⟩, ⟨4120, 445, 117, #[]⟩])
  fields := #[⟨"MIN_ARRAY_SORT_GRAN", .int, 26, 0, 0⟩, ⟨"INSERTIONSORT_THRESHOLD", .int, 26, 1, 0⟩, ⟨"$assertionsDisabled", .boolean, 4120, 2, 0⟩]
  methods := #[k11m0, k11m1, k11m2, k11m3, k11m4, k11m5, k11m6]
  instanceTypes := #[]
  staticTypes := #[.int, .int, .boolean]
  resolved := Array.replicate 1029 none
  statics := none }

def pool12 : Array CpInfo := pool [(1, .class_ 2), (0, u "java/util/DualPivotQuicksort"), (5, .class_ 10), (1, u "java/lang/Object"), (0, u "<init>"), (0, u "()V"), (4, .class_ 18), (0, u "java/util/DualPivotQuicksort$Sorter"), (9, u "sort"), (7, u "insertionSort"), (31, u "I"), (4, .class_ 74), (0, u "java/util/DualPivotQuicksort$RunMerger"), (10, .class_ 86), (0, u "java/util/DualPivotQuicksort$Merger"), (12, .methodref 1 100), (0, .nameAndType 28 101), (0, u "(Ljava/util/DualPivotQuicksort$Sorter;[JIII)V"), (2, u "([JIII)V"), (0, .methodref 1 106), (0, .nameAndType 36 107), (0, u "([JII)V"), (106, u "MAX_MIXED_INSERTION_SORT_SIZE"), (2, u "MAX_INSERTION_SORT_SIZE"), (1, u "MIN_PARALLEL_SORT_SIZE"), (1, u "MIN_TRY_MERGE_SIZE"), (0, u "MIN_FIRST_RUN_SIZE"), (1, u "MIN_FIRST_RUNS_FACTOR"), (1, u "MAX_RUN_CAPACITY"), (1, u "MIN_RUN_COUNT"), (1, u "MIN_PARALLEL_MERGE_PARTS_SIZE"), (0, u "MIN_BYTE_COUNTING_SORT_SIZE"), (1, u "MIN_SHORT_OR_CHAR_COUNTING_SORT_SIZE"), (1, u "DELTA"), (1, u "MAX_RECURSION_DEPTH"), (1, u "NUM_BYTE_VALUES"), (1, u "MAX_BYTE_INDEX"), (0, u "NUM_CHAR_VALUES"), (0, u "NUM_SHORT_VALUES"), (0, u "MAX_SHORT_INDEX")] 86

def k12m0 : Method := { name := "<init>", desc := "()V", sig := { parameters := [], returnType := none }, accessFlags := 2, code := none }
def k12c1 : Code := { maxStack := 9, maxLocals := 7, code := jdk_2529_method_12_code, exceptionTable := #[], attributes := #[] }
def k12m1 : Method := { name := "sort", desc := "([JIII)V", sig := { parameters := [(.array .long), .int, .int, .int], returnType := none }, accessFlags := 8, code := some k12c1 }
def k12c2 : Code := { maxStack := 6, maxLocals := 25, code := jdk_2529_method_13_code, exceptionTable := #[], attributes := #[] }
def k12m2 : Method := { name := "sort", desc := "(Ljava/util/DualPivotQuicksort$Sorter;[JIII)V", sig := { parameters := [(.object "java/util/DualPivotQuicksort$Sorter"), (.array .long), .int, .int, .int], returnType := none }, accessFlags := 8, code := some k12c2 }
def k12c3 : Code := { maxStack := 5, maxLocals := 7, code := jdk_2529_method_15_code, exceptionTable := #[], attributes := #[] }
def k12m3 : Method := { name := "insertionSort", desc := "([JII)V", sig := { parameters := [(.array .long), .int, .int], returnType := none }, accessFlags := 10, code := some k12c3 }
/-- java/util/DualPivotQuicksort -/
def k12 : Class := { plain "java/util/DualPivotQuicksort" (some 0) with
  accessFlags := 48
  interfaces := #[]
  cf := some (fileOf pool12 1 #[.nestMembers #[73, 85, 17]] #[⟨2, 11, 12, #[]⟩, ⟨8, 28, 104, #[]⟩, ⟨8, 28, 101, #[]⟩, ⟨10, 36, 107, #[]⟩] 48 8 #[] #[⟨26, 214, 68, #[]⟩, ⟨26, 217, 68, #[]⟩, ⟨26, 219, 68, #[]⟩, ⟨26, 221, 68, #[]⟩, ⟨26, 222, 68, #[]⟩, ⟨26, 224, 68, #[]⟩, ⟨26, 226, 68, #[]⟩, ⟨26, 228, 68, #[]⟩, ⟨26, 230, 68, #[]⟩, ⟨26, 231, 68, #[]⟩, ⟨26, 233, 68, #[]⟩, ⟨26, 235, 68, #[]⟩, ⟨26, 237, 68, #[]⟩, ⟨26, 239, 68, #[]⟩, ⟨26, 241, 68, #[]⟩, ⟨26, 242, 68, #[]⟩, ⟨26, 243, 68, #[]⟩, ⟨26, 244, 68, #[]⟩])
  fields := #[⟨"MAX_MIXED_INSERTION_SORT_SIZE", .int, 26, 0, 0⟩, ⟨"MAX_INSERTION_SORT_SIZE", .int, 26, 1, 0⟩, ⟨"MIN_PARALLEL_SORT_SIZE", .int, 26, 2, 0⟩, ⟨"MIN_TRY_MERGE_SIZE", .int, 26, 3, 0⟩, ⟨"MIN_FIRST_RUN_SIZE", .int, 26, 4, 0⟩, ⟨"MIN_FIRST_RUNS_FACTOR", .int, 26, 5, 0⟩, ⟨"MAX_RUN_CAPACITY", .int, 26, 6, 0⟩, ⟨"MIN_RUN_COUNT", .int, 26, 7, 0⟩, ⟨"MIN_PARALLEL_MERGE_PARTS_SIZE", .int, 26, 8, 0⟩, ⟨"MIN_BYTE_COUNTING_SORT_SIZE", .int, 26, 9, 0⟩, ⟨"MIN_SHORT_OR_CHAR_COUNTING_SORT_SIZE", .int, 26, 10, 0⟩, ⟨"DELTA", .int, 26, 11, 0⟩, ⟨"MAX_RECURSION_DEPTH", .int, 26, 12, 0⟩, ⟨"NUM_BYTE_VALUES", .int, 26, 13, 0⟩, ⟨"MAX_BYTE_INDEX", .int, 26, 14, 0⟩, ⟨"NUM_CHAR_VALUES", .int, 26, 15, 0⟩, ⟨"NUM_SHORT_VALUES", .int, 26, 16, 0⟩, ⟨"MAX_SHORT_INDEX", .int, 26, 17, 0⟩]
  methods := #[k12m0, k12m1, k12m2, k12m3]
  instanceTypes := #[]
  staticTypes := #[.int, .int, .int, .int, .int, .int, .int, .int, .int, .int, .int, .int, .int, .int, .int, .int, .int, .int]
  resolved := Array.replicate 331 none
  statics := none }

def pool13 : Array CpInfo := pool [(1, .class_ 2), (0, u "java/lang/Math"), (1, .class_ 6), (1, u "java/lang/Object"), (0, u "<init>"), (0, u "()V"), (89, .class_ 100), (1, u "java/lang/Math$RandomNumberGeneratorHolder"), (71, u "negativeZeroFloatBits"), (0, u "J"), (2, u "negativeZeroDoubleBits"), (24, u "min"), (43, u "$assertionsDisabled"), (0, u "Z"), (88, u "(II)I"), (2, u "twoToTheDoubleScaleDown"), (0, u "D"), (4, u "twoToTheDoubleScaleUp"), (9, u "E"), (3, u "PI"), (2, u "TAU"), (2, u "DEGREES_TO_RADIANS"), (0, u "RADIANS_TO_DEGREES")] 94

def k13m0 : Method := { name := "<init>", desc := "()V", sig := { parameters := [], returnType := none }, accessFlags := 2, code := none }
def k13c1 : Code := { maxStack := 2, maxLocals := 2, code := jdk_29_method_69_code, exceptionTable := #[], attributes := #[] }
def k13m1 : Method := { name := "min", desc := "(II)I", sig := { parameters := [.int, .int], returnType := some .int }, accessFlags := 9, code := some k13c1 }
/-- java/lang/Math -/
def k13 : Class := { plain "java/lang/Math" (some 0) with
  accessFlags := 49
  interfaces := #[]
  cf := some (fileOf pool13 1 #[.nestMembers #[98]] #[⟨2, 7, 8, #[]⟩, ⟨9, 201, 335, #[]⟩] 49 4 #[] #[⟨25, 354, 339, #[]⟩, ⟨25, 358, 339, #[]⟩, ⟨25, 361, 339, #[]⟩, ⟨26, 364, 339, #[]⟩, ⟨26, 365, 339, #[]⟩, ⟨26, 172, 173, #[]⟩, ⟨26, 176, 173, #[]⟩, ⟨8, 344, 339, #[]⟩, ⟨8, 338, 339, #[]⟩, ⟨4120, 245, 246, #[]⟩])
  fields := #[⟨"E", .double, 25, 0, 0⟩, ⟨"PI", .double, 25, 1, 0⟩, ⟨"TAU", .double, 25, 2, 0⟩, ⟨"DEGREES_TO_RADIANS", .double, 26, 3, 0⟩, ⟨"RADIANS_TO_DEGREES", .double, 26, 4, 0⟩, ⟨"negativeZeroFloatBits", .long, 26, 5, 0⟩, ⟨"negativeZeroDoubleBits", .long, 26, 6, 0⟩, ⟨"twoToTheDoubleScaleUp", .double, 8, 7, 0⟩, ⟨"twoToTheDoubleScaleDown", .double, 8, 8, 0⟩, ⟨"$assertionsDisabled", .boolean, 4120, 9, 0⟩]
  methods := #[k13m0, k13m1]
  instanceTypes := #[]
  staticTypes := #[.double, .double, .double, .double, .double, .long, .long, .double, .double, .boolean]
  resolved := Array.replicate 460 none
  statics := none }

def pool14 : Array CpInfo := pool [(2, .class_ 4), (1, u "java/lang/Object"), (0, u "<init>"), (0, u "()V"), (1, .class_ 10), (1, u "java/lang/System"), (0, u "allowSecurityManager"), (0, u "I"), (16, u "cons"), (0, u "Ljava/io/Console;"), (77, .class_ 110), (1, u "java/lang/System$CallersHolder"), (43, u "initialErrStream"), (0, u "Ljava/io/PrintStream;"), (19, u "security"), (0, u "Ljava/lang/SecurityManager;"), (31, .class_ 209), (0, u "java/lang/System$1"), (7, u "props"), (0, u "Ljava/util/Properties;"), (2, u "lineSeparator"), (0, u "Ljava/lang/String;"), (96, .class_ 321), (1, u "java/lang/System$LoggerFinder"), (5, .class_ 328), (0, u "java/lang/System$Logger"), (67, u "err"), (2, u "out"), (91, u "notSupportedJnuEncoding"), (15, u "in"), (17, u "initialIn"), (0, u "Ljava/io/InputStream;"), (35, u "bootLayer"), (0, u "Ljava/lang/ModuleLayer;"), (99, .class_ 664), (0, u "java/lang/System$2"), (9, u "NEVER"), (2, u "MAYBE"), (49, u "arraycopy"), (0, u "(Ljava/lang/Object;ILjava/lang/Object;II)V"), (72, .class_ 802), (0, u "java/lang/System$Logger$Level")] 31

def k14m0 : Method := { name := "<init>", desc := "()V", sig := { parameters := [], returnType := none }, accessFlags := 2, code := none }
def k14m1 : Method := { name := "arraycopy", desc := "(Ljava/lang/Object;ILjava/lang/Object;II)V", sig := { parameters := [(.object "java/lang/Object"), .int, (.object "java/lang/Object"), .int, .int], returnType := none }, accessFlags := 265, code := none }
/-- java/lang/System -/
def k14 : Class := { plain "java/lang/System" (some 0) with
  accessFlags := 49
  interfaces := #[]
  cf := some (fileOf pool14 8 #[.nestMembers #[319, 327, 801, 108, 663, 208]] #[⟨2, 5, 6, #[]⟩, ⟨265, 727, 728, #[]⟩] 49 2 #[] #[⟨25, 507, 526, #[]⟩, ⟨25, 399, 155, #[]⟩, ⟨25, 396, 155, #[]⟩, ⟨10, 525, 526, #[]⟩, ⟨26, 674, 12, #[]⟩, ⟨26, 677, 12, #[]⟩, ⟨10, 11, 12, #[]⟩, ⟨74, 175, 176, #[]⟩, ⟨10, 491, 222, #[]⟩, ⟨74, 29, 30, #[]⟩, ⟨74, 154, 155, #[]⟩, ⟨10, 217, 218, #[]⟩, ⟨10, 221, 222, #[]⟩, ⟨8, 562, 563, #[]⟩])
  fields := #[⟨"in", (.object "java/io/InputStream"), 25, 0, 0⟩, ⟨"out", (.object "java/io/PrintStream"), 25, 1, 0⟩, ⟨"err", (.object "java/io/PrintStream"), 25, 2, 0⟩, ⟨"initialIn", (.object "java/io/InputStream"), 10, 3, 0⟩, ⟨"NEVER", .int, 26, 4, 0⟩, ⟨"MAYBE", .int, 26, 5, 0⟩, ⟨"allowSecurityManager", .int, 10, 6, 0⟩, ⟨"security", (.object "java/lang/SecurityManager"), 74, 7, 0⟩, ⟨"notSupportedJnuEncoding", (.object "java/lang/String"), 10, 8, 0⟩, ⟨"cons", (.object "java/io/Console"), 74, 9, 0⟩, ⟨"initialErrStream", (.object "java/io/PrintStream"), 74, 10, 0⟩, ⟨"props", (.object "java/util/Properties"), 10, 11, 0⟩, ⟨"lineSeparator", (.object "java/lang/String"), 10, 12, 0⟩, ⟨"bootLayer", (.object "java/lang/ModuleLayer"), 8, 13, 0⟩]
  methods := #[k14m0, k14m1]
  instanceTypes := #[]
  staticTypes := #[(.object "java/io/InputStream"), (.object "java/io/PrintStream"), (.object "java/io/PrintStream"), (.object "java/io/InputStream"), .int, .int, .int, (.object "java/lang/SecurityManager"), (.object "java/lang/String"), (.object "java/io/Console"), (.object "java/io/PrintStream"), (.object "java/util/Properties"), (.object "java/lang/String"), (.object "java/lang/ModuleLayer")]
  resolved := Array.replicate 834 none
  statics := none }

def pool15 : Array CpInfo := pool [(1, .methodref 2 3), (0, .class_ 4), (0, .nameAndType 5 6), (0, u "java/lang/Object"), (0, u "<init>"), (0, u "()V"), (0, .methodref 8 9), (0, .class_ 10), (0, .nameAndType 11 12), (0, u "com/example/odograph/odograph/model/Instance"), (0, u "servers"), (0, u "()I"), (0, .methodref 8 14), (0, .nameAndType 15 16), (0, u "startPositions"), (0, u "([J)[I"), (0, .fieldref 18 19), (0, .class_ 20), (0, .nameAndType 21 22), (0, u "com/example/odograph/odograph/online/Placement"), (0, u "position"), (0, u "[I"), (0, .fieldref 18 24), (0, .nameAndType 25 22), (0, u "first"), (0, .fieldref 18 27), (0, .nameAndType 28 22), (0, u "next"), (0, .fieldref 18 30), (0, .nameAndType 31 22), (0, u "previous"), (0, .class_ 33), (0, u "java/util/BitSet"), (0, .methodref 32 35), (0, .nameAndType 5 36), (0, u "(I)V"), (0, .fieldref 18 38), (0, .nameAndType 39 40), (0, u "stacked"), (0, u "Ljava/util/BitSet;"), (0, .methodref 42 43), (0, .class_ 44), (0, .nameAndType 45 46), (0, u "java/util/Arrays"), (0, u "fill"), (0, u "([II)V"), (0, .methodref 8 48), (0, .nameAndType 49 50), (0, u "coldStart"), (0, u "()Z"), (0, .methodref 32 52), (0, .nameAndType 53 36), (0, u "set"), (4, .methodref 32 59), (0, .nameAndType 60 36), (0, u "clear"), (0, u "NONE"), (0, u "I"), (2, u "(Lcom/example/odograph/odograph/model/Instance;[J[I)V"), (6, u "positions"), (0, u "covered"), (0, u "(I)Z"), (1, u "move"), (0, u "(II)V")] 2

def k15c0 : Code := { maxStack := 4, maxLocals := 8, code := prog_22_method_1_code, exceptionTable := #[], attributes := #[] }
def k15m0 : Method := { name := "<init>", desc := "(Lcom/example/odograph/odograph/model/Instance;[J[I)V", sig := { parameters := [(.object "com/example/odograph/odograph/model/Instance"), (.array .long), (.array .int)], returnType := none }, accessFlags := 0, code := some k15c0 }
def k15c1 : Code := { maxStack := 1, maxLocals := 1, code := prog_22_method_2_code, exceptionTable := #[], attributes := #[] }
def k15m1 : Method := { name := "positions", desc := "()I", sig := { parameters := [], returnType := some .int }, accessFlags := 0, code := some k15c1 }
def k15c2 : Code := { maxStack := 2, maxLocals := 2, code := prog_22_method_4_code, exceptionTable := #[], attributes := #[] }
def k15m2 : Method := { name := "covered", desc := "(I)Z", sig := { parameters := [.int], returnType := some .boolean }, accessFlags := 0, code := some k15c2 }
def k15c3 : Code := { maxStack := 4, maxLocals := 4, code := prog_22_method_8_code, exceptionTable := #[], attributes := #[] }
def k15m3 : Method := { name := "move", desc := "(II)V", sig := { parameters := [.int, .int], returnType := none }, accessFlags := 0, code := some k15c3 }
/-- com/example/odograph/odograph/online/Placement -/
def k15 : Class := { plain "com/example/odograph/odograph/online/Placement" (some 0) with
  accessFlags := 48
  interfaces := #[]
  cf := some (fileOf pool15 18 #[] #[⟨0, 5, 65, #[]⟩, ⟨0, 72, 12, #[]⟩, ⟨0, 73, 74, #[]⟩, ⟨0, 76, 77, #[]⟩] 48 2 #[] #[⟨24, 61, 62, #[]⟩, ⟨18, 21, 22, #[]⟩, ⟨18, 25, 22, #[]⟩, ⟨18, 28, 22, #[]⟩, ⟨18, 31, 22, #[]⟩, ⟨18, 39, 40, #[]⟩])
  fields := #[⟨"NONE", .int, 24, 0, 0⟩, ⟨"position", (.array .int), 18, 0, 0⟩, ⟨"first", (.array .int), 18, 1, 0⟩, ⟨"next", (.array .int), 18, 2, 0⟩, ⟨"previous", (.array .int), 18, 3, 0⟩, ⟨"stacked", (.object "java/util/BitSet"), 18, 4, 0⟩]
  methods := #[k15m0, k15m1, k15m2, k15m3]
  instanceTypes := #[(.array .int), (.array .int), (.array .int), (.array .int), (.object "java/util/BitSet")]
  staticTypes := #[.int]
  resolved := Array.replicate 80 none
  statics := none }

def pool16 : Array CpInfo := pool [(1, .class_ 2), (0, u "java/util/BitSet"), (0, .fieldref 1 4), (0, .nameAndType 5 6), (0, u "$assertionsDisabled"), (0, u "Z"), (0, .fieldref 1 8), (0, .nameAndType 9 10), (0, u "wordsInUse"), (0, u "I"), (0, .fieldref 1 12), (0, .nameAndType 13 14), (0, u "words"), (0, u "[J"), (3, .nameAndType 19 20), (0, u "<init>"), (0, u "()V"), (0, .methodref 22 18), (0, .class_ 23), (0, u "java/lang/Object"), (0, .fieldref 1 25), (0, .nameAndType 26 6), (0, u "sizeIsSticky"), (0, .methodref 1 28), (0, .nameAndType 29 30), (0, u "initWords"), (0, u "(I)V"), (21, .methodref 1 53), (0, .nameAndType 54 55), (0, u "wordIndex"), (0, u "(I)I"), (0, .methodref 1 57), (0, .nameAndType 58 20), (0, u "checkInvariants"), (80, .methodref 1 140), (0, .nameAndType 141 30), (0, u "ensureCapacity"), (13, .methodref 1 156), (0, .nameAndType 157 30), (0, u "expandTo"), (0, .methodref 1 159), (0, .nameAndType 160 20), (0, u "recalculateWordsInUse"), (4, .long 18446744073709551615), (3, u "set"), (2, u "clear"), (96, .class_ 270), (0, u "java/util/BitSet$1BitSetSpliterator"), (22, u "serialPersistentFields"), (0, u "[Ljava/io/ObjectStreamField;"), (0, .class_ 296), (0, u "java/lang/Cloneable"), (0, .class_ 298), (0, u "java/io/Serializable"), (0, u "ADDRESS_BITS_PER_WORD"), (2, u "BITS_PER_WORD"), (1, u "BIT_INDEX_MASK"), (1, u "WORD_MASK"), (0, u "J"), (0, u "serialVersionUID")] 108

def k16c0 : Code := { maxStack := 2, maxLocals := 1, code := jdk_92_method_1_code, exceptionTable := #[], attributes := #[] }
def k16m0 : Method := { name := "wordIndex", desc := "(I)I", sig := { parameters := [.int], returnType := some .int }, accessFlags := 10, code := some k16c0 }
def k16c1 : Code := { maxStack := 4, maxLocals := 1, code := jdk_92_method_2_code, exceptionTable := #[], attributes := #[] }
def k16m1 : Method := { name := "checkInvariants", desc := "()V", sig := { parameters := [], returnType := none }, accessFlags := 2, code := some k16c1 }
def k16c2 : Code := { maxStack := 4, maxLocals := 2, code := jdk_92_method_3_code, exceptionTable := #[], attributes := #[] }
def k16m2 : Method := { name := "recalculateWordsInUse", desc := "()V", sig := { parameters := [], returnType := none }, accessFlags := 2, code := some k16c2 }
def k16m3 : Method := { name := "<init>", desc := "()V", sig := { parameters := [], returnType := none }, accessFlags := 1, code := none }
def k16c4 : Code := { maxStack := 4, maxLocals := 2, code := jdk_92_method_5_code, exceptionTable := #[], attributes := #[] }
def k16m4 : Method := { name := "<init>", desc := "(I)V", sig := { parameters := [.int], returnType := none }, accessFlags := 1, code := some k16c4 }
def k16c5 : Code := { maxStack := 3, maxLocals := 2, code := jdk_92_method_6_code, exceptionTable := #[], attributes := #[] }
def k16m5 : Method := { name := "initWords", desc := "(I)V", sig := { parameters := [.int], returnType := none }, accessFlags := 2, code := some k16c5 }
def k16c6 : Code := { maxStack := 3, maxLocals := 3, code := jdk_92_method_14_code, exceptionTable := #[], attributes := #[] }
def k16m6 : Method := { name := "ensureCapacity", desc := "(I)V", sig := { parameters := [.int], returnType := none }, accessFlags := 2, code := some k16c6 }
def k16c7 : Code := { maxStack := 2, maxLocals := 3, code := jdk_92_method_15_code, exceptionTable := #[], attributes := #[] }
def k16m7 : Method := { name := "expandTo", desc := "(I)V", sig := { parameters := [.int], returnType := none }, accessFlags := 2, code := some k16c7 }
def k16c8 : Code := { maxStack := 7, maxLocals := 3, code := jdk_92_method_19_code, exceptionTable := #[], attributes := #[] }
def k16m8 : Method := { name := "set", desc := "(I)V", sig := { parameters := [.int], returnType := none }, accessFlags := 1, code := some k16c8 }
def k16c9 : Code := { maxStack := 8, maxLocals := 3, code := jdk_92_method_23_code, exceptionTable := #[], attributes := #[] }
def k16m9 : Method := { name := "clear", desc := "(I)V", sig := { parameters := [.int], returnType := none }, accessFlags := 1, code := some k16c9 }
/-- java/util/BitSet -/
def k16 : Class := { plain "java/util/BitSet" (some 0) with
  accessFlags := 33
  interfaces := #[10, 4]
  cf := some (fileOf pool16 1 #[.nestMembers #[269]] #[⟨10, 54, 55, #[]⟩, ⟨2, 58, 20, #[]⟩, ⟨2, 160, 20, #[]⟩, ⟨1, 19, 20, #[]⟩, ⟨1, 19, 30, #[]⟩, ⟨2, 29, 30, #[]⟩, ⟨2, 141, 30, #[]⟩, ⟨2, 157, 30, #[]⟩, ⟨1, 169, 30, #[]⟩, ⟨1, 172, 30, #[]⟩] 33 22 #[295, 297] #[⟨26, 299, 10, #[]⟩, ⟨26, 302, 10, #[]⟩, ⟨26, 304, 10, #[]⟩, ⟨26, 306, 307, #[]⟩, ⟨26, 293, 294, #[]⟩, ⟨2, 13, 14, #[]⟩, ⟨130, 9, 10, #[]⟩, ⟨130, 26, 6, #[]⟩, ⟨26, 308, 307, #[]⟩, ⟨4120, 5, 6, #[]⟩])
  fields := #[⟨"ADDRESS_BITS_PER_WORD", .int, 26, 0, 0⟩, ⟨"BITS_PER_WORD", .int, 26, 1, 0⟩, ⟨"BIT_INDEX_MASK", .int, 26, 2, 0⟩, ⟨"WORD_MASK", .long, 26, 3, 0⟩, ⟨"serialPersistentFields", (.array (.object "java/io/ObjectStreamField")), 26, 4, 0⟩, ⟨"words", (.array .long), 2, 0, 0⟩, ⟨"wordsInUse", .int, 130, 1, 0⟩, ⟨"sizeIsSticky", .boolean, 130, 2, 0⟩, ⟨"serialVersionUID", .long, 26, 5, 0⟩, ⟨"$assertionsDisabled", .boolean, 4120, 6, 0⟩]
  methods := #[k16m0, k16m1, k16m2, k16m3, k16m4, k16m5, k16m6, k16m7, k16m8, k16m9]
  instanceTypes := #[(.array .long), .int, .boolean]
  staticTypes := #[.int, .int, .int, .long, (.array (.object "java/io/ObjectStreamField")), .long, .boolean]
  resolved := Array.replicate 417 none
  statics := some 0 }

/-- the primitive byte -/
def k17 : Class := { plain "byte" none with kind := .primitive 'B', accessFlags := 0x411 }
/-- [B -/
def k18 : Class := { plain "[B" (some 0) with kind := .array 17 .byte, interfaces := #[10, 4], accessFlags := 1041 }

/-- the primitive int -/
def k19 : Class := { plain "int" none with kind := .primitive 'I', accessFlags := 0x411 }
/-- [I -/
def k20 : Class := { plain "[I" (some 0) with kind := .array 19 .int, interfaces := #[10, 4], accessFlags := 1041 }

/-- the primitive long -/
def k21 : Class := { plain "long" none with kind := .primitive 'J', accessFlags := 0x411 }
/-- [J -/
def k22 : Class := { plain "[J" (some 0) with kind := .array 21 .long, interfaces := #[10, 4], accessFlags := 1041 }

def heap : Heap := #[{ cls := 16, slots := #[.int 0, .int 0, .int 0, .long 0, .null, .long 0, .int 1], vm := .statics 16 }]
def classes : Array Class := #[k0, k1, k2, k3, k4, k5, k6, k7, k8, k9, k10, k11, k12, k13, k14, k15, k16, k17, k18, k19, k20, k21, k22]
def interned : List (Array UInt16 × Addr) := []
def slotsUsed : Nat := 7
def theMethod : MethodId := ⟨1, 1⟩
def args0 : Array Value := #[.int 1, .int 2, .int 3, .int 4]
def aboutOver (below : List Frame) : State where
  vm := { classes := classes, interned := interned.toArray }
  heap := heap
  slotsUsed := slotsUsed
  threads := #[{ frames := .invoking theMethod args0 :: below }]
def below0 : List Frame := [.native { method := ⟨0, 0⟩, args := #[] }]
def about1 : State := aboutOver below0
def p0 : Program := .bare "" "" ""
def e0 : Env := launch0.env 0 0 0
theorem w_frames : about1.frames = Frame.invoking theMethod args0 :: below0 := rfl
theorem w_args : argsFit about1.vm theMethod args0 = true := by decide +kernel
theorem w_heap : heapFits about1 = true := by decide +kernel
theorem w_runnable : about1.curStatus? = some .runnable := by decide +kernel
theorem w_alone : about1.alone = true := by decide +kernel
theorem w_named : about1.methodNamed? x = some theMethod := by decide +kernel
theorem w_hears : about1.hears theMethod below0 = true := by decide +kernel
theorem w_ripe : about1.ripe theMethod args0 below0 = true := by decide +kernel
theorem w_running : about1.status = .running := rfl
theorem w_room : about1.hasRoom e0.platform room_1 = true :=
  launch0.hasRoom_least _ room_1 (by decide +kernel) (by decide +kernel) (by decide +kernel) (by decide +kernel) (by decide +kernel) (by decide +kernel)
theorem allAtoms_all (ts : List Jvm.Cond) (a : Array Jvm.Value) (st : Jvm.State) : (allAtoms ts).before a st = ts.all (fun c => c.before a st) := by
  induction ts with
  | nil => rfl
  | cons c t ih =>
    show (Jvm.Cond.and c (allAtoms t)).before a st = _
    rw [Jvm.Cond.before_and, ih, List.all_cons]
def words1 : List Jvm.Cond := Jvm.Cond.code x code maxLocals ret :: tables_1
/-- a 'code' word, met by the world's own term for the bytes: nothing is compared byte by byte -/
theorem code_word {y : MethodName} {bytes : ByteArray} {mx : Nat} {rt : Option FieldType} {a : Array Value} {s : State} {m : MethodId} {meth : Method} {c : Code} (h1 : s.methodNamed? y = some m) (h2 : s.vm.method? m = some meth) (h3 : meth.code = some c) (h4 : c.code = bytes)
    (h5 : (c.maxLocals == mx && c.exceptionTable.isEmpty && decide (c.maxStack ≤ mostOperands) && decide (meth.sig.returnType = rt) && !meth.locks && decide (parseMethodDescriptor y.desc = some meth.sig)) = true) : (Jvm.Cond.code y bytes mx rt).before a s = true := by
  simp only [Bool.and_eq_true, beq_iff_eq, Bool.not_eq_true', decide_eq_true_eq] at h5
  obtain ⟨⟨⟨⟨⟨g1, g2⟩, g3⟩, g4⟩, g5⟩, g6⟩ := h5
  simp [Cond.before, Cond.holds, Cond.value, h1, h2, h3, h4, g1, g2, g3, g4, g5, g6]
def isCode : Jvm.Cond → Bool
  | .code _ _ _ _ => true
  | _ => false
theorem all_split {L : List Jvm.Cond} {P : Jvm.Cond → Bool} (h1 : L.all (fun c => isCode c || P c) = true) (h2 : ∀ c ∈ L.filter isCode, P c = true) : L.all P = true := by
  refine List.all_eq_true.mpr fun c hc => ?_
  have h := List.all_eq_true.mp h1 c hc
  rcases Bool.eq_false_or_eq_true (isCode c) with hi | hi
  · exact h2 c (List.mem_filter.mpr ⟨hc, hi⟩)
  · simpa [hi] using h
theorem w_c0 : (Jvm.Cond.code x code maxLocals ret).before args0 about1 = true := code_word (m := ⟨1, 1⟩) (meth := k1m1) (c := k1c1) (by decide +kernel) rfl rfl rfl (by decide +kernel)
theorem w_c1 : (Jvm.Cond.code ⟨"com/example/odograph/odograph/online/PlacementCoveredPinLaw", "perm", "(I)[I"⟩ method_5_code (1 : Nat) (some (.array .int))).before args0 about1 = true := code_word (m := ⟨1, 4⟩) (meth := k1m4) (c := k1c4) (by decide +kernel) rfl rfl rfl (by decide +kernel)
theorem w_c2 : (Jvm.Cond.code ⟨"com/example/odograph/odograph/model/Instance", "<init>", "([J[J[J)V"⟩ prog_11_method_1_code (4 : Nat) none).before args0 about1 = true := code_word (m := ⟨2, 0⟩) (meth := k2m0) (c := k2c0) (by decide +kernel) rfl rfl rfl (by decide +kernel)
theorem w_c3 : (Jvm.Cond.code ⟨"com/example/odograph/odograph/model/Requests", "ofPoints", "([J)Lcom/example/odograph/odograph/model/Requests;"⟩ prog_13_method_3_code (3 : Nat) (some (.object "com/example/odograph/odograph/model/Requests"))).before args0 about1 = true := code_word (m := ⟨3, 1⟩) (meth := k3m1) (c := k3c1) (by decide +kernel) rfl rfl rfl (by decide +kernel)
theorem w_c4 : (Jvm.Cond.code ⟨"com/example/odograph/odograph/model/Requests", "requirePoint", "(JLjava/lang/String;)V"⟩ prog_13_method_11_code (3 : Nat) none).before args0 about1 = true := code_word (m := ⟨3, 4⟩) (meth := k3m4) (c := k3c4) (by decide +kernel) rfl rfl rfl (by decide +kernel)
theorem w_c5 : (Jvm.Cond.code ⟨"com/example/odograph/odograph/model/Requests", "<init>", "([J[I)V"⟩ prog_13_method_1_code (3 : Nat) none).before args0 about1 = true := code_word (m := ⟨3, 0⟩) (meth := k3m0) (c := k3c0) (by decide +kernel) rfl rfl rfl (by decide +kernel)
theorem w_c6 : (Jvm.Cond.code ⟨"java/lang/Object", "<init>", "()V"⟩ object_method_1_code (1 : Nat) none).before args0 about1 = true := code_word (m := ⟨0, 0⟩) (meth := k0m0) (c := k0c0) (by decide +kernel) rfl rfl rfl (by decide +kernel)
theorem w_c7 : (Jvm.Cond.code ⟨"com/example/odograph/odograph/model/Instance", "<init>", "([J[JLcom/example/odograph/odograph/model/Requests;)V"⟩ prog_11_method_2_code (5 : Nat) none).before args0 about1 = true := code_word (m := ⟨2, 1⟩) (meth := k2m1) (c := k2c1) (by decide +kernel) rfl rfl rfl (by decide +kernel)
theorem w_c8 : (Jvm.Cond.code ⟨"com/example/odograph/odograph/model/Instance", "namedPoints", "()[J"⟩ prog_11_method_14_code (3 : Nat) (some (.array .long))).before args0 about1 = true := code_word (m := ⟨2, 5⟩) (meth := k2m5) (c := k2c5) (by decide +kernel) rfl rfl rfl (by decide +kernel)
theorem w_c9 : (Jvm.Cond.code ⟨"com/example/odograph/odograph/model/Instance", "requestedPoints", "()[J"⟩ prog_11_method_13_code (1 : Nat) (some (.array .long))).before args0 about1 = true := code_word (m := ⟨2, 4⟩) (meth := k2m4) (c := k2c4) (by decide +kernel) rfl rfl rfl (by decide +kernel)
theorem w_c10 : (Jvm.Cond.code ⟨"com/example/odograph/odograph/model/Requests", "points", "()[J"⟩ prog_13_method_8_code (1 : Nat) (some (.array .long))).before args0 about1 = true := code_word (m := ⟨3, 2⟩) (meth := k3m2) (c := k3c2) (by decide +kernel) rfl rfl rfl (by decide +kernel)
theorem w_c11 : (Jvm.Cond.code ⟨"com/example/odograph/odograph/model/Requests", "distinct", "([J)[J"⟩ prog_13_method_10_code (3 : Nat) (some (.array .long))).before args0 about1 = true := code_word (m := ⟨3, 3⟩) (meth := k3m3) (c := k3c3) (by decide +kernel) rfl rfl rfl (by decide +kernel)
theorem w_c12 : (Jvm.Cond.code ⟨"com/example/odograph/odograph/model/Requests", "toSet", "([JII)I"⟩ prog_13_method_12_code (5 : Nat) (some .int)).before args0 about1 = true := code_word (m := ⟨3, 5⟩) (meth := k3m5) (c := k3c5) (by decide +kernel) rfl rfl rfl (by decide +kernel)
theorem w_c13 : (Jvm.Cond.code ⟨"java/util/Arrays", "sort", "([JII)V"⟩ jdk_65_method_5_code (3 : Nat) none).before args0 about1 = true := code_word (m := ⟨11, 1⟩) (meth := k11m1) (c := k11c1) (by decide +kernel) rfl rfl rfl (by decide +kernel)
theorem w_c14 : (Jvm.Cond.code ⟨"java/util/Arrays", "rangeCheck", "(III)V"⟩ jdk_65_method_30_code (3 : Nat) none).before args0 about1 = true := code_word (m := ⟨11, 2⟩) (meth := k11m2) (c := k11c2) (by decide +kernel) rfl rfl rfl (by decide +kernel)
theorem w_c15 : (Jvm.Cond.code ⟨"java/util/DualPivotQuicksort", "sort", "([JIII)V"⟩ jdk_2529_method_12_code (7 : Nat) none).before args0 about1 = true := code_word (m := ⟨12, 1⟩) (meth := k12m1) (c := k12c1) (by decide +kernel) rfl rfl rfl (by decide +kernel)
theorem w_c16 : (Jvm.Cond.code ⟨"java/util/DualPivotQuicksort", "sort", "(Ljava/util/DualPivotQuicksort$Sorter;[JIII)V"⟩ jdk_2529_method_13_code (25 : Nat) none).before args0 about1 = true := code_word (m := ⟨12, 2⟩) (meth := k12m2) (c := k12c2) (by decide +kernel) rfl rfl rfl (by decide +kernel)
theorem w_c17 : (Jvm.Cond.code ⟨"java/util/DualPivotQuicksort", "insertionSort", "([JII)V"⟩ jdk_2529_method_15_code (7 : Nat) none).before args0 about1 = true := code_word (m := ⟨12, 3⟩) (meth := k12m3) (c := k12c3) (by decide +kernel) rfl rfl rfl (by decide +kernel)
theorem w_c18 : (Jvm.Cond.code ⟨"java/util/Arrays", "copyOf", "([JI)[J"⟩ jdk_65_method_124_code (3 : Nat) (some (.array .long))).before args0 about1 = true := code_word (m := ⟨11, 6⟩) (meth := k11m6) (c := k11c6) (by decide +kernel) rfl rfl rfl (by decide +kernel)
theorem w_c19 : (Jvm.Cond.code ⟨"java/lang/Math", "min", "(II)I"⟩ jdk_29_method_69_code (2 : Nat) (some .int)).before args0 about1 = true := code_word (m := ⟨13, 1⟩) (meth := k13m1) (c := k13c1) (by decide +kernel) rfl rfl rfl (by decide +kernel)
theorem w_c20 : (Jvm.Cond.code ⟨"com/example/odograph/odograph/online/Placement", "<init>", "(Lcom/example/odograph/odograph/model/Instance;[J[I)V"⟩ prog_22_method_1_code (8 : Nat) none).before args0 about1 = true := code_word (m := ⟨15, 0⟩) (meth := k15m0) (c := k15c0) (by decide +kernel) rfl rfl rfl (by decide +kernel)
theorem w_c21 : (Jvm.Cond.code ⟨"com/example/odograph/odograph/model/Instance", "servers", "()I"⟩ prog_11_method_3_code (1 : Nat) (some .int)).before args0 about1 = true := code_word (m := ⟨2, 2⟩) (meth := k2m2) (c := k2c2) (by decide +kernel) rfl rfl rfl (by decide +kernel)
theorem w_c22 : (Jvm.Cond.code ⟨"com/example/odograph/odograph/model/Instance", "startPositions", "([J)[I"⟩ prog_11_method_15_code (4 : Nat) (some (.array .int))).before args0 about1 = true := code_word (m := ⟨2, 6⟩) (meth := k2m6) (c := k2c6) (by decide +kernel) rfl rfl rfl (by decide +kernel)
theorem w_c23 : (Jvm.Cond.code ⟨"java/util/Arrays", "binarySearch", "([JJ)I"⟩ jdk_65_method_54_code (3 : Nat) (some .int)).before args0 about1 = true := code_word (m := ⟨11, 3⟩) (meth := k11m3) (c := k11c3) (by decide +kernel) rfl rfl rfl (by decide +kernel)
theorem w_c24 : (Jvm.Cond.code ⟨"java/util/Arrays", "binarySearch0", "([JIIJ)I"⟩ jdk_65_method_56_code (10 : Nat) (some .int)).before args0 about1 = true := code_word (m := ⟨11, 4⟩) (meth := k11m4) (c := k11c4) (by decide +kernel) rfl rfl rfl (by decide +kernel)
theorem w_c25 : (Jvm.Cond.code ⟨"java/util/BitSet", "<init>", "(I)V"⟩ jdk_92_method_5_code (2 : Nat) none).before args0 about1 = true := code_word (m := ⟨16, 4⟩) (meth := k16m4) (c := k16c4) (by decide +kernel) rfl rfl rfl (by decide +kernel)
theorem w_c26 : (Jvm.Cond.code ⟨"java/util/BitSet", "initWords", "(I)V"⟩ jdk_92_method_6_code (2 : Nat) none).before args0 about1 = true := code_word (m := ⟨16, 5⟩) (meth := k16m5) (c := k16c5) (by decide +kernel) rfl rfl rfl (by decide +kernel)
theorem w_c27 : (Jvm.Cond.code ⟨"java/util/BitSet", "wordIndex", "(I)I"⟩ jdk_92_method_1_code (1 : Nat) (some .int)).before args0 about1 = true := code_word (m := ⟨16, 0⟩) (meth := k16m0) (c := k16c0) (by decide +kernel) rfl rfl rfl (by decide +kernel)
theorem w_c28 : (Jvm.Cond.code ⟨"java/util/Arrays", "fill", "([II)V"⟩ jdk_65_method_103_code (4 : Nat) none).before args0 about1 = true := code_word (m := ⟨11, 5⟩) (meth := k11m5) (c := k11c5) (by decide +kernel) rfl rfl rfl (by decide +kernel)
theorem w_c29 : (Jvm.Cond.code ⟨"com/example/odograph/odograph/model/Instance", "coldStart", "()Z"⟩ prog_11_method_6_code (1 : Nat) (some .boolean)).before args0 about1 = true := code_word (m := ⟨2, 3⟩) (meth := k2m3) (c := k2c3) (by decide +kernel) rfl rfl rfl (by decide +kernel)
theorem w_c30 : (Jvm.Cond.code ⟨"java/util/BitSet", "set", "(I)V"⟩ jdk_92_method_19_code (3 : Nat) none).before args0 about1 = true := code_word (m := ⟨16, 8⟩) (meth := k16m8) (c := k16c8) (by decide +kernel) rfl rfl rfl (by decide +kernel)
theorem w_c31 : (Jvm.Cond.code ⟨"java/util/BitSet", "expandTo", "(I)V"⟩ jdk_92_method_15_code (3 : Nat) none).before args0 about1 = true := code_word (m := ⟨16, 7⟩) (meth := k16m7) (c := k16c7) (by decide +kernel) rfl rfl rfl (by decide +kernel)
theorem w_c32 : (Jvm.Cond.code ⟨"java/util/BitSet", "ensureCapacity", "(I)V"⟩ jdk_92_method_14_code (3 : Nat) none).before args0 about1 = true := code_word (m := ⟨16, 6⟩) (meth := k16m6) (c := k16c6) (by decide +kernel) rfl rfl rfl (by decide +kernel)
theorem w_c33 : (Jvm.Cond.code ⟨"java/util/BitSet", "checkInvariants", "()V"⟩ jdk_92_method_2_code (1 : Nat) none).before args0 about1 = true := code_word (m := ⟨16, 1⟩) (meth := k16m1) (c := k16c1) (by decide +kernel) rfl rfl rfl (by decide +kernel)
theorem w_c34 : (Jvm.Cond.code ⟨"com/example/odograph/odograph/online/PlacementCoveredPinLaw", "present", "(JJJJJJZ)Z"⟩ method_3_code (13 : Nat) (some .boolean)).before args0 about1 = true := code_word (m := ⟨1, 2⟩) (meth := k1m2) (c := k1c2) (by decide +kernel) rfl rfl rfl (by decide +kernel)
theorem w_c35 : (Jvm.Cond.code ⟨"com/example/odograph/odograph/online/PlacementCoveredPinLaw", "idx", "(JZZZ)I"⟩ method_4_code (6 : Nat) (some .int)).before args0 about1 = true := code_word (m := ⟨1, 3⟩) (meth := k1m3) (c := k1c3) (by decide +kernel) rfl rfl rfl (by decide +kernel)
theorem w_c36 : (Jvm.Cond.code ⟨"com/example/odograph/odograph/online/Placement", "positions", "()I"⟩ prog_22_method_2_code (1 : Nat) (some .int)).before args0 about1 = true := code_word (m := ⟨15, 1⟩) (meth := k15m1) (c := k15c1) (by decide +kernel) rfl rfl rfl (by decide +kernel)
theorem w_c37 : (Jvm.Cond.code ⟨"com/example/odograph/odograph/online/Placement", "covered", "(I)Z"⟩ prog_22_method_4_code (2 : Nat) (some .boolean)).before args0 about1 = true := code_word (m := ⟨15, 2⟩) (meth := k15m2) (c := k15c2) (by decide +kernel) rfl rfl rfl (by decide +kernel)
theorem w_c38 : (Jvm.Cond.code ⟨"com/example/odograph/odograph/online/Placement", "move", "(II)V"⟩ prog_22_method_8_code (4 : Nat) none).before args0 about1 = true := code_word (m := ⟨15, 3⟩) (meth := k15m3) (c := k15c3) (by decide +kernel) rfl rfl rfl (by decide +kernel)
theorem w_c39 : (Jvm.Cond.code ⟨"java/util/BitSet", "clear", "(I)V"⟩ jdk_92_method_23_code (3 : Nat) none).before args0 about1 = true := code_word (m := ⟨16, 9⟩) (meth := k16m9) (c := k16c9) (by decide +kernel) rfl rfl rfl (by decide +kernel)
theorem w_c40 : (Jvm.Cond.code ⟨"java/util/BitSet", "recalculateWordsInUse", "()V"⟩ jdk_92_method_3_code (2 : Nat) none).before args0 about1 = true := code_word (m := ⟨16, 2⟩) (meth := k16m2) (c := k16c2) (by decide +kernel) rfl rfl rfl (by decide +kernel)
def codes1 : List Jvm.Cond := [Jvm.Cond.code x code maxLocals ret, Jvm.Cond.code ⟨"com/example/odograph/odograph/online/PlacementCoveredPinLaw", "perm", "(I)[I"⟩ method_5_code (1 : Nat) (some (.array .int)), Jvm.Cond.code ⟨"com/example/odograph/odograph/model/Instance", "<init>", "([J[J[J)V"⟩ prog_11_method_1_code (4 : Nat) none, Jvm.Cond.code ⟨"com/example/odograph/odograph/model/Requests", "ofPoints", "([J)Lcom/example/odograph/odograph/model/Requests;"⟩ prog_13_method_3_code (3 : Nat) (some (.object "com/example/odograph/odograph/model/Requests")), Jvm.Cond.code ⟨"com/example/odograph/odograph/model/Requests", "requirePoint", "(JLjava/lang/String;)V"⟩ prog_13_method_11_code (3 : Nat) none, Jvm.Cond.code ⟨"com/example/odograph/odograph/model/Requests", "<init>", "([J[I)V"⟩ prog_13_method_1_code (3 : Nat) none, Jvm.Cond.code ⟨"java/lang/Object", "<init>", "()V"⟩ object_method_1_code (1 : Nat) none, Jvm.Cond.code ⟨"com/example/odograph/odograph/model/Instance", "<init>", "([J[JLcom/example/odograph/odograph/model/Requests;)V"⟩ prog_11_method_2_code (5 : Nat) none, Jvm.Cond.code ⟨"com/example/odograph/odograph/model/Instance", "namedPoints", "()[J"⟩ prog_11_method_14_code (3 : Nat) (some (.array .long)), Jvm.Cond.code ⟨"com/example/odograph/odograph/model/Instance", "requestedPoints", "()[J"⟩ prog_11_method_13_code (1 : Nat) (some (.array .long)), Jvm.Cond.code ⟨"com/example/odograph/odograph/model/Requests", "points", "()[J"⟩ prog_13_method_8_code (1 : Nat) (some (.array .long)), Jvm.Cond.code ⟨"com/example/odograph/odograph/model/Requests", "distinct", "([J)[J"⟩ prog_13_method_10_code (3 : Nat) (some (.array .long)), Jvm.Cond.code ⟨"com/example/odograph/odograph/model/Requests", "toSet", "([JII)I"⟩ prog_13_method_12_code (5 : Nat) (some .int), Jvm.Cond.code ⟨"java/util/Arrays", "sort", "([JII)V"⟩ jdk_65_method_5_code (3 : Nat) none, Jvm.Cond.code ⟨"java/util/Arrays", "rangeCheck", "(III)V"⟩ jdk_65_method_30_code (3 : Nat) none, Jvm.Cond.code ⟨"java/util/DualPivotQuicksort", "sort", "([JIII)V"⟩ jdk_2529_method_12_code (7 : Nat) none, Jvm.Cond.code ⟨"java/util/DualPivotQuicksort", "sort", "(Ljava/util/DualPivotQuicksort$Sorter;[JIII)V"⟩ jdk_2529_method_13_code (25 : Nat) none, Jvm.Cond.code ⟨"java/util/DualPivotQuicksort", "insertionSort", "([JII)V"⟩ jdk_2529_method_15_code (7 : Nat) none, Jvm.Cond.code ⟨"java/util/Arrays", "copyOf", "([JI)[J"⟩ jdk_65_method_124_code (3 : Nat) (some (.array .long)), Jvm.Cond.code ⟨"java/lang/Math", "min", "(II)I"⟩ jdk_29_method_69_code (2 : Nat) (some .int), Jvm.Cond.code ⟨"com/example/odograph/odograph/online/Placement", "<init>", "(Lcom/example/odograph/odograph/model/Instance;[J[I)V"⟩ prog_22_method_1_code (8 : Nat) none, Jvm.Cond.code ⟨"com/example/odograph/odograph/model/Instance", "servers", "()I"⟩ prog_11_method_3_code (1 : Nat) (some .int), Jvm.Cond.code ⟨"com/example/odograph/odograph/model/Instance", "startPositions", "([J)[I"⟩ prog_11_method_15_code (4 : Nat) (some (.array .int)), Jvm.Cond.code ⟨"java/util/Arrays", "binarySearch", "([JJ)I"⟩ jdk_65_method_54_code (3 : Nat) (some .int), Jvm.Cond.code ⟨"java/util/Arrays", "binarySearch0", "([JIIJ)I"⟩ jdk_65_method_56_code (10 : Nat) (some .int), Jvm.Cond.code ⟨"java/util/BitSet", "<init>", "(I)V"⟩ jdk_92_method_5_code (2 : Nat) none, Jvm.Cond.code ⟨"java/util/BitSet", "initWords", "(I)V"⟩ jdk_92_method_6_code (2 : Nat) none, Jvm.Cond.code ⟨"java/util/BitSet", "wordIndex", "(I)I"⟩ jdk_92_method_1_code (1 : Nat) (some .int), Jvm.Cond.code ⟨"java/util/Arrays", "fill", "([II)V"⟩ jdk_65_method_103_code (4 : Nat) none, Jvm.Cond.code ⟨"com/example/odograph/odograph/model/Instance", "coldStart", "()Z"⟩ prog_11_method_6_code (1 : Nat) (some .boolean), Jvm.Cond.code ⟨"java/util/BitSet", "set", "(I)V"⟩ jdk_92_method_19_code (3 : Nat) none, Jvm.Cond.code ⟨"java/util/BitSet", "expandTo", "(I)V"⟩ jdk_92_method_15_code (3 : Nat) none, Jvm.Cond.code ⟨"java/util/BitSet", "ensureCapacity", "(I)V"⟩ jdk_92_method_14_code (3 : Nat) none, Jvm.Cond.code ⟨"java/util/BitSet", "checkInvariants", "()V"⟩ jdk_92_method_2_code (1 : Nat) none, Jvm.Cond.code ⟨"com/example/odograph/odograph/online/PlacementCoveredPinLaw", "present", "(JJJJJJZ)Z"⟩ method_3_code (13 : Nat) (some .boolean), Jvm.Cond.code ⟨"com/example/odograph/odograph/online/PlacementCoveredPinLaw", "idx", "(JZZZ)I"⟩ method_4_code (6 : Nat) (some .int), Jvm.Cond.code ⟨"com/example/odograph/odograph/online/Placement", "positions", "()I"⟩ prog_22_method_2_code (1 : Nat) (some .int), Jvm.Cond.code ⟨"com/example/odograph/odograph/online/Placement", "covered", "(I)Z"⟩ prog_22_method_4_code (2 : Nat) (some .boolean), Jvm.Cond.code ⟨"com/example/odograph/odograph/online/Placement", "move", "(II)V"⟩ prog_22_method_8_code (4 : Nat) none, Jvm.Cond.code ⟨"java/util/BitSet", "clear", "(I)V"⟩ jdk_92_method_23_code (3 : Nat) none, Jvm.Cond.code ⟨"java/util/BitSet", "recalculateWordsInUse", "()V"⟩ jdk_92_method_3_code (2 : Nat) none]
theorem codes_eq : words1.filter isCode = codes1 := rfl
theorem w_codes : ∀ c ∈ words1.filter isCode, c.before args0 about1 = true := by
  rw [codes_eq]
  intro c hc
  simp only [codes1, List.mem_cons, List.not_mem_nil, or_false] at hc
  rcases hc with rfl | rfl | rfl | rfl | rfl | rfl | rfl | rfl | rfl | rfl | rfl | rfl | rfl | rfl | rfl | rfl | rfl | rfl | rfl | rfl | rfl | rfl | rfl | rfl | rfl | rfl | rfl | rfl | rfl | rfl | rfl | rfl | rfl | rfl | rfl | rfl | rfl | rfl | rfl | rfl | rfl
  · exact w_c0
  · exact w_c1
  · exact w_c2
  · exact w_c3
  · exact w_c4
  · exact w_c5
  · exact w_c6
  · exact w_c7
  · exact w_c8
  · exact w_c9
  · exact w_c10
  · exact w_c11
  · exact w_c12
  · exact w_c13
  · exact w_c14
  · exact w_c15
  · exact w_c16
  · exact w_c17
  · exact w_c18
  · exact w_c19
  · exact w_c20
  · exact w_c21
  · exact w_c22
  · exact w_c23
  · exact w_c24
  · exact w_c25
  · exact w_c26
  · exact w_c27
  · exact w_c28
  · exact w_c29
  · exact w_c30
  · exact w_c31
  · exact w_c32
  · exact w_c33
  · exact w_c34
  · exact w_c35
  · exact w_c36
  · exact w_c37
  · exact w_c38
  · exact w_c39
  · exact w_c40
theorem w_t1 : (words1.take 24).all (fun c => isCode c || c.before args0 about1) = true := by decide +kernel
theorem w_t2 : ((words1.drop 24).take 24).all (fun c => isCode c || c.before args0 about1) = true := by decide +kernel
theorem w_t3 : (((words1.drop 24).drop 24).take 24).all (fun c => isCode c || c.before args0 about1) = true := by decide +kernel
theorem w_t4 : ((((words1.drop 24).drop 24).drop 24).take 24).all (fun c => isCode c || c.before args0 about1) = true := by decide +kernel
theorem w_t5 : (((((words1.drop 24).drop 24).drop 24).drop 24).take 24).all (fun c => isCode c || c.before args0 about1) = true := by decide +kernel
theorem w_t6 : ((((((words1.drop 24).drop 24).drop 24).drop 24).drop 24).take 24).all (fun c => isCode c || c.before args0 about1) = true := by decide +kernel
theorem w_t7 : (((((((words1.drop 24).drop 24).drop 24).drop 24).drop 24).drop 24).take 24).all (fun c => isCode c || c.before args0 about1) = true := by decide +kernel
theorem w_t8 : ((((((((words1.drop 24).drop 24).drop 24).drop 24).drop 24).drop 24).drop 24).take 24).all (fun c => isCode c || c.before args0 about1) = true := by decide +kernel
theorem w_t9 : (((((((((words1.drop 24).drop 24).drop 24).drop 24).drop 24).drop 24).drop 24).drop 24).take 24).all (fun c => isCode c || c.before args0 about1) = true := by decide +kernel
theorem w_t10 : (((((((((words1.drop 24).drop 24).drop 24).drop 24).drop 24).drop 24).drop 24).drop 24).drop 24).all (fun c => isCode c || c.before args0 about1) = true := by decide +kernel
theorem w_tables : (allAtoms (Jvm.Cond.code x code maxLocals ret :: tables_1)).before args0 about1 = true := by
  rw [allAtoms_all]
  show words1.all (fun c => c.before args0 about1) = true
  refine all_split ?_ w_codes
  rw [← List.take_append_drop 24 words1, List.all_append, w_t1, ← List.take_append_drop 24 (words1.drop 24), List.all_append, w_t2, ← List.take_append_drop 24 ((words1.drop 24).drop 24), List.all_append, w_t3, ← List.take_append_drop 24 (((words1.drop 24).drop 24).drop 24), List.all_append, w_t4, ← List.take_append_drop 24 ((((words1.drop 24).drop 24).drop 24).drop 24), List.all_append, w_t5, ← List.take_append_drop 24 (((((words1.drop 24).drop 24).drop 24).drop 24).drop 24), List.all_append, w_t6, ← List.take_append_drop 24 ((((((words1.drop 24).drop 24).drop 24).drop 24).drop 24).drop 24), List.all_append, w_t7, ← List.take_append_drop 24 (((((((words1.drop 24).drop 24).drop 24).drop 24).drop 24).drop 24).drop 24), List.all_append, w_t8, ← List.take_append_drop 24 ((((((((words1.drop 24).drop 24).drop 24).drop 24).drop 24).drop 24).drop 24).drop 24), List.all_append, w_t9, w_t10]
  rfl
theorem w_rest : rest_1_c.before args0 about1 = true := by decide +kernel
theorem w_case : (Jvm.Cond.and given_1 narrow_1).before args0 about1 = true := by decide +kernel
theorem w_applies : (headSpec (Jvm.Cond.code x code maxLocals ret :: tables_1) room_1).applies x e0.platform about1 = true :=
  (Spec.applies_iff w_frames).mpr ⟨w_running, w_runnable, w_alone, w_named, w_hears, w_ripe, w_room, w_tables⟩
theorem atStart : AtStart classFile x code maxLocals ret World_1 tables_1 room_1 Calls_1 rest_1 Pre_1 launch0 p0 e0 about1 theMethod args0 below0 :=
  ⟨lists_1, trivial, launch0.admits_env _ _ _, launch0.least_env, fairChoices_fair.cas, fairChoices_fair.clock, w_frames, w_args, w_heap, w_applies, trivial, w_rest, w_case⟩
end start1
theorem witness_1 : WitnessClaimed_1 := ⟨start1.p0, start1.e0, start1.about1, start1.theMethod, start1.args0, start1.below0, start1.atStart⟩
end Jvm.Pilot.@@N@@
