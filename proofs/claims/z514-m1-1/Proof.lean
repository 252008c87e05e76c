import JvmDerived
import JvmDerived.Pilot.@@N@@Statement
import JvmDerived.Pilot.@@N@@Code
set_option linter.unusedVariables false
set_option linter.unusedSimpArgs false
namespace Jvm.Wk
open Sem ClassFile Op Lib Jvm.Stand Jvm.Free Jvm.LawKit Jvm.RoadKit
/-- a boolean as an int -/
def b2 (P : Prop) [Decidable P] : Int32 := if P then 1 else 0
theorem b2_t {P : Prop} [Decidable P] (h : P) : b2 P = 1 := if_pos h
theorem b2_f {P : Prop} [Decidable P] (h : ¬ P) : b2 P = 0 := if_neg h
theorem b2_01 (P : Prop) [Decidable P] : b2 P = 0 ∨ b2 P = 1 := by by_cases h : P <;> simp [b2, h]
theorem b2_congr {P P' : Prop} [Decidable P] [Decidable P'] (h : P ↔ P') : b2 P = b2 P' := by simp only [b2, h]
theorem b2_int (P : Prop) [Decidable P] : (b2 P).toInt = if P then 1 else 0 := by by_cases h : P <;> simp [b2, h]
theorem b2_ne0 (P : Prop) [Decidable P] : (b2 P).toInt ≠ 0 ↔ P := by by_cases h : P <;> simp [b2, h]
theorem b2_eq0 (P : Prop) [Decidable P] : (b2 P).toInt = 0 ↔ ¬ P := by by_cases h : P <;> simp [b2, h]
theorem b2_inj (P P' : Prop) [Decidable P] [Decidable P'] : (b2 P).toInt = (b2 P').toInt ↔ (P ↔ P') := by by_cases h : P <;> by_cases h' : P' <;> simp [b2, h, h']
theorem eqI {x y : Int32} (h : x.toInt = y.toInt) : x = y := Int32.toInt_inj.mp h
theorem eqL {x y : Int64} (h : x.toInt = y.toInt) : x = y := Int64.toInt_inj.mp h
/-- from the frame f, with the heap h and so many cells and slots made, the body ends as Q says -/
def Go (p : Program) (l : Launch) (e : Env) (R : Room) (s : State) (m : MethodId) (args : Array Value) (below : List Frame) (meth : Method) (c : Code) (n0 : Nat) (Q : Option Value → Heap → Prop) (h : Heap) (kc ks : Nat) (f : JFrame) : Prop :=
  ∀ (T : State) (locs : List Loc), Stand p l e R s m args below meth c T locs kc ks → T.heap = h → Fr n0 locs →
    ∃ s₂ o, Steps p.tables e below (T.setTop f) s₂ ∧ s₂.status = .running ∧ Ended s₂ below o ∧ ∃ v L, o = .returned v ∧ (Q v s₂.heap ∧ Fr n0 L) ∧ FrameEnd s o s₂ L R.cells R.slots
/-- the ambient of a body's walk, hidden behind G -/
def Cx (l : Launch) (R : Room) (Z : State) (n0 : Nat) (Q : Option Value → Heap → Prop) (own nm : String) (bytes : ByteArray) (maxL : Nat) (ret : Option FieldType) (m : MethodId) (G : Heap → Nat → Nat → JFrame → Prop) : Prop :=
  ∃ (p : Program) (e : Env) (s : State) (args : Array Value) (below : List Frame) (meth : Method) (c : Code), G = Go p l e R s m args below meth c n0 Q ∧ p.tables.exec = Jvm.exec ∧ c.code = bytes ∧ c.maxLocals = maxL ∧ s.vm.findClass own = some m.cls ∧ Z.Warmed39 s.vm ∧ meth.sig.returnType = ret ∧ meth.locks = false ∧ meth.name = nm
/-- the contract of a body, asked with these arguments at this heap -/
def MeetsW (l : Launch) (Z : State) (n0 : Nat) (y : MethodName) (bytes : ByteArray) (maxL : Nat) (ret : Option FieldType) (rm : Room) (as' : Array Value) (h0 : Heap) (Q : Option Value → Heap → Prop) : Prop :=
  ∀ ws : List Cond, MetFree l y (head1 (Cond.code y bytes maxL ret :: ws) rm) (fun a U => a = as' ∧ Z.Warmed39 U.vm ∧ U.heap = h0) (fun _ _ _ _ _ => True) (fun _ U o U' => ∃ v L, o = .returned v ∧ (Q v U'.heap ∧ Fr n0 L) ∧ FrameEnd U o U' L rm.cells rm.slots)
/-- an array with just these values -/
def Ary (Z : State) (h : Heap) (a : Addr) (ty : FieldType) (vs : List Value) : Prop := ∃ c : Cell, Arr Z h a c ty ∧ c.slots.toList = vs ∧ vs.length < 2 ^ 31
section Facts
variable {Z : State} {h h' : Heap} {a b : Addr} {ty : FieldType} {vs : List Value} {v : Value} {sl : Nat} {ws : List Addr}
theorem Ary.lt (A : Ary Z h a ty vs) : a < h.size := by obtain ⟨c, A, -⟩ := A; exact A.lt
theorem Ary.ext (A : Ary Z h a ty vs) (E : Ext h h') : Ary Z h' a ty vs := by obtain ⟨c, A, r⟩ := A; exact ⟨c, A.ext E, r⟩
theorem Ary.other (A : Ary Z h b ty vs) (W : Wr h h' a sl v) (q : b ≠ a) : Ary Z h' b ty vs := by obtain ⟨c, A, r⟩ := A; exact ⟨c, A.other W q, r⟩
theorem Ary.keep (A : Ary Z h a ty vs) (K : Keep h h' ws) (q : a ∉ ws) : Ary Z h' a ty vs := by obtain ⟨c, A, r⟩ := A; exact ⟨c, ⟨K.2.1 a c A.1 q, A.2⟩, r⟩
theorem Ary.same (A : Ary Z h a ty vs) (W : Wr h h' a sl v) : Ary Z h' a ty (vs.set sl v) := by
  obtain ⟨c, A, r, r'⟩ := A
  refine ⟨_, A.same W, ?_, by rw [List.length_set]; exact r'⟩
  show (c.slots.setIfInBounds sl v).toList = _
  rw [Array.toList_setIfInBounds, r]
theorem clamp_of {j : Int32} {i : Nat} (hj : j.toInt = i) : j.toNatClampNeg = i := by simp only [Int32.toNatClampNeg, hj]; rfl
theorem in_of {c : Cell} {j : Int32} {i : Nat} (hj : j.toInt = i) (hi : i < c.slots.toList.length) : ¬ (j < 0 ∨ c.slots.size ≤ j.toNatClampNeg) := by
  rw [clamp_of hj]
  have h0 : ¬ j < 0 := by rw [Int32.lt_iff_toInt_lt, hj, show (0 : Int32).toInt = 0 from rfl]; omega
  rw [Array.length_toList] at hi
  intro q; rcases q with q | q
  · exact h0 q
  · omega
theorem at_of {c : Cell} {j : Int32} {i : Nat} {v : Value} (hj : j.toInt = i) (hv : c.slots.toList[i]? = some v) : c.slots[j.toNatClampNeg]? = some v := by
  rw [clamp_of hj, ← Array.getElem?_toList]; exact hv
theorem len_int {n : Nat} (h : n < 2 ^ 31) : n.toInt32.toInt = n := len_toInt h
theorem nar_byte_of {x : Int32} (h : -128 ≤ x.toInt ∧ x.toInt < 128) : nar .byte x = x := by
  apply Int32.toInt_inj.mp
  have q := c_i2b x
  show x.toInt8.toInt32.toInt = _
  omega
theorem nar_char_of {x : Int32} (h : 0 ≤ x.toInt ∧ x.toInt < 65536) : nar .char x = x := by
  apply Int32.toInt_inj.mp
  have q := c_i2c x
  show x.toUInt32.toUInt16.toUInt32.toInt32.toInt = _
  omega
theorem Ary.toArv {d : Value} (A : Ary Z h a ty vs) (hf : ∀ v ∈ vs, fits ty v = true) (hd : fits ty d = true) : ∃ (k : ClassId) (z : Int32), z.toInt = ((vs.length : Nat) : Int) ∧ Arv Z h a k ty z vs d := by
  obtain ⟨c, Ar, rfl, hlt⟩ := A
  have hl : c.slots.size < 2 ^ 31 := by rwa [Array.length_toList] at hlt
  refine ⟨c.cls, c.slots.size.toInt32, by rw [Array.length_toList]; exact len_int hl, c, Ar, rfl, by rw [clamp_of (len_int hl)], ?_, ?_, ?_⟩
  · rw [Int32.lt_iff_toInt_lt, len_int hl, show (0 : Int32).toInt = 0 from rfl]; omega
  · intro k hk; simp [List.getD_eq_getElem?_getD, hk]
  · intro i hi
    have q : c.slots.toList.getD i d = c.slots[i] := by simp [List.getD_eq_getElem?_getD, hi]
    rw [q]; exact hf _ (by simp)
theorem Arv.toAry {d : Value} {k : ClassId} {z : Int32} (F : Arv Z h a k ty z vs d) (hz : z.toInt = (vs.length : Nat)) : Ary Z h a ty vs := by
  obtain ⟨c, Ar, -, S, -, H, -⟩ := F
  rw [clamp_of hz] at S
  refine ⟨c, Ar, ?_, by have := z.toInt_lt; omega⟩
  apply List.ext_getElem?
  intro i
  by_cases hi : i < c.slots.size
  · rw [Array.getElem?_toList, H i hi, List.getD_eq_getElem?_getD]
    have hi' : i < vs.length := by omega
    simp [hi']
  · rw [List.getElem?_eq_none (by rw [Array.length_toList]; omega), List.getElem?_eq_none (by omega)]
theorem Fld.keepO {C n d : String} (F : Fld Z h a C n d v) (K : Keep h h' ws) (q : a ∉ ws) : Fld Z h' a C n d v := F.keep K q
theorem Keep.of_ext (E : Ext h h') : Keep h h' ws := (Keep.refl h ws).ext E
end Facts
section Steps
variable {l : Launch} {R : Room} {Z : State} {n0 : Nat} {Q : Option Value → Heap → Prop} {own nm : String} {bytes : ByteArray} {maxL : Nat} {ret : Option FieldType} {m : MethodId} {G : Heap → Nat → Nat → JFrame → Prop} {h : Heap} {kc ks pc pc' pc1 pc2 : Nat} {L L' : Array Slot} {S : List Value} {a0 : Array Value}
theorem MeetsW.intro {y : MethodName} {rm : Room} {as' : Array Value} {h0 : Heap} (hpl : plainFor y = true) {L0 : Array Slot} (hef : ∀ m, entryFrame m as' maxL = mkF m 0 L0 [])
    (body : ∀ m G, Cx l rm Z n0 Q y.cls y.name bytes maxL ret m G → G h0 0 0 (mkF m 0 L0 [])) : MeetsW l Z n0 y bytes maxL ret rm as' h0 Q := by
  intro ws
  refine MetFree.of_bodySF hpl hisR ?_
  intro p e s m args below meth c s₁ Bd hml0 hP hK
  obtain ⟨rfl, hZ, hh⟩ := hP
  have hnm := (name_of_methodNamed Bd.named Bd.method).1
  have X0 : Stand p l e rm s m args below meth c s₁ [] 0 0 := Stand.of_body Bd
  have e0 : s₁.heap = h0 := by rw [← hh, Bd.state]; rfl
  have q := body m _ ⟨p, e, s, args, below, meth, c, rfl, Bd.exec, Bd.bytes, hml0, findClass_of_methodNamed Bd.named, hZ, Bd.returns, Bd.notSynchronized, hnm⟩ s₁ [] X0 e0 (Fr.nil n0)
  rw [hef]; exact q
theorem Cx.step (K : Cx l R Z n0 Q own nm bytes maxL ret m G) {f f' : JFrame}
    (hs : ∀ (p : Program) (e : Env) (below : List Frame) (T : State) (c : Code), At T m c below → p.tables.exec = Jvm.exec → c.code = bytes → ∀ t, Steps p.tables e below (T.setTop f') t → Steps p.tables e below (T.setTop f) t)
    (hr : G h kc ks f') : G h kc ks f := by
  obtain ⟨p, e, s, args, below, meth, c, rfl, hx, hby, hml, hown, hZ, hret, hlk, hn⟩ := K
  intro T locs X eT N
  obtain ⟨s₂, o, h1, h2⟩ := hr T locs X eT N
  exact ⟨s₂, o, hs p e below T c X.here hx hby _ h1, h2⟩
theorem Cx.stepX (K : Cx l R Z n0 Q own nm bytes maxL ret m G) {f f' : JFrame} {h' : Heap}
    (hs : ∀ (p : Program) (e : Env) (s : State) (args : Array Value) (below : List Frame) (meth : Method) (c : Code) (T : State) (locs : List Loc), Stand p l e R s m args below meth c T locs kc ks → T.heap = h → p.tables.exec = Jvm.exec → c.code = bytes → s.vm.findClass own = some m.cls → Z.Warmed39 s.vm → ∃ T', Stand p l e R s m args below meth c T' locs kc ks ∧ T'.heap = h ∧ ∀ t, Steps p.tables e below (T'.setTop f') t → Steps p.tables e below (T.setTop f) t)
    (hr : G h kc ks f') : G h kc ks f := by
  obtain ⟨p, e, s, args, below, meth, c, rfl, hx, hby, hml, hown, hZ, hret, hlk, hn⟩ := K
  intro T locs X eT N
  obtain ⟨T', X', e', st⟩ := hs p e s args below meth c T locs X eT hx hby hown hZ
  obtain ⟨s₂, o, h1, h2⟩ := hr T' locs X' e' N
  exact ⟨s₂, o, st _ h1, h2⟩
theorem Cx.cast (K : Cx l R Z n0 Q own nm bytes maxL ret m G) {f f' : JFrame} (q : f = f') (hr : G h kc ks f') : G h kc ks f := q ▸ hr
theorem Cx.iloadN (K : Cx l R Z n0 Q own nm bytes maxL ret m G) {k : Fin 4} {v : Int32} (hd : decode bytes pc = .ok (.iload_n k, 1)) (hp : pc + 1 = pc') (hl : L[k.val]? = some (.val (.int v))) (hr : G h kc ks (mkF m pc' L (.int v :: S))) : G h kc ks (mkF m pc L (S)) := by
  subst hp
  exact K.step (fun p e below T c h hx hb0 t hr => XS.iloadN h hx rfl (hb hb0 hd) hl hr) hr
theorem Cx.iload (K : Cx l R Z n0 Q own nm bytes maxL ret m G) {k : Nat} {v : Int32} (hd : decode bytes pc = .ok (.iload k, 2)) (hp : pc + 2 = pc') (hl : L[k]? = some (.val (.int v))) (hr : G h kc ks (mkF m pc' L (.int v :: S))) : G h kc ks (mkF m pc L (S)) := by
  subst hp
  exact K.step (fun p e below T c h hx hb0 t hr => XS.iload h hx rfl (hb hb0 hd) hl hr) hr
theorem Cx.istoreN (K : Cx l R Z n0 Q own nm bytes maxL ret m G) {k : Fin 4} {x : Int32} (hd : decode bytes pc = .ok (.istore_n k, 1)) (hp : pc + 1 = pc') (hl : storeLocals L k.val (.int x) = some L') (hr : G h kc ks (mkF m pc' L' (S))) : G h kc ks (mkF m pc L (.int x :: S)) := by
  subst hp
  exact K.step (fun p e below T c h hx hb0 t hr => XS.istoreN h hx rfl (hb hb0 hd) rfl hl hr) hr
theorem Cx.istore (K : Cx l R Z n0 Q own nm bytes maxL ret m G) {k : Nat} {x : Int32} (hd : decode bytes pc = .ok (.istore k, 2)) (hp : pc + 2 = pc') (hl : storeLocals L k (.int x) = some L') (hr : G h kc ks (mkF m pc' L' (S))) : G h kc ks (mkF m pc L (.int x :: S)) := by
  subst hp
  exact K.step (fun p e below T c h hx hb0 t hr => XS.istore h hx rfl (hb hb0 hd) rfl hl hr) hr
theorem Cx.lloadN (K : Cx l R Z n0 Q own nm bytes maxL ret m G) {k : Fin 4} {v : Int64} (hd : decode bytes pc = .ok (.lload_n k, 1)) (hp : pc + 1 = pc') (hl : L[k.val]? = some (.val (.long v))) (hr : G h kc ks (mkF m pc' L (.long v :: S))) : G h kc ks (mkF m pc L (S)) := by
  subst hp
  exact K.step (fun p e below T c h hx hb0 t hr => XS.lloadN h hx rfl (hb hb0 hd) hl hr) hr
theorem Cx.lload (K : Cx l R Z n0 Q own nm bytes maxL ret m G) {k : Nat} {v : Int64} (hd : decode bytes pc = .ok (.lload k, 2)) (hp : pc + 2 = pc') (hl : L[k]? = some (.val (.long v))) (hr : G h kc ks (mkF m pc' L (.long v :: S))) : G h kc ks (mkF m pc L (S)) := by
  subst hp
  exact K.step (fun p e below T c h hx hb0 t hr => XS.lload h hx rfl (hb hb0 hd) hl hr) hr
theorem Cx.lstoreN (K : Cx l R Z n0 Q own nm bytes maxL ret m G) {k : Fin 4} {x : Int64} (hd : decode bytes pc = .ok (.lstore_n k, 1)) (hp : pc + 1 = pc') (hl : storeLocals L k.val (.long x) = some L') (hr : G h kc ks (mkF m pc' L' (S))) : G h kc ks (mkF m pc L (.long x :: S)) := by
  subst hp
  exact K.step (fun p e below T c h hx hb0 t hr => XS.lstoreN h hx rfl (hb hb0 hd) rfl hl hr) hr
theorem Cx.lstore (K : Cx l R Z n0 Q own nm bytes maxL ret m G) {k : Nat} {x : Int64} (hd : decode bytes pc = .ok (.lstore k, 2)) (hp : pc + 2 = pc') (hl : storeLocals L k (.long x) = some L') (hr : G h kc ks (mkF m pc' L' (S))) : G h kc ks (mkF m pc L (.long x :: S)) := by
  subst hp
  exact K.step (fun p e below T c h hx hb0 t hr => XS.lstore h hx rfl (hb hb0 hd) rfl hl hr) hr
theorem Cx.aloadN (K : Cx l R Z n0 Q own nm bytes maxL ret m G) {k : Fin 4} {v : Value} (hd : decode bytes pc = .ok (.aload_n k, 1)) (hp : pc + 1 = pc') (hl : L[k.val]? = some (.val v)) (hv : v.isRef = true) (hr : G h kc ks (mkF m pc' L (v :: S))) : G h kc ks (mkF m pc L (S)) := by
  subst hp
  exact K.step (fun p e below T c h hx hb0 t hr => XS.aloadN h hx rfl (hb hb0 hd) hl hv hr) hr
theorem Cx.aload (K : Cx l R Z n0 Q own nm bytes maxL ret m G) {k : Nat} {v : Value} (hd : decode bytes pc = .ok (.aload k, 2)) (hp : pc + 2 = pc') (hl : L[k]? = some (.val v)) (hv : v.isRef = true) (hr : G h kc ks (mkF m pc' L (v :: S))) : G h kc ks (mkF m pc L (S)) := by
  subst hp
  exact K.step (fun p e below T c h hx hb0 t hr => XS.aload h hx rfl (hb hb0 hd) hl hv hr) hr
theorem Cx.astoreN (K : Cx l R Z n0 Q own nm bytes maxL ret m G) {k : Fin 4} {x : Value} (hd : decode bytes pc = .ok (.astore_n k, 1)) (hp : pc + 1 = pc') (hv : x.isRef = true) (hl : storeLocals L k.val x = some L') (hr : G h kc ks (mkF m pc' L' (S))) : G h kc ks (mkF m pc L (x :: S)) := by
  subst hp
  exact K.step (fun p e below T c h hx hb0 t hr => XS.astoreN h hx rfl (hb hb0 hd) rfl hv hl hr) hr
theorem Cx.astore (K : Cx l R Z n0 Q own nm bytes maxL ret m G) {k : Nat} {x : Value} (hd : decode bytes pc = .ok (.astore k, 2)) (hp : pc + 2 = pc') (hv : x.isRef = true) (hl : storeLocals L k x = some L') (hr : G h kc ks (mkF m pc' L' (S))) : G h kc ks (mkF m pc L (x :: S)) := by
  subst hp
  exact K.step (fun p e below T c h hx hb0 t hr => XS.astore h hx rfl (hb hb0 hd) rfl hv hl hr) hr
theorem Cx.dloadN (K : Cx l R Z n0 Q own nm bytes maxL ret m G) {k : Fin 4} {v : UInt64} (hd : decode bytes pc = .ok (.dload_n k, 1)) (hp : pc + 1 = pc') (hl : L[k.val]? = some (.val (.double v))) (hr : G h kc ks (mkF m pc' L (.double v :: S))) : G h kc ks (mkF m pc L (S)) := by
  subst hp
  exact K.step (fun p e below T c h hx hb0 t hr => XS.dloadN h hx rfl (hb hb0 hd) hl hr) hr
theorem Cx.dload (K : Cx l R Z n0 Q own nm bytes maxL ret m G) {k : Nat} {v : UInt64} (hd : decode bytes pc = .ok (.dload k, 2)) (hp : pc + 2 = pc') (hl : L[k]? = some (.val (.double v))) (hr : G h kc ks (mkF m pc' L (.double v :: S))) : G h kc ks (mkF m pc L (S)) := by
  subst hp
  exact K.step (fun p e below T c h hx hb0 t hr => XS.dload h hx rfl (hb hb0 hd) hl hr) hr
theorem Cx.dstoreN (K : Cx l R Z n0 Q own nm bytes maxL ret m G) {k : Fin 4} {x : UInt64} (hd : decode bytes pc = .ok (.dstore_n k, 1)) (hp : pc + 1 = pc') (hl : storeLocals L k.val (.double x) = some L') (hr : G h kc ks (mkF m pc' L' (S))) : G h kc ks (mkF m pc L (.double x :: S)) := by
  subst hp
  exact K.step (fun p e below T c h hx hb0 t hr => XS.dstoreN h hx rfl (hb hb0 hd) rfl hl hr) hr
theorem Cx.dstore (K : Cx l R Z n0 Q own nm bytes maxL ret m G) {k : Nat} {x : UInt64} (hd : decode bytes pc = .ok (.dstore k, 2)) (hp : pc + 2 = pc') (hl : storeLocals L k (.double x) = some L') (hr : G h kc ks (mkF m pc' L' (S))) : G h kc ks (mkF m pc L (.double x :: S)) := by
  subst hp
  exact K.step (fun p e below T c h hx hb0 t hr => XS.dstore h hx rfl (hb hb0 hd) rfl hl hr) hr
theorem Cx.dconst0 (K : Cx l R Z n0 Q own nm bytes maxL ret m G) {z : UInt64} (hd : decode bytes pc = .ok (.dconst 0, 1)) (hp : pc + 1 = pc') (hz : FP.dconst0 = z) (hr : G h kc ks (mkF m pc' L (.double z :: S))) : G h kc ks (mkF m pc L (S)) := by
  subst hp hz
  exact K.step (fun p e below T c h hx hb0 t hr => XS.dconst0 h hx rfl (hb hb0 hd) rfl hr) hr
theorem Cx.dconst1 (K : Cx l R Z n0 Q own nm bytes maxL ret m G) {z : UInt64} (hd : decode bytes pc = .ok (.dconst 1, 1)) (hp : pc + 1 = pc') (hz : FP.dconst1 = z) (hr : G h kc ks (mkF m pc' L (.double z :: S))) : G h kc ks (mkF m pc L (S)) := by
  subst hp hz
  exact K.step (fun p e below T c h hx hb0 t hr => XS.dconst1 h hx rfl (hb hb0 hd) rfl hr) hr
theorem Cx.i2d (K : Cx l R Z n0 Q own nm bytes maxL ret m G) {x : Int32} {z : UInt64} (hd : decode bytes pc = .ok (.i2d, 1)) (hp : pc + 1 = pc') (hz : FP.i2d x = z) (hr : G h kc ks (mkF m pc' L (.double z :: S))) : G h kc ks (mkF m pc L (.int x :: S)) := by
  subst hp hz
  exact K.step (fun p e below T c h hx hb0 t hr => XS.i2dS h hx rfl (hb hb0 hd) rfl rfl hr) hr
theorem Cx.l2d (K : Cx l R Z n0 Q own nm bytes maxL ret m G) {x : Int64} {z : UInt64} (hd : decode bytes pc = .ok (.l2d, 1)) (hp : pc + 1 = pc') (hz : FP.l2d x = z) (hr : G h kc ks (mkF m pc' L (.double z :: S))) : G h kc ks (mkF m pc L (.long x :: S)) := by
  subst hp hz
  exact K.step (fun p e below T c h hx hb0 t hr => XS.l2dS h hx rfl (hb hb0 hd) rfl rfl hr) hr
theorem Cx.d2l (K : Cx l R Z n0 Q own nm bytes maxL ret m G) {x : UInt64} {z : Int64} (hd : decode bytes pc = .ok (.d2l, 1)) (hp : pc + 1 = pc') (hz : FP.d2l x = z) (hr : G h kc ks (mkF m pc' L (.long z :: S))) : G h kc ks (mkF m pc L (.double x :: S)) := by
  subst hp hz
  exact K.step (fun p e below T c h hx hb0 t hr => XS.d2lS h hx rfl (hb hb0 hd) rfl rfl hr) hr
theorem Cx.dadd (K : Cx l R Z n0 Q own nm bytes maxL ret m G) {x y z : UInt64} (hd : decode bytes pc = .ok (.dadd, 1)) (hp : pc + 1 = pc') (hn : Jvm.Free.Fl.NoNaN64 (FP.dadd x y)) (hz : FP.dadd x y = z) (hr : G h kc ks (mkF m pc' L (.double z :: S))) : G h kc ks (mkF m pc L (.double y :: .double x :: S)) := by
  subst hp hz
  exact K.step (fun p e below T c h hx hb0 t hr => XS.daddS h hx rfl (hb hb0 hd) rfl hn rfl hr) hr
theorem Cx.dmul (K : Cx l R Z n0 Q own nm bytes maxL ret m G) {x y z : UInt64} (hd : decode bytes pc = .ok (.dmul, 1)) (hp : pc + 1 = pc') (hn : Jvm.Free.Fl.NoNaN64 (FP.dmul x y)) (hz : FP.dmul x y = z) (hr : G h kc ks (mkF m pc' L (.double z :: S))) : G h kc ks (mkF m pc L (.double y :: .double x :: S)) := by
  subst hp hz
  exact K.step (fun p e below T c h hx hb0 t hr => XS.dmulS h hx rfl (hb hb0 hd) rfl hn rfl hr) hr
theorem Cx.ddiv (K : Cx l R Z n0 Q own nm bytes maxL ret m G) {x y z : UInt64} (hd : decode bytes pc = .ok (.ddiv, 1)) (hp : pc + 1 = pc') (hn : Jvm.Free.Fl.NoNaN64 (FP.ddiv x y)) (hz : FP.ddiv x y = z) (hr : G h kc ks (mkF m pc' L (.double z :: S))) : G h kc ks (mkF m pc L (.double y :: .double x :: S)) := by
  subst hp hz
  exact K.step (fun p e below T c h hx hb0 t hr => XS.ddivS h hx rfl (hb hb0 hd) rfl hn rfl hr) hr
theorem Cx.dsub (K : Cx l R Z n0 Q own nm bytes maxL ret m G) {x y z : UInt64} (hd : decode bytes pc = .ok (.dsub, 1)) (hp : pc + 1 = pc') (hn : Jvm.Free.Fl.NoNaN64 (FP.dsub x y)) (hz : FP.dsub x y = z) (hr : G h kc ks (mkF m pc' L (.double z :: S))) : G h kc ks (mkF m pc L (.double y :: .double x :: S)) := by
  subst hp hz
  exact K.step (fun p e below T c h hx hb0 t hr => XS.dsubS h hx rfl (hb hb0 hd) rfl hn rfl hr) hr
theorem Cx.dcmp (K : Cx l R Z n0 Q own nm bytes maxL ret m G) {o : CmpOp} {x y : UInt64} {z : Int32} (hd : decode bytes pc = .ok (.dcmp o, 1)) (hp : pc + 1 = pc') (hz : cmpValue (FP.dcmp x y) o = z) (hr : G h kc ks (mkF m pc' L (.int z :: S))) : G h kc ks (mkF m pc L (.double y :: .double x :: S)) := by
  subst hp hz
  exact K.step (fun p e below T c h hx hb0 t hr => XS.dcmpS h hx rfl (hb hb0 hd) rfl rfl hr) hr
theorem Cx.iconst (K : Cx l R Z n0 Q own nm bytes maxL ret m G) {i : Int} {z : Int32} (hd : decode bytes pc = .ok (.iconst i, 1)) (hp : pc + 1 = pc') (hz : Int32.ofInt i = z) (hr : G h kc ks (mkF m pc' L (.int z :: S))) : G h kc ks (mkF m pc L (S)) := by
  subst hp hz
  exact K.step (fun p e below T c h hx hb0 t hr => XS.iconst h hx rfl (hb hb0 hd) hr) hr
theorem Cx.bipush (K : Cx l R Z n0 Q own nm bytes maxL ret m G) {i : Int} {z : Int32} (hd : decode bytes pc = .ok (.bipush i, 2)) (hp : pc + 2 = pc') (hz : (Int8.ofInt i).toInt32 = z) (hr : G h kc ks (mkF m pc' L (.int z :: S))) : G h kc ks (mkF m pc L (S)) := by
  subst hp hz
  exact K.step (fun p e below T c h hx hb0 t hr => XS.bipush h hx rfl (hb hb0 hd) hr) hr
theorem Cx.sipush (K : Cx l R Z n0 Q own nm bytes maxL ret m G) {i : Int} {z : Int32} (hd : decode bytes pc = .ok (.sipush i, 3)) (hp : pc + 3 = pc') (hz : (Int16.ofInt i).toInt32 = z) (hr : G h kc ks (mkF m pc' L (.int z :: S))) : G h kc ks (mkF m pc L (S)) := by
  subst hp hz
  exact K.step (fun p e below T c h hx hb0 t hr => XS.sipush h hx rfl (hb hb0 hd) hr) hr
theorem Cx.lconst (K : Cx l R Z n0 Q own nm bytes maxL ret m G) {k : Fin 2} {z : Int64} (hd : decode bytes pc = .ok (.lconst k, 1)) (hp : pc + 1 = pc') (hz : Int64.ofNat k = z) (hr : G h kc ks (mkF m pc' L (.long z :: S))) : G h kc ks (mkF m pc L (S)) := by
  subst hp hz
  exact K.step (fun p e below T c h hx hb0 t hr => XS.lconst h hx rfl (hb hb0 hd) hr) hr
theorem Cx.anull (K : Cx l R Z n0 Q own nm bytes maxL ret m G) (hd : decode bytes pc = .ok (.aconst_null, 1)) (hp : pc + 1 = pc')  (hr : G h kc ks (mkF m pc' L (.null :: S))) : G h kc ks (mkF m pc L (S)) := by
  subst hp
  exact K.step (fun p e below T c h hx hb0 t hr => XS.aconstNull h hx rfl (hb hb0 hd) hr) hr
theorem Cx.iadd (K : Cx l R Z n0 Q own nm bytes maxL ret m G) {x y z : Int32} (hd : decode bytes pc = .ok (.iadd, 1)) (hp : pc + 1 = pc') (hz : x + y = z) (hr : G h kc ks (mkF m pc' L (.int z :: S))) : G h kc ks (mkF m pc L (.int y :: .int x :: S)) := by
  subst hp hz
  exact K.step (fun p e below T c h hx hb0 t hr => XS.iadd h hx rfl (hb hb0 hd) rfl hr) hr
theorem Cx.ladd (K : Cx l R Z n0 Q own nm bytes maxL ret m G) {x y z : Int64} (hd : decode bytes pc = .ok (.ladd, 1)) (hp : pc + 1 = pc') (hz : x + y = z) (hr : G h kc ks (mkF m pc' L (.long z :: S))) : G h kc ks (mkF m pc L (.long y :: .long x :: S)) := by
  subst hp hz
  exact K.step (fun p e below T c h hx hb0 t hr => XS.ladd h hx rfl (hb hb0 hd) rfl hr) hr
theorem Cx.isub (K : Cx l R Z n0 Q own nm bytes maxL ret m G) {x y z : Int32} (hd : decode bytes pc = .ok (.isub, 1)) (hp : pc + 1 = pc') (hz : x - y = z) (hr : G h kc ks (mkF m pc' L (.int z :: S))) : G h kc ks (mkF m pc L (.int y :: .int x :: S)) := by
  subst hp hz
  exact K.step (fun p e below T c h hx hb0 t hr => XS.isub h hx rfl (hb hb0 hd) rfl hr) hr
theorem Cx.lsub (K : Cx l R Z n0 Q own nm bytes maxL ret m G) {x y z : Int64} (hd : decode bytes pc = .ok (.lsub, 1)) (hp : pc + 1 = pc') (hz : x - y = z) (hr : G h kc ks (mkF m pc' L (.long z :: S))) : G h kc ks (mkF m pc L (.long y :: .long x :: S)) := by
  subst hp hz
  exact K.step (fun p e below T c h hx hb0 t hr => XS.lsub h hx rfl (hb hb0 hd) rfl hr) hr
theorem Cx.imul (K : Cx l R Z n0 Q own nm bytes maxL ret m G) {x y z : Int32} (hd : decode bytes pc = .ok (.imul, 1)) (hp : pc + 1 = pc') (hz : x * y = z) (hr : G h kc ks (mkF m pc' L (.int z :: S))) : G h kc ks (mkF m pc L (.int y :: .int x :: S)) := by
  subst hp hz
  exact K.step (fun p e below T c h hx hb0 t hr => XS.imul h hx rfl (hb hb0 hd) rfl hr) hr
theorem Cx.lmul (K : Cx l R Z n0 Q own nm bytes maxL ret m G) {x y z : Int64} (hd : decode bytes pc = .ok (.lmul, 1)) (hp : pc + 1 = pc') (hz : x * y = z) (hr : G h kc ks (mkF m pc' L (.long z :: S))) : G h kc ks (mkF m pc L (.long y :: .long x :: S)) := by
  subst hp hz
  exact K.step (fun p e below T c h hx hb0 t hr => XS.lmul h hx rfl (hb hb0 hd) rfl hr) hr
theorem Cx.iand (K : Cx l R Z n0 Q own nm bytes maxL ret m G) {x y z : Int32} (hd : decode bytes pc = .ok (.iand, 1)) (hp : pc + 1 = pc') (hz : x &&& y = z) (hr : G h kc ks (mkF m pc' L (.int z :: S))) : G h kc ks (mkF m pc L (.int y :: .int x :: S)) := by
  subst hp hz
  exact K.step (fun p e below T c h hx hb0 t hr => XS.iand h hx rfl (hb hb0 hd) rfl hr) hr
theorem Cx.land (K : Cx l R Z n0 Q own nm bytes maxL ret m G) {x y z : Int64} (hd : decode bytes pc = .ok (.land, 1)) (hp : pc + 1 = pc') (hz : x &&& y = z) (hr : G h kc ks (mkF m pc' L (.long z :: S))) : G h kc ks (mkF m pc L (.long y :: .long x :: S)) := by
  subst hp hz
  exact K.step (fun p e below T c h hx hb0 t hr => XS.land h hx rfl (hb hb0 hd) rfl hr) hr
theorem Cx.ior (K : Cx l R Z n0 Q own nm bytes maxL ret m G) {x y z : Int32} (hd : decode bytes pc = .ok (.ior, 1)) (hp : pc + 1 = pc') (hz : x ||| y = z) (hr : G h kc ks (mkF m pc' L (.int z :: S))) : G h kc ks (mkF m pc L (.int y :: .int x :: S)) := by
  subst hp hz
  exact K.step (fun p e below T c h hx hb0 t hr => XS.ior h hx rfl (hb hb0 hd) rfl hr) hr
theorem Cx.lor (K : Cx l R Z n0 Q own nm bytes maxL ret m G) {x y z : Int64} (hd : decode bytes pc = .ok (.lor, 1)) (hp : pc + 1 = pc') (hz : x ||| y = z) (hr : G h kc ks (mkF m pc' L (.long z :: S))) : G h kc ks (mkF m pc L (.long y :: .long x :: S)) := by
  subst hp hz
  exact K.step (fun p e below T c h hx hb0 t hr => XS.lor h hx rfl (hb hb0 hd) rfl hr) hr
theorem Cx.ixor (K : Cx l R Z n0 Q own nm bytes maxL ret m G) {x y z : Int32} (hd : decode bytes pc = .ok (.ixor, 1)) (hp : pc + 1 = pc') (hz : x ^^^ y = z) (hr : G h kc ks (mkF m pc' L (.int z :: S))) : G h kc ks (mkF m pc L (.int y :: .int x :: S)) := by
  subst hp hz
  exact K.step (fun p e below T c h hx hb0 t hr => XS.ixor h hx rfl (hb hb0 hd) rfl hr) hr
theorem Cx.lxor (K : Cx l R Z n0 Q own nm bytes maxL ret m G) {x y z : Int64} (hd : decode bytes pc = .ok (.lxor, 1)) (hp : pc + 1 = pc') (hz : x ^^^ y = z) (hr : G h kc ks (mkF m pc' L (.long z :: S))) : G h kc ks (mkF m pc L (.long y :: .long x :: S)) := by
  subst hp hz
  exact K.step (fun p e below T c h hx hb0 t hr => XS.lxor h hx rfl (hb hb0 hd) rfl hr) hr
theorem Cx.ishl (K : Cx l R Z n0 Q own nm bytes maxL ret m G) {x y z : Int32} (hd : decode bytes pc = .ok (.ishl, 1)) (hp : pc + 1 = pc') (hz : x <<< (y &&& 31) = z) (hr : G h kc ks (mkF m pc' L (.int z :: S))) : G h kc ks (mkF m pc L (.int y :: .int x :: S)) := by
  subst hp hz
  exact K.step (fun p e below T c h hx hb0 t hr => XS.ishl h hx rfl (hb hb0 hd) rfl hr) hr
theorem Cx.ishr (K : Cx l R Z n0 Q own nm bytes maxL ret m G) {x y z : Int32} (hd : decode bytes pc = .ok (.ishr, 1)) (hp : pc + 1 = pc') (hz : x >>> (y &&& 31) = z) (hr : G h kc ks (mkF m pc' L (.int z :: S))) : G h kc ks (mkF m pc L (.int y :: .int x :: S)) := by
  subst hp hz
  exact K.step (fun p e below T c h hx hb0 t hr => XS.ishr h hx rfl (hb hb0 hd) rfl hr) hr
theorem Cx.iushr (K : Cx l R Z n0 Q own nm bytes maxL ret m G) {x y z : Int32} (hd : decode bytes pc = .ok (.iushr, 1)) (hp : pc + 1 = pc') (hz : (x.toUInt32 >>> (y &&& 31).toUInt32).toInt32 = z) (hr : G h kc ks (mkF m pc' L (.int z :: S))) : G h kc ks (mkF m pc L (.int y :: .int x :: S)) := by
  subst hp hz
  exact K.step (fun p e below T c h hx hb0 t hr => XS.iushr h hx rfl (hb hb0 hd) rfl hr) hr
theorem Cx.lshl (K : Cx l R Z n0 Q own nm bytes maxL ret m G) {x z : Int64} {y : Int32} (hd : decode bytes pc = .ok (.lshl, 1)) (hp : pc + 1 = pc') (hz : x <<< (y &&& 0x3f).toInt64 = z) (hr : G h kc ks (mkF m pc' L (.long z :: S))) : G h kc ks (mkF m pc L (.int y :: .long x :: S)) := by
  subst hp hz
  exact K.step (fun p e below T c h hx hb0 t hr => XS.lshl h hx rfl (hb hb0 hd) rfl hr) hr
theorem Cx.lshr (K : Cx l R Z n0 Q own nm bytes maxL ret m G) {x z : Int64} {y : Int32} (hd : decode bytes pc = .ok (.lshr, 1)) (hp : pc + 1 = pc') (hz : x >>> (y &&& 0x3f).toInt64 = z) (hr : G h kc ks (mkF m pc' L (.long z :: S))) : G h kc ks (mkF m pc L (.int y :: .long x :: S)) := by
  subst hp hz
  exact K.step (fun p e below T c h hx hb0 t hr => XS.lshr h hx rfl (hb hb0 hd) rfl hr) hr
theorem Cx.lushr (K : Cx l R Z n0 Q own nm bytes maxL ret m G) {x z : Int64} {y : Int32} (hd : decode bytes pc = .ok (.lushr, 1)) (hp : pc + 1 = pc') (hz : (x.toUInt64 >>> (y &&& 0x3f).toInt64.toUInt64).toInt64 = z) (hr : G h kc ks (mkF m pc' L (.long z :: S))) : G h kc ks (mkF m pc L (.int y :: .long x :: S)) := by
  subst hp hz
  exact K.step (fun p e below T c h hx hb0 t hr => XS.lushr h hx rfl (hb hb0 hd) rfl hr) hr
theorem Cx.idiv (K : Cx l R Z n0 Q own nm bytes maxL ret m G) {x y z : Int32} (hd : decode bytes pc = .ok (.idiv, 1)) (hp : pc + 1 = pc') (hy : y ≠ 0) (hz : x / y = z) (hr : G h kc ks (mkF m pc' L (.int z :: S))) : G h kc ks (mkF m pc L (.int y :: .int x :: S)) := by
  subst hp hz
  exact K.step (fun p e below T c h hx hb0 t hr => XS.idiv h hx rfl (hb hb0 hd) rfl hy hr) hr
theorem Cx.ldiv (K : Cx l R Z n0 Q own nm bytes maxL ret m G) {x y z : Int64} (hd : decode bytes pc = .ok (.ldiv, 1)) (hp : pc + 1 = pc') (hy : y ≠ 0) (hz : x / y = z) (hr : G h kc ks (mkF m pc' L (.long z :: S))) : G h kc ks (mkF m pc L (.long y :: .long x :: S)) := by
  subst hp hz
  exact K.step (fun p e below T c h hx hb0 t hr => XS.ldiv h hx rfl (hb hb0 hd) rfl hy hr) hr
theorem Cx.irem (K : Cx l R Z n0 Q own nm bytes maxL ret m G) {x y z : Int32} (hd : decode bytes pc = .ok (.irem, 1)) (hp : pc + 1 = pc') (hy : y ≠ 0) (hz : x % y = z) (hr : G h kc ks (mkF m pc' L (.int z :: S))) : G h kc ks (mkF m pc L (.int y :: .int x :: S)) := by
  subst hp hz
  exact K.step (fun p e below T c h hx hb0 t hr => XS.irem h hx rfl (hb hb0 hd) rfl hy (by rw [irem_eq_mod]; exact hr)) hr
theorem Cx.lrem (K : Cx l R Z n0 Q own nm bytes maxL ret m G) {x y z : Int64} (hd : decode bytes pc = .ok (.lrem, 1)) (hp : pc + 1 = pc') (hy : y ≠ 0) (hz : x % y = z) (hr : G h kc ks (mkF m pc' L (.long z :: S))) : G h kc ks (mkF m pc L (.long y :: .long x :: S)) := by
  subst hp hz
  exact K.step (fun p e below T c h hx hb0 t hr => XS.lrem h hx rfl (hb hb0 hd) rfl hy (by rw [lrem_mod]; exact hr)) hr
theorem Cx.ineg (K : Cx l R Z n0 Q own nm bytes maxL ret m G) {x z : Int32} (hd : decode bytes pc = .ok (.ineg, 1)) (hp : pc + 1 = pc') (hz : -x = z) (hr : G h kc ks (mkF m pc' L (.int z :: S))) : G h kc ks (mkF m pc L (.int x :: S)) := by
  subst hp hz
  exact K.step (fun p e below T c h hx hb0 t hr => XS.ineg h hx rfl (hb hb0 hd) rfl hr) hr
theorem Cx.lneg (K : Cx l R Z n0 Q own nm bytes maxL ret m G) {x z : Int64} (hd : decode bytes pc = .ok (.lneg, 1)) (hp : pc + 1 = pc') (hz : -x = z) (hr : G h kc ks (mkF m pc' L (.long z :: S))) : G h kc ks (mkF m pc L (.long x :: S)) := by
  subst hp hz
  exact K.step (fun p e below T c h hx hb0 t hr => XS.lneg h hx rfl (hb hb0 hd) rfl hr) hr
theorem Cx.i2b (K : Cx l R Z n0 Q own nm bytes maxL ret m G) {x : Int32} {z : Int32} (hd : decode bytes pc = .ok (.i2b, 1)) (hp : pc + 1 = pc') (hz : x.toInt8.toInt32 = z) (hr : G h kc ks (mkF m pc' L (.int z :: S))) : G h kc ks (mkF m pc L (.int x :: S)) := by
  subst hp hz
  exact K.step (fun p e below T c h hx hb0 t hr => XS.i2b h hx rfl (hb hb0 hd) rfl hr) hr
theorem Cx.i2c (K : Cx l R Z n0 Q own nm bytes maxL ret m G) {x : Int32} {z : Int32} (hd : decode bytes pc = .ok (.i2c, 1)) (hp : pc + 1 = pc') (hz : x.toUInt32.toUInt16.toUInt32.toInt32 = z) (hr : G h kc ks (mkF m pc' L (.int z :: S))) : G h kc ks (mkF m pc L (.int x :: S)) := by
  subst hp hz
  exact K.step (fun p e below T c h hx hb0 t hr => XS.i2c h hx rfl (hb hb0 hd) rfl hr) hr
theorem Cx.i2s (K : Cx l R Z n0 Q own nm bytes maxL ret m G) {x : Int32} {z : Int32} (hd : decode bytes pc = .ok (.i2s, 1)) (hp : pc + 1 = pc') (hz : x.toInt16.toInt32 = z) (hr : G h kc ks (mkF m pc' L (.int z :: S))) : G h kc ks (mkF m pc L (.int x :: S)) := by
  subst hp hz
  exact K.step (fun p e below T c h hx hb0 t hr => XS.i2s h hx rfl (hb hb0 hd) rfl hr) hr
theorem Cx.i2l (K : Cx l R Z n0 Q own nm bytes maxL ret m G) {x : Int32} {z : Int64} (hd : decode bytes pc = .ok (.i2l, 1)) (hp : pc + 1 = pc') (hz : x.toInt64 = z) (hr : G h kc ks (mkF m pc' L (.long z :: S))) : G h kc ks (mkF m pc L (.int x :: S)) := by
  subst hp hz
  exact K.step (fun p e below T c h hx hb0 t hr => XS.i2l h hx rfl (hb hb0 hd) rfl hr) hr
theorem Cx.l2i (K : Cx l R Z n0 Q own nm bytes maxL ret m G) {x : Int64} {z : Int32} (hd : decode bytes pc = .ok (.l2i, 1)) (hp : pc + 1 = pc') (hz : x.toInt32 = z) (hr : G h kc ks (mkF m pc' L (.int z :: S))) : G h kc ks (mkF m pc L (.long x :: S)) := by
  subst hp hz
  exact K.step (fun p e below T c h hx hb0 t hr => XS.l2i h hx rfl (hb hb0 hd) rfl hr) hr
theorem Cx.iinc (K : Cx l R Z n0 Q own nm bytes maxL ret m G) {k : Nat} {cst : Int} {x z : Int32} (hd : decode bytes pc = .ok (.iinc k cst, 3)) (hp : pc + 3 = pc') (hl : L[k]? = some (.val (.int x))) (hz : x + Int32.ofInt cst = z) (hl' : storeLocals L k (.int z) = some L') (hr : G h kc ks (mkF m pc' L' (S))) : G h kc ks (mkF m pc L (S)) := by
  subst hp hz
  exact K.step (fun p e below T c h hx hb0 t hr => XS.iinc h hx rfl (hb hb0 hd) hl hl' hr) hr
theorem Cx.dup (K : Cx l R Z n0 Q own nm bytes maxL ret m G) {x : Value} (hd : decode bytes pc = .ok (.dup, 1)) (hp : pc + 1 = pc') (hc : x.category = 1) (hr : G h kc ks (mkF m pc' L (x :: x :: S))) : G h kc ks (mkF m pc L (x :: S)) := by
  subst hp
  exact K.step (fun p e below T c h hx hb0 t hr => XS.dup h hx rfl (hb hb0 hd) rfl hc hr) hr
theorem Cx.pop (K : Cx l R Z n0 Q own nm bytes maxL ret m G) {x : Value} (hd : decode bytes pc = .ok (.pop, 1)) (hp : pc + 1 = pc') (hc : x.category = 1) (hr : G h kc ks (mkF m pc' L (S))) : G h kc ks (mkF m pc L (x :: S)) := by
  subst hp
  exact K.step (fun p e below T c h hx hb0 t hr => XS.pop h hx rfl (hb hb0 hd) rfl hc hr) hr
theorem Cx.dupX1 (K : Cx l R Z n0 Q own nm bytes maxL ret m G) {x y : Value} (hd : decode bytes pc = .ok (.dup_x1, 1)) (hp : pc + 1 = pc') (hc : x.category = 1) (hc2 : y.category = 1) (hr : G h kc ks (mkF m pc' L (x :: y :: x :: S))) : G h kc ks (mkF m pc L (x :: y :: S)) := by
  subst hp
  exact K.step (fun p e below T c h hx hb0 t hr => XS.dupX1 h hx rfl (hb hb0 hd) rfl hc hc2 hr) hr
theorem Cx.goto (K : Cx l R Z n0 Q own nm bytes maxL ret m G) {o : Int} (hd : decode bytes pc = .ok (.goto o, 3)) (ho : 0 ≤ (pc : Int) + o) (hp : ((pc : Int) + o).toNat = pc') (hr : G h kc ks (mkF m pc' L S)) : G h kc ks (mkF m pc L S) :=
  K.step (fun p e below T c h hx hb0 t hr => XS.goto h hx rfl (pc0 := pc) (pc' := pc') rfl (hb hb0 hd) ho hp hr) hr
theorem icmpW (cd : ClassFile.Cond) {x y : Int32} {a b : Int} (ha : x.toInt = a) (hb : y.toInt = b) : if_icmp.holds cd x y = (match cd with | .lt => decide (a < b) | .ge => decide (b ≤ a) | .gt => decide (b < a) | .le => decide (a ≤ b) | .eq => decide (a = b) | .ne => decide (a ≠ b)) := by
  subst ha hb
  cases cd <;> rw [Bool.eq_iff_iff] <;> simp [if_icmp.holds, Int32.lt_iff_toInt_lt, Int32.le_iff_toInt_le, Int32.toInt_inj]
theorem lcmpW0 (cd : ClassFile.Cond) {x y : Int64} {a b : Int} (ha : x.toInt = a) (hb : y.toInt = b) : ifCond.holds cd (if x > y then 1 else if x = y then 0 else -1) = (match cd with | .lt => decide (a < b) | .ge => decide (b ≤ a) | .gt => decide (b < a) | .le => decide (a ≤ b) | .eq => decide (a = b) | .ne => decide (a ≠ b)) := by
  subst ha hb
  rcases Int.lt_trichotomy x.toInt y.toInt with h | h | h
  · have e : (if x > y then (1 : Int32) else if x = y then 0 else -1) = -1 := by rw [if_neg (by rw [gt_iff_lt, Int64.lt_iff_toInt_lt]; omega), if_neg (by rw [← Int64.toInt_inj]; omega)]
    rw [e, if0, icmpW cd (a := -1) (b := 0) rfl rfl]
    cases cd <;> exact decide_eq_decide.mpr (by omega)
  · have e : (if x > y then (1 : Int32) else if x = y then 0 else -1) = 0 := by rw [if_neg (by rw [gt_iff_lt, Int64.lt_iff_toInt_lt]; omega), if_pos (by rw [← Int64.toInt_inj]; omega)]
    rw [e, if0, icmpW cd (a := 0) (b := 0) rfl rfl]
    cases cd <;> exact decide_eq_decide.mpr (by omega)
  · have e : (if x > y then (1 : Int32) else if x = y then 0 else -1) = 1 := by rw [if_pos (by rw [gt_iff_lt, Int64.lt_iff_toInt_lt]; omega)]
    rw [e, if0, icmpW cd (a := 1) (b := 0) rfl rfl]
    cases cd <;> exact decide_eq_decide.mpr (by omega)
theorem Cx.icmp_lt (K : Cx l R Z n0 Q own nm bytes maxL ret m G) {o : Int} {x y : Int32} {a b : Int} (hd : decode bytes pc = .ok (.if_icmp .lt o, 3)) (hp : pc + 3 = pc1) (ho : 0 ≤ (pc : Int) + o) (hq : ((pc : Int) + o).toNat = pc2) (ha : x.toInt = a) (hb' : y.toInt = b) (ht : a < b → G h kc ks (mkF m pc2 L S)) (hf : b ≤ a → G h kc ks (mkF m pc1 L S)) : G h kc ks (mkF m pc L (.int y :: .int x :: S)) := by
  subst hp
  have q := icmpW .lt ha hb'
  by_cases hc : a < b
  · exact K.step (fun p e below T c h hx hb0 t hr => XS.icmpYes h hx rfl (pc0 := pc) (pc' := pc2) rfl (hb hb0 hd) rfl (q.trans (decide_eq_true hc)) ho hq hr) (ht hc)
  · exact K.step (fun p e below T c h hx hb0 t hr => XS.icmpNo h hx rfl (hb hb0 hd) rfl (q.trans (decide_eq_false hc)) hr) (hf (by omega))
theorem Cx.if_lt (K : Cx l R Z n0 Q own nm bytes maxL ret m G) {o : Int} {x : Int32} {a : Int} (hd : decode bytes pc = .ok (.ifCond .lt o, 3)) (hp : pc + 3 = pc1) (ho : 0 ≤ (pc : Int) + o) (hq : ((pc : Int) + o).toNat = pc2) (ha : x.toInt = a) (ht : a < 0 → G h kc ks (mkF m pc2 L S)) (hf : 0 ≤ a → G h kc ks (mkF m pc1 L S)) : G h kc ks (mkF m pc L (.int x :: S)) := by
  subst hp
  have q := (if0 .lt x).trans (icmpW .lt ha (b := 0) rfl)
  by_cases hc : a < 0
  · exact K.step (fun p e below T c h hx hb0 t hr => XS.ifYes h hx rfl (pc0 := pc) (pc' := pc2) rfl (hb hb0 hd) rfl (q.trans (decide_eq_true hc)) ho hq hr) (ht hc)
  · exact K.step (fun p e below T c h hx hb0 t hr => XS.ifNo h hx rfl (hb hb0 hd) rfl (q.trans (decide_eq_false hc)) hr) (hf (by omega))
theorem Cx.lcmp_lt (K : Cx l R Z n0 Q own nm bytes maxL ret m G) {o : Int} {x y : Int64} {a b : Int} (hd0 : decode bytes pc = .ok (.lcmp, 1)) (hd : decode bytes (pc + 1) = .ok (.ifCond .lt o, 3)) (hp : pc + 4 = pc1) (ho : 0 ≤ ((pc + 1 : Nat) : Int) + o) (hq : (((pc + 1 : Nat) : Int) + o).toNat = pc2) (ha : x.toInt = a) (hb' : y.toInt = b) (ht : a < b → G h kc ks (mkF m pc2 L S)) (hf : b ≤ a → G h kc ks (mkF m pc1 L S)) : G h kc ks (mkF m pc L (.long y :: .long x :: S)) := by
  subst hp
  have q := lcmpW0 .lt ha hb'
  refine K.step (f' := mkF m (pc + 1) L (.int (if x > y then 1 else if x = y then 0 else -1) :: S)) (fun p e below T c h hx hb0 t hr => XS.lcmp h hx rfl (hb hb0 hd0) rfl hr) ?_
  by_cases hc : a < b
  · exact K.step (fun p e below T c h hx hb0 t hr => XS.ifYes h hx rfl (pc0 := pc + 1) (pc' := pc2) rfl (hb hb0 hd) rfl (q.trans (decide_eq_true hc)) ho hq hr) (ht hc)
  · exact K.step (fun p e below T c h hx hb0 t hr => XS.ifNo h hx rfl (hb hb0 hd) rfl (q.trans (decide_eq_false hc)) hr) (hf (by omega))
theorem Cx.icmp_ge (K : Cx l R Z n0 Q own nm bytes maxL ret m G) {o : Int} {x y : Int32} {a b : Int} (hd : decode bytes pc = .ok (.if_icmp .ge o, 3)) (hp : pc + 3 = pc1) (ho : 0 ≤ (pc : Int) + o) (hq : ((pc : Int) + o).toNat = pc2) (ha : x.toInt = a) (hb' : y.toInt = b) (ht : b ≤ a → G h kc ks (mkF m pc2 L S)) (hf : a < b → G h kc ks (mkF m pc1 L S)) : G h kc ks (mkF m pc L (.int y :: .int x :: S)) := by
  subst hp
  have q := icmpW .ge ha hb'
  by_cases hc : b ≤ a
  · exact K.step (fun p e below T c h hx hb0 t hr => XS.icmpYes h hx rfl (pc0 := pc) (pc' := pc2) rfl (hb hb0 hd) rfl (q.trans (decide_eq_true hc)) ho hq hr) (ht hc)
  · exact K.step (fun p e below T c h hx hb0 t hr => XS.icmpNo h hx rfl (hb hb0 hd) rfl (q.trans (decide_eq_false hc)) hr) (hf (by omega))
theorem Cx.if_ge (K : Cx l R Z n0 Q own nm bytes maxL ret m G) {o : Int} {x : Int32} {a : Int} (hd : decode bytes pc = .ok (.ifCond .ge o, 3)) (hp : pc + 3 = pc1) (ho : 0 ≤ (pc : Int) + o) (hq : ((pc : Int) + o).toNat = pc2) (ha : x.toInt = a) (ht : 0 ≤ a → G h kc ks (mkF m pc2 L S)) (hf : a < 0 → G h kc ks (mkF m pc1 L S)) : G h kc ks (mkF m pc L (.int x :: S)) := by
  subst hp
  have q := (if0 .ge x).trans (icmpW .ge ha (b := 0) rfl)
  by_cases hc : 0 ≤ a
  · exact K.step (fun p e below T c h hx hb0 t hr => XS.ifYes h hx rfl (pc0 := pc) (pc' := pc2) rfl (hb hb0 hd) rfl (q.trans (decide_eq_true hc)) ho hq hr) (ht hc)
  · exact K.step (fun p e below T c h hx hb0 t hr => XS.ifNo h hx rfl (hb hb0 hd) rfl (q.trans (decide_eq_false hc)) hr) (hf (by omega))
theorem Cx.lcmp_ge (K : Cx l R Z n0 Q own nm bytes maxL ret m G) {o : Int} {x y : Int64} {a b : Int} (hd0 : decode bytes pc = .ok (.lcmp, 1)) (hd : decode bytes (pc + 1) = .ok (.ifCond .ge o, 3)) (hp : pc + 4 = pc1) (ho : 0 ≤ ((pc + 1 : Nat) : Int) + o) (hq : (((pc + 1 : Nat) : Int) + o).toNat = pc2) (ha : x.toInt = a) (hb' : y.toInt = b) (ht : b ≤ a → G h kc ks (mkF m pc2 L S)) (hf : a < b → G h kc ks (mkF m pc1 L S)) : G h kc ks (mkF m pc L (.long y :: .long x :: S)) := by
  subst hp
  have q := lcmpW0 .ge ha hb'
  refine K.step (f' := mkF m (pc + 1) L (.int (if x > y then 1 else if x = y then 0 else -1) :: S)) (fun p e below T c h hx hb0 t hr => XS.lcmp h hx rfl (hb hb0 hd0) rfl hr) ?_
  by_cases hc : b ≤ a
  · exact K.step (fun p e below T c h hx hb0 t hr => XS.ifYes h hx rfl (pc0 := pc + 1) (pc' := pc2) rfl (hb hb0 hd) rfl (q.trans (decide_eq_true hc)) ho hq hr) (ht hc)
  · exact K.step (fun p e below T c h hx hb0 t hr => XS.ifNo h hx rfl (hb hb0 hd) rfl (q.trans (decide_eq_false hc)) hr) (hf (by omega))
theorem Cx.icmp_gt (K : Cx l R Z n0 Q own nm bytes maxL ret m G) {o : Int} {x y : Int32} {a b : Int} (hd : decode bytes pc = .ok (.if_icmp .gt o, 3)) (hp : pc + 3 = pc1) (ho : 0 ≤ (pc : Int) + o) (hq : ((pc : Int) + o).toNat = pc2) (ha : x.toInt = a) (hb' : y.toInt = b) (ht : b < a → G h kc ks (mkF m pc2 L S)) (hf : a ≤ b → G h kc ks (mkF m pc1 L S)) : G h kc ks (mkF m pc L (.int y :: .int x :: S)) := by
  subst hp
  have q := icmpW .gt ha hb'
  by_cases hc : b < a
  · exact K.step (fun p e below T c h hx hb0 t hr => XS.icmpYes h hx rfl (pc0 := pc) (pc' := pc2) rfl (hb hb0 hd) rfl (q.trans (decide_eq_true hc)) ho hq hr) (ht hc)
  · exact K.step (fun p e below T c h hx hb0 t hr => XS.icmpNo h hx rfl (hb hb0 hd) rfl (q.trans (decide_eq_false hc)) hr) (hf (by omega))
theorem Cx.if_gt (K : Cx l R Z n0 Q own nm bytes maxL ret m G) {o : Int} {x : Int32} {a : Int} (hd : decode bytes pc = .ok (.ifCond .gt o, 3)) (hp : pc + 3 = pc1) (ho : 0 ≤ (pc : Int) + o) (hq : ((pc : Int) + o).toNat = pc2) (ha : x.toInt = a) (ht : 0 < a → G h kc ks (mkF m pc2 L S)) (hf : a ≤ 0 → G h kc ks (mkF m pc1 L S)) : G h kc ks (mkF m pc L (.int x :: S)) := by
  subst hp
  have q := (if0 .gt x).trans (icmpW .gt ha (b := 0) rfl)
  by_cases hc : 0 < a
  · exact K.step (fun p e below T c h hx hb0 t hr => XS.ifYes h hx rfl (pc0 := pc) (pc' := pc2) rfl (hb hb0 hd) rfl (q.trans (decide_eq_true hc)) ho hq hr) (ht hc)
  · exact K.step (fun p e below T c h hx hb0 t hr => XS.ifNo h hx rfl (hb hb0 hd) rfl (q.trans (decide_eq_false hc)) hr) (hf (by omega))
theorem Cx.lcmp_gt (K : Cx l R Z n0 Q own nm bytes maxL ret m G) {o : Int} {x y : Int64} {a b : Int} (hd0 : decode bytes pc = .ok (.lcmp, 1)) (hd : decode bytes (pc + 1) = .ok (.ifCond .gt o, 3)) (hp : pc + 4 = pc1) (ho : 0 ≤ ((pc + 1 : Nat) : Int) + o) (hq : (((pc + 1 : Nat) : Int) + o).toNat = pc2) (ha : x.toInt = a) (hb' : y.toInt = b) (ht : b < a → G h kc ks (mkF m pc2 L S)) (hf : a ≤ b → G h kc ks (mkF m pc1 L S)) : G h kc ks (mkF m pc L (.long y :: .long x :: S)) := by
  subst hp
  have q := lcmpW0 .gt ha hb'
  refine K.step (f' := mkF m (pc + 1) L (.int (if x > y then 1 else if x = y then 0 else -1) :: S)) (fun p e below T c h hx hb0 t hr => XS.lcmp h hx rfl (hb hb0 hd0) rfl hr) ?_
  by_cases hc : b < a
  · exact K.step (fun p e below T c h hx hb0 t hr => XS.ifYes h hx rfl (pc0 := pc + 1) (pc' := pc2) rfl (hb hb0 hd) rfl (q.trans (decide_eq_true hc)) ho hq hr) (ht hc)
  · exact K.step (fun p e below T c h hx hb0 t hr => XS.ifNo h hx rfl (hb hb0 hd) rfl (q.trans (decide_eq_false hc)) hr) (hf (by omega))
theorem Cx.icmp_le (K : Cx l R Z n0 Q own nm bytes maxL ret m G) {o : Int} {x y : Int32} {a b : Int} (hd : decode bytes pc = .ok (.if_icmp .le o, 3)) (hp : pc + 3 = pc1) (ho : 0 ≤ (pc : Int) + o) (hq : ((pc : Int) + o).toNat = pc2) (ha : x.toInt = a) (hb' : y.toInt = b) (ht : a ≤ b → G h kc ks (mkF m pc2 L S)) (hf : b < a → G h kc ks (mkF m pc1 L S)) : G h kc ks (mkF m pc L (.int y :: .int x :: S)) := by
  subst hp
  have q := icmpW .le ha hb'
  by_cases hc : a ≤ b
  · exact K.step (fun p e below T c h hx hb0 t hr => XS.icmpYes h hx rfl (pc0 := pc) (pc' := pc2) rfl (hb hb0 hd) rfl (q.trans (decide_eq_true hc)) ho hq hr) (ht hc)
  · exact K.step (fun p e below T c h hx hb0 t hr => XS.icmpNo h hx rfl (hb hb0 hd) rfl (q.trans (decide_eq_false hc)) hr) (hf (by omega))
theorem Cx.if_le (K : Cx l R Z n0 Q own nm bytes maxL ret m G) {o : Int} {x : Int32} {a : Int} (hd : decode bytes pc = .ok (.ifCond .le o, 3)) (hp : pc + 3 = pc1) (ho : 0 ≤ (pc : Int) + o) (hq : ((pc : Int) + o).toNat = pc2) (ha : x.toInt = a) (ht : a ≤ 0 → G h kc ks (mkF m pc2 L S)) (hf : 0 < a → G h kc ks (mkF m pc1 L S)) : G h kc ks (mkF m pc L (.int x :: S)) := by
  subst hp
  have q := (if0 .le x).trans (icmpW .le ha (b := 0) rfl)
  by_cases hc : a ≤ 0
  · exact K.step (fun p e below T c h hx hb0 t hr => XS.ifYes h hx rfl (pc0 := pc) (pc' := pc2) rfl (hb hb0 hd) rfl (q.trans (decide_eq_true hc)) ho hq hr) (ht hc)
  · exact K.step (fun p e below T c h hx hb0 t hr => XS.ifNo h hx rfl (hb hb0 hd) rfl (q.trans (decide_eq_false hc)) hr) (hf (by omega))
theorem Cx.lcmp_le (K : Cx l R Z n0 Q own nm bytes maxL ret m G) {o : Int} {x y : Int64} {a b : Int} (hd0 : decode bytes pc = .ok (.lcmp, 1)) (hd : decode bytes (pc + 1) = .ok (.ifCond .le o, 3)) (hp : pc + 4 = pc1) (ho : 0 ≤ ((pc + 1 : Nat) : Int) + o) (hq : (((pc + 1 : Nat) : Int) + o).toNat = pc2) (ha : x.toInt = a) (hb' : y.toInt = b) (ht : a ≤ b → G h kc ks (mkF m pc2 L S)) (hf : b < a → G h kc ks (mkF m pc1 L S)) : G h kc ks (mkF m pc L (.long y :: .long x :: S)) := by
  subst hp
  have q := lcmpW0 .le ha hb'
  refine K.step (f' := mkF m (pc + 1) L (.int (if x > y then 1 else if x = y then 0 else -1) :: S)) (fun p e below T c h hx hb0 t hr => XS.lcmp h hx rfl (hb hb0 hd0) rfl hr) ?_
  by_cases hc : a ≤ b
  · exact K.step (fun p e below T c h hx hb0 t hr => XS.ifYes h hx rfl (pc0 := pc + 1) (pc' := pc2) rfl (hb hb0 hd) rfl (q.trans (decide_eq_true hc)) ho hq hr) (ht hc)
  · exact K.step (fun p e below T c h hx hb0 t hr => XS.ifNo h hx rfl (hb hb0 hd) rfl (q.trans (decide_eq_false hc)) hr) (hf (by omega))
theorem Cx.icmp_eq (K : Cx l R Z n0 Q own nm bytes maxL ret m G) {o : Int} {x y : Int32} {a b : Int} (hd : decode bytes pc = .ok (.if_icmp .eq o, 3)) (hp : pc + 3 = pc1) (ho : 0 ≤ (pc : Int) + o) (hq : ((pc : Int) + o).toNat = pc2) (ha : x.toInt = a) (hb' : y.toInt = b) (ht : a = b → G h kc ks (mkF m pc2 L S)) (hf : a ≠ b → G h kc ks (mkF m pc1 L S)) : G h kc ks (mkF m pc L (.int y :: .int x :: S)) := by
  subst hp
  have q := icmpW .eq ha hb'
  by_cases hc : a = b
  · exact K.step (fun p e below T c h hx hb0 t hr => XS.icmpYes h hx rfl (pc0 := pc) (pc' := pc2) rfl (hb hb0 hd) rfl (q.trans (decide_eq_true hc)) ho hq hr) (ht hc)
  · exact K.step (fun p e below T c h hx hb0 t hr => XS.icmpNo h hx rfl (hb hb0 hd) rfl (q.trans (decide_eq_false hc)) hr) (hf (by omega))
theorem Cx.if_eq (K : Cx l R Z n0 Q own nm bytes maxL ret m G) {o : Int} {x : Int32} {a : Int} (hd : decode bytes pc = .ok (.ifCond .eq o, 3)) (hp : pc + 3 = pc1) (ho : 0 ≤ (pc : Int) + o) (hq : ((pc : Int) + o).toNat = pc2) (ha : x.toInt = a) (ht : a = 0 → G h kc ks (mkF m pc2 L S)) (hf : a ≠ 0 → G h kc ks (mkF m pc1 L S)) : G h kc ks (mkF m pc L (.int x :: S)) := by
  subst hp
  have q := (if0 .eq x).trans (icmpW .eq ha (b := 0) rfl)
  by_cases hc : a = 0
  · exact K.step (fun p e below T c h hx hb0 t hr => XS.ifYes h hx rfl (pc0 := pc) (pc' := pc2) rfl (hb hb0 hd) rfl (q.trans (decide_eq_true hc)) ho hq hr) (ht hc)
  · exact K.step (fun p e below T c h hx hb0 t hr => XS.ifNo h hx rfl (hb hb0 hd) rfl (q.trans (decide_eq_false hc)) hr) (hf (by omega))
theorem Cx.lcmp_eq (K : Cx l R Z n0 Q own nm bytes maxL ret m G) {o : Int} {x y : Int64} {a b : Int} (hd0 : decode bytes pc = .ok (.lcmp, 1)) (hd : decode bytes (pc + 1) = .ok (.ifCond .eq o, 3)) (hp : pc + 4 = pc1) (ho : 0 ≤ ((pc + 1 : Nat) : Int) + o) (hq : (((pc + 1 : Nat) : Int) + o).toNat = pc2) (ha : x.toInt = a) (hb' : y.toInt = b) (ht : a = b → G h kc ks (mkF m pc2 L S)) (hf : a ≠ b → G h kc ks (mkF m pc1 L S)) : G h kc ks (mkF m pc L (.long y :: .long x :: S)) := by
  subst hp
  have q := lcmpW0 .eq ha hb'
  refine K.step (f' := mkF m (pc + 1) L (.int (if x > y then 1 else if x = y then 0 else -1) :: S)) (fun p e below T c h hx hb0 t hr => XS.lcmp h hx rfl (hb hb0 hd0) rfl hr) ?_
  by_cases hc : a = b
  · exact K.step (fun p e below T c h hx hb0 t hr => XS.ifYes h hx rfl (pc0 := pc + 1) (pc' := pc2) rfl (hb hb0 hd) rfl (q.trans (decide_eq_true hc)) ho hq hr) (ht hc)
  · exact K.step (fun p e below T c h hx hb0 t hr => XS.ifNo h hx rfl (hb hb0 hd) rfl (q.trans (decide_eq_false hc)) hr) (hf (by omega))
theorem Cx.icmp_ne (K : Cx l R Z n0 Q own nm bytes maxL ret m G) {o : Int} {x y : Int32} {a b : Int} (hd : decode bytes pc = .ok (.if_icmp .ne o, 3)) (hp : pc + 3 = pc1) (ho : 0 ≤ (pc : Int) + o) (hq : ((pc : Int) + o).toNat = pc2) (ha : x.toInt = a) (hb' : y.toInt = b) (ht : a ≠ b → G h kc ks (mkF m pc2 L S)) (hf : a = b → G h kc ks (mkF m pc1 L S)) : G h kc ks (mkF m pc L (.int y :: .int x :: S)) := by
  subst hp
  have q := icmpW .ne ha hb'
  by_cases hc : a ≠ b
  · exact K.step (fun p e below T c h hx hb0 t hr => XS.icmpYes h hx rfl (pc0 := pc) (pc' := pc2) rfl (hb hb0 hd) rfl (q.trans (decide_eq_true hc)) ho hq hr) (ht hc)
  · exact K.step (fun p e below T c h hx hb0 t hr => XS.icmpNo h hx rfl (hb hb0 hd) rfl (q.trans (decide_eq_false hc)) hr) (hf (by omega))
theorem Cx.if_ne (K : Cx l R Z n0 Q own nm bytes maxL ret m G) {o : Int} {x : Int32} {a : Int} (hd : decode bytes pc = .ok (.ifCond .ne o, 3)) (hp : pc + 3 = pc1) (ho : 0 ≤ (pc : Int) + o) (hq : ((pc : Int) + o).toNat = pc2) (ha : x.toInt = a) (ht : a ≠ 0 → G h kc ks (mkF m pc2 L S)) (hf : a = 0 → G h kc ks (mkF m pc1 L S)) : G h kc ks (mkF m pc L (.int x :: S)) := by
  subst hp
  have q := (if0 .ne x).trans (icmpW .ne ha (b := 0) rfl)
  by_cases hc : a ≠ 0
  · exact K.step (fun p e below T c h hx hb0 t hr => XS.ifYes h hx rfl (pc0 := pc) (pc' := pc2) rfl (hb hb0 hd) rfl (q.trans (decide_eq_true hc)) ho hq hr) (ht hc)
  · exact K.step (fun p e below T c h hx hb0 t hr => XS.ifNo h hx rfl (hb hb0 hd) rfl (q.trans (decide_eq_false hc)) hr) (hf (by omega))
theorem Cx.lcmp_ne (K : Cx l R Z n0 Q own nm bytes maxL ret m G) {o : Int} {x y : Int64} {a b : Int} (hd0 : decode bytes pc = .ok (.lcmp, 1)) (hd : decode bytes (pc + 1) = .ok (.ifCond .ne o, 3)) (hp : pc + 4 = pc1) (ho : 0 ≤ ((pc + 1 : Nat) : Int) + o) (hq : (((pc + 1 : Nat) : Int) + o).toNat = pc2) (ha : x.toInt = a) (hb' : y.toInt = b) (ht : a ≠ b → G h kc ks (mkF m pc2 L S)) (hf : a = b → G h kc ks (mkF m pc1 L S)) : G h kc ks (mkF m pc L (.long y :: .long x :: S)) := by
  subst hp
  have q := lcmpW0 .ne ha hb'
  refine K.step (f' := mkF m (pc + 1) L (.int (if x > y then 1 else if x = y then 0 else -1) :: S)) (fun p e below T c h hx hb0 t hr => XS.lcmp h hx rfl (hb hb0 hd0) rfl hr) ?_
  by_cases hc : a ≠ b
  · exact K.step (fun p e below T c h hx hb0 t hr => XS.ifYes h hx rfl (pc0 := pc + 1) (pc' := pc2) rfl (hb hb0 hd) rfl (q.trans (decide_eq_true hc)) ho hq hr) (ht hc)
  · exact K.step (fun p e below T c h hx hb0 t hr => XS.ifNo h hx rfl (hb hb0 hd) rfl (q.trans (decide_eq_false hc)) hr) (hf (by omega))
theorem Cx.ifneB (K : Cx l R Z n0 Q own nm bytes maxL ret m G) {o : Int} {P : Prop} [Decidable P] (hd : decode bytes pc = .ok (.ifCond .ne o, 3)) (hp : pc + 3 = pc1) (ho : 0 ≤ (pc : Int) + o) (hq : ((pc : Int) + o).toNat = pc2) (ht : P → G h kc ks (mkF m pc2 L S)) (hf : ¬ P → G h kc ks (mkF m pc1 L S)) : G h kc ks (mkF m pc L (.int (b2 P) :: S)) :=
  K.if_ne hd hp ho hq rfl (fun q => ht ((b2_ne0 P).mp q)) (fun q => hf ((b2_eq0 P).mp q))
theorem Cx.ifeqB (K : Cx l R Z n0 Q own nm bytes maxL ret m G) {o : Int} {P : Prop} [Decidable P] (hd : decode bytes pc = .ok (.ifCond .eq o, 3)) (hp : pc + 3 = pc1) (ho : 0 ≤ (pc : Int) + o) (hq : ((pc : Int) + o).toNat = pc2) (ht : ¬ P → G h kc ks (mkF m pc2 L S)) (hf : P → G h kc ks (mkF m pc1 L S)) : G h kc ks (mkF m pc L (.int (b2 P) :: S)) :=
  K.if_eq hd hp ho hq rfl (fun q => ht ((b2_eq0 P).mp q)) (fun q => hf ((b2_ne0 P).mp q))
theorem Cx.icmpneB (K : Cx l R Z n0 Q own nm bytes maxL ret m G) {o : Int} {P P' : Prop} [Decidable P] [Decidable P'] (hd : decode bytes pc = .ok (.if_icmp .ne o, 3)) (hp : pc + 3 = pc1) (ho : 0 ≤ (pc : Int) + o) (hq : ((pc : Int) + o).toNat = pc2) (ht : ¬ (P ↔ P') → G h kc ks (mkF m pc2 L S)) (hf : (P ↔ P') → G h kc ks (mkF m pc1 L S)) : G h kc ks (mkF m pc L (.int (b2 P') :: .int (b2 P) :: S)) :=
  K.icmp_ne hd hp ho hq rfl rfl (fun q => ht (fun z => q ((b2_inj P P').mpr z))) (fun q => hf ((b2_inj P P').mp q))
theorem Cx.icmpeqB (K : Cx l R Z n0 Q own nm bytes maxL ret m G) {o : Int} {P P' : Prop} [Decidable P] [Decidable P'] (hd : decode bytes pc = .ok (.if_icmp .eq o, 3)) (hp : pc + 3 = pc1) (ho : 0 ≤ (pc : Int) + o) (hq : ((pc : Int) + o).toNat = pc2) (ht : (P ↔ P') → G h kc ks (mkF m pc2 L S)) (hf : ¬ (P ↔ P') → G h kc ks (mkF m pc1 L S)) : G h kc ks (mkF m pc L (.int (b2 P') :: .int (b2 P) :: S)) :=
  K.icmp_eq hd hp ho hq rfl rfl (fun q => ht ((b2_inj P P').mp q)) (fun q => hf (fun z => q ((b2_inj P P').mpr z)))
theorem Cx.ifnull0 (K : Cx l R Z n0 Q own nm bytes maxL ret m G) {o : Int} (hd : decode bytes pc = .ok (.ifnull o, 3)) (ho : 0 ≤ (pc : Int) + o) (hq : ((pc : Int) + o).toNat = pc2) (hr : G h kc ks (mkF m pc2 L S)) : G h kc ks (mkF m pc L (.null :: S)) :=
  K.step (fun p e below T c h hx hb0 t hr => XS.ifnullYes h hx rfl (pc0 := pc) (pc' := pc2) rfl (hb hb0 hd) rfl ho hq hr) hr
theorem Cx.ifnull1 (K : Cx l R Z n0 Q own nm bytes maxL ret m G) {o : Int} {b : Addr} (hd : decode bytes pc = .ok (.ifnull o, 3)) (hp : pc + 3 = pc') (hr : G h kc ks (mkF m pc' L S)) : G h kc ks (mkF m pc L (.ref b :: S)) := by
  subst hp
  exact K.step (fun p e below T c h hx hb0 t hr => XS.ifnullNo h hx rfl (hb hb0 hd) rfl hr) hr
theorem Cx.ifnonnull1 (K : Cx l R Z n0 Q own nm bytes maxL ret m G) {o : Int} {b : Addr} (hd : decode bytes pc = .ok (.ifnonnull o, 3)) (ho : 0 ≤ (pc : Int) + o) (hq : ((pc : Int) + o).toNat = pc2) (hr : G h kc ks (mkF m pc2 L S)) : G h kc ks (mkF m pc L (.ref b :: S)) :=
  K.step (fun p e below T c h hx hb0 t hr => XS.ifnonnullYes h hx rfl (pc0 := pc) (pc' := pc2) rfl (hb hb0 hd) rfl ho hq hr) hr
theorem Cx.ifnonnull0 (K : Cx l R Z n0 Q own nm bytes maxL ret m G) {o : Int} (hd : decode bytes pc = .ok (.ifnonnull o, 3)) (hp : pc + 3 = pc') (hr : G h kc ks (mkF m pc' L S)) : G h kc ks (mkF m pc L (.null :: S)) := by
  subst hp
  exact K.step (fun p e below T c h hx hb0 t hr => XS.ifnonnullNo h hx rfl (hb hb0 hd) rfl hr) hr
theorem Cx.acmpNe (K : Cx l R Z n0 Q own nm bytes maxL ret m G) {o : Int} {a b : Addr} (hd : decode bytes pc = .ok (.if_acmp .ne o, 3)) (hp : pc + 3 = pc1) (ho : 0 ≤ (pc : Int) + o) (hq : ((pc : Int) + o).toNat = pc2) (ht : a ≠ b → G h kc ks (mkF m pc2 L S)) (hf : a = b → G h kc ks (mkF m pc1 L S)) : G h kc ks (mkF m pc L (.ref b :: .ref a :: S)) := by
  subst hp
  by_cases hc : a = b
  · exact K.step (fun p e below T c h hx hb0 t hr => XS.acmpNo h hx rfl (hb hb0 hd) rfl (by simp [if_acmp.holds, hc]) hr) (hf hc)
  · exact K.step (fun p e below T c h hx hb0 t hr => XS.acmpYes h hx rfl (pc0 := pc) (pc' := pc2) rfl (hb hb0 hd) rfl (by simp [if_acmp.holds, hc]) ho hq hr) (ht hc)
theorem Cx.acmpEq (K : Cx l R Z n0 Q own nm bytes maxL ret m G) {o : Int} {a b : Addr} (hd : decode bytes pc = .ok (.if_acmp .eq o, 3)) (hp : pc + 3 = pc1) (ho : 0 ≤ (pc : Int) + o) (hq : ((pc : Int) + o).toNat = pc2) (ht : a = b → G h kc ks (mkF m pc2 L S)) (hf : a ≠ b → G h kc ks (mkF m pc1 L S)) : G h kc ks (mkF m pc L (.ref b :: .ref a :: S)) := by
  subst hp
  by_cases hc : a = b
  · exact K.step (fun p e below T c h hx hb0 t hr => XS.acmpYes h hx rfl (pc0 := pc) (pc' := pc2) rfl (hb hb0 hd) rfl (by simp [if_acmp.holds, hc]) ho hq hr) (ht hc)
  · exact K.step (fun p e below T c h hx hb0 t hr => XS.acmpNo h hx rfl (hb hb0 hd) rfl (by simp [if_acmp.holds, hc]) hr) (hf hc)
theorem Cx.lsHit (K : Cx l R Z n0 Q own nm bytes maxL ret m G) {dflt : Int} {pairs : Array (Int × Int)} {len : Nat} {k : Int32} {a off : Int} (hd : decode bytes pc = .ok (.lookupswitch dflt pairs, len)) (hsorted : (pairs.toList.zip (pairs.toList.drop 1)).all (fun (a, next) => a.1 < next.1) = true) (hfind : pairs.find? (·.1 == k.toInt) = some (a, off)) (ho : 0 ≤ (pc : Int) + off) (hq : ((pc : Int) + off).toNat = pc2) (hr : G h kc ks (mkF m pc2 L S)) : G h kc ks (mkF m pc L (.int k :: S)) := by
  subst hq
  exact K.stepX (h' := h) (fun p e s args below meth c T locs X eT hx hb0 hown hZ => ⟨T, X, eT, fun t hr => X.lookupswitchHit hx (g := mkF m pc L (.int k :: S)) rfl rfl (hb hb0 hd) hsorted hfind ho _ hr⟩) hr
theorem Cx.lsMiss (K : Cx l R Z n0 Q own nm bytes maxL ret m G) {dflt : Int} {pairs : Array (Int × Int)} {len : Nat} {k : Int32} (hd : decode bytes pc = .ok (.lookupswitch dflt pairs, len)) (hsorted : (pairs.toList.zip (pairs.toList.drop 1)).all (fun (a, next) => a.1 < next.1) = true) (hfind : ∀ p ∈ pairs.toList, p.1 ≠ k.toInt) (ho : 0 ≤ (pc : Int) + dflt) (hq : ((pc : Int) + dflt).toNat = pc2) (hr : G h kc ks (mkF m pc2 L S)) : G h kc ks (mkF m pc L (.int k :: S)) := by
  subst hq
  exact K.stepX (h' := h) (fun p e s args below meth c T locs X eT hx hb0 hown hZ => ⟨T, X, eT, fun t hr => X.lookupswitchMiss hx (g := mkF m pc L (.int k :: S)) rfl rfl (hb hb0 hd) hsorted (find_miss hfind) ho _ hr⟩) hr
theorem Cx.ldcI (K : Cx l R Z n0 Q own nm bytes maxL ret m G) {index : Nat} {v : Int32} (hd : decode bytes pc = .ok (.ldc index, 2)) (hp : pc + 2 = pc') (w : (Cond.constant own index v).before a0 Z = true) (hr : G h kc ks (mkF m pc' L (.int v :: S))) : G h kc ks (mkF m pc L S) := by
  subst hp
  exact K.stepX (h' := h) (fun p e s args below meth c T locs X eT hx hb0 hown hZ => ⟨T, X, eT, X.ldcInt hx hown (mvT hZ w) (g := mkF m pc L S) rfl (hb hb0 hd)⟩) hr
theorem Cx.ldcwI (K : Cx l R Z n0 Q own nm bytes maxL ret m G) {index : Nat} {v : Int32} (hd : decode bytes pc = .ok (.ldc_w index, 3)) (hp : pc + 3 = pc') (w : (Cond.constant own index v).before a0 Z = true) (hr : G h kc ks (mkF m pc' L (.int v :: S))) : G h kc ks (mkF m pc L S) := by
  subst hp
  exact K.stepX (h' := h) (fun p e s args below meth c T locs X eT hx hb0 hown hZ => ⟨T, X, eT, X.ldcwInt hx hown (mvT hZ w) (g := mkF m pc L S) rfl (hb hb0 hd)⟩) hr
theorem Cx.ldc2J (K : Cx l R Z n0 Q own nm bytes maxL ret m G) {index : Nat} {v : Int64} (hd : decode bytes pc = .ok (.ldc2_w index, 3)) (hp : pc + 3 = pc') (w : (Cond.constantLong own index v).before a0 Z = true) (hr : G h kc ks (mkF m pc' L (.long v :: S))) : G h kc ks (mkF m pc L S) := by
  subst hp
  exact K.stepX (h' := h) (fun p e s args below meth c T locs X eT hx hb0 hown hZ => ⟨T, X, eT, X.ldc2Long hx hown (mvT hZ w) (g := mkF m pc L S) rfl (hb hb0 hd)⟩) hr
theorem Cx.ldc2D (K : Cx l R Z n0 Q own nm bytes maxL ret m G) {index : Nat} {v : UInt64} (hd : decode bytes pc = .ok (.ldc2_w index, 3)) (hp : pc + 3 = pc') (w : (Cond.constantDouble own index v).before a0 Z = true) (hr : G h kc ks (mkF m pc' L (.double v :: S))) : G h kc ks (mkF m pc L S) := by
  subst hp
  exact K.stepX (h' := h) (fun p e s args below meth c T locs X eT hx hb0 hown hZ => ⟨T, X, eT, X.ldc2DoubleC hx hown (mvT hZ w) (g := mkF m pc L S) rfl (hb hb0 hd)⟩) hr
theorem Cx.getf (K : Cx l R Z n0 Q own nm bytes maxL ret m G) {R0 O n d host : String} {index : Nat} {a : Addr} {v : Value} (hd : decode bytes pc = .ok (.getfield index, 3)) (hp : pc + 3 = pc') (w : (Cond.fieldLink own index R0 n d).before a0 Z = true ∨ (Cond.fieldLinkNest own index R0 n d host).before a0 Z = true) (via : Via Z R0 O n d) (F : Fld Z h a O n d v) (hr : G h kc ks (mkF m pc' L (v :: S))) : G h kc ks (mkF m pc L (.ref a :: S)) := by
  subst hp
  exact K.stepX (h' := h) (fun p e s args below meth c T locs X eT hx hb0 hown hZ => RoadKit.getF X hx hZ hown w via eT F (g := mkF m pc L (.ref a :: S)) rfl rfl (hb hb0 hd)) hr
theorem Cx.gets (K : Cx l R Z n0 Q own nm bytes maxL ret m G) {R0 O n d host : String} {index : Nat} {v : Value} (hd : decode bytes pc = .ok (.getstatic index, 3)) (hp : pc + 3 = pc') (w : (Cond.fieldLink own index R0 n d).before a0 Z = true ∨ (Cond.fieldLinkNest own index R0 n d host).before a0 Z = true) (via : Via Z R0 O n d) (F : Sta Z h O n d v) (hr : G h kc ks (mkF m pc' L (v :: S))) : G h kc ks (mkF m pc L S) := by
  subst hp
  exact K.stepX (h' := h) (fun p e s args below meth c T locs X eT hx hb0 hown hZ => RoadKit.getS2 X hx hZ hown w via eT F (g := mkF m pc L S) rfl (hb hb0 hd)) hr
theorem Cx.putf (K : Cx l R Z n0 Q own nm bytes maxL ret m G) {R0 O n d host C : String} {index kk : Nat} {ty : FieldType} {a : Addr} {v old : Value} (hd : decode bytes pc = .ok (.putfield index, 3)) (hp : pc + 3 = pc') (w : (Cond.fieldLink own index R0 n d).before a0 Z = true ∨ (Cond.fieldLinkNest own index R0 n d host).before a0 Z = true) (via : Via Z R0 O n d) (F : Fld Z h a O n d old) (E : Exa Z h a C)
    (LL : (Cond.lays C O n d).before a0 Z = true ∨ ((Cond.laysFinal C O n d).before a0 Z = true ∧ own = O ∧ nm = "<init>")) (wi : (Cond.instantiable C kk).before a0 Z = true) (hty : parseFieldDescriptor d = some ty) (hn : narrow ty v = v) (hf : fits ty v = true) (ga : n0 ≤ a)
    (hr : ∀ h', Wr h h' a (Jvm.RoadKit.slotOf Z O n d) v → G h' kc ks (mkF m pc' L S)) : G h kc ks (mkF m pc L (v :: .ref a :: S)) := by
  obtain ⟨p, e, s, args, below, meth, c, rfl, hx, hby, hml, hown, hZ, hret, hlk, hnm⟩ := K
  subst hp
  intro T locs X eT N
  obtain ⟨T', h', X', e', W, st⟩ := RoadKit.putF X hx hZ hown w via eT F E (LL.imp id fun q => ⟨q.1, q.2.1, hnm.trans q.2.2⟩) wi hty hn hf (g := mkF m pc L (v :: .ref a :: S)) rfl rfl (hb hby hd)
  obtain ⟨s₂, o, h1, h2⟩ := hr h' W T' _ X' e' (Fr.snoc X' N ga)
  exact ⟨s₂, o, st _ h1, h2⟩
theorem Cx.newo (K : Cx l R Z n0 Q own nm bytes maxL ret m G) {C : String} {index n : Nat} (hd : decode bytes pc = .ok (.new index, 3)) (hp : pc + 3 = pc') (w : (Cond.classLink own index C).before a0 Z = true) (wi : (Cond.instantiable C n).before a0 Z = true) (wz : (Cond.initialized C).before a0 Z = true) (hc : kc + 1 ≤ R.cells) (hl : ks + n ≤ R.slots)
    (hr : ∀ h' a, a = h.size → Ext h h' → Exa Z h' a C → (∀ {O nm d : String} {ty : FieldType}, Laid Z a0 C O nm d → parseFieldDescriptor d = some ty → Fld Z h' a O nm d (defaultValue ty)) → G h' (kc + 1) (ks + n) (mkF m pc' L (.ref a :: S))) : G h kc ks (mkF m pc L S) := by
  obtain ⟨p, e, s, args, below, meth, c, rfl, hx, hby, hml, hown, hZ, hret, hlk, hnm⟩ := K
  subst hp
  intro T locs X eT N
  obtain ⟨T', h', X', e', E, A, D, -, st⟩ := RoadKit.newO X hx hZ hown w wi wz eT (g := mkF m pc L S) rfl (hb hby hd) hc hl
  obtain ⟨s₂, o, h1, h2⟩ := hr h' _ rfl E A D T' _ X' e' N
  exact ⟨s₂, o, st _ h1, h2⟩
theorem Cx.newa (K : Cx l R Z n0 Q own nm bytes maxL ret m G) {aty : ArrayType} {n : Int32} {k cap : Nat} (hd : decode bytes pc = .ok (.newarray aty, 2)) (hp : pc + 2 = pc') (w : (Cond.arrayClass (newarray.typeOf aty)).before a0 Z = true) (hn : n.toInt = (k : Nat)) (hk : k ≤ cap) (hbig : cap * 8 ≤ 536870912) (hc : kc + 1 ≤ R.cells) (hl : ks + cap ≤ R.slots) {ad : String} (had : "[" ++ (newarray.typeOf aty).toString = ad)
    (hr : ∀ h' a, a = h.size → Ext h h' → Ary Z h' a (newarray.typeOf aty) (List.replicate k (defaultValue (newarray.typeOf aty))) → Exa Z h' a ad → G h' (kc + 1) (ks + cap) (mkF m pc' L (.ref a :: S))) : G h kc ks (mkF m pc L (.int n :: S)) := by
  obtain ⟨p, e, s, args, below, meth, c, rfl, hx, hby, hml, hown, hZ, hret, hlk, hnm⟩ := K
  subst hp
  intro T locs X eT N
  have hn0 : ¬ n < 0 := by rw [Int32.lt_iff_toInt_lt, hn, show (0 : Int32).toInt = 0 from rfl]; omega
  obtain ⟨T', h', cA, X', e', E, A, EX, st⟩ := RoadKit.newPE X hx hZ w eT (g := mkF m pc L (.int n :: S)) rfl (hb hby hd) rfl hn0 (cap := cap) (by rw [clamp_of hn]; exact hk) hbig hc hl had
  obtain ⟨s₂, o, h1, h2⟩ := hr h' _ rfl E ⟨_, A, by simp [newA, clamp_of hn], by rw [List.length_replicate]; have := n.toInt_lt; omega⟩ EX T' _ X' e' N
  exact ⟨s₂, o, st _ h1, h2⟩
theorem Cx.iald (K : Cx l R Z n0 Q own nm bytes maxL ret m G) {a : Addr} {vs : List Value} {j : Int32} {i : Nat} {v : Value} (hd : decode bytes pc = .ok (.iaload, 1)) (hp : pc + 1 = pc') (A : Ary Z h a .int vs) (hj : j.toInt = (i : Nat)) (hv : vs[i]? = some v) (hr : G h kc ks (mkF m pc' L (v :: S))) : G h kc ks (mkF m pc L (.int j :: .ref a :: S)) := by
  subst hp
  obtain ⟨cl, Ar, rfl, hlt⟩ := A
  have hi : i < cl.slots.toList.length := (List.getElem?_eq_some_iff.mp hv).1
  exact K.stepX (h' := h) (fun p e s args below meth c T locs X eT hx hb0 hown hZ => ⟨T, X, eT, fun t hr => X.iaload hx (j := j) (v := v) (by rw [eT]; exact Ar.1) (State.isArrayOf_alike hZ.alike Ar.2.1) Ar.2.2 (in_of hj hi) (at_of hj hv) (g := mkF m pc L (.int j :: .ref a :: S)) rfl rfl (hb hb0 hd) _ hr⟩) hr
theorem Cx.lald (K : Cx l R Z n0 Q own nm bytes maxL ret m G) {a : Addr} {vs : List Value} {j : Int32} {i : Nat} {v : Value} (hd : decode bytes pc = .ok (.laload, 1)) (hp : pc + 1 = pc') (A : Ary Z h a .long vs) (hj : j.toInt = (i : Nat)) (hv : vs[i]? = some v) (hr : G h kc ks (mkF m pc' L (v :: S))) : G h kc ks (mkF m pc L (.int j :: .ref a :: S)) := by
  subst hp
  obtain ⟨cl, Ar, rfl, hlt⟩ := A
  have hi : i < cl.slots.toList.length := (List.getElem?_eq_some_iff.mp hv).1
  exact K.stepX (h' := h) (fun p e s args below meth c T locs X eT hx hb0 hown hZ => ⟨T, X, eT, fun t hr => X.laload hx (j := j) (v := v) (by rw [eT]; exact Ar.1) (State.isArrayOf_alike hZ.alike Ar.2.1) Ar.2.2 (in_of hj hi) (at_of hj hv) (g := mkF m pc L (.int j :: .ref a :: S)) rfl rfl (hb hb0 hd) _ hr⟩) hr
theorem Cx.cald (K : Cx l R Z n0 Q own nm bytes maxL ret m G) {a : Addr} {vs : List Value} {j : Int32} {i : Nat} {v : Value} (hd : decode bytes pc = .ok (.caload, 1)) (hp : pc + 1 = pc') (A : Ary Z h a .char vs) (hj : j.toInt = (i : Nat)) (hv : vs[i]? = some v) (hr : G h kc ks (mkF m pc' L (v :: S))) : G h kc ks (mkF m pc L (.int j :: .ref a :: S)) := by
  subst hp
  obtain ⟨cl, Ar, rfl, hlt⟩ := A
  have hi : i < cl.slots.toList.length := (List.getElem?_eq_some_iff.mp hv).1
  exact K.stepX (h' := h) (fun p e s args below meth c T locs X eT hx hb0 hown hZ => ⟨T, X, eT, fun t hr => X.caload hx (j := j) (v := v) (by rw [eT]; exact Ar.1) (State.isArrayOf_alike hZ.alike Ar.2.1) Ar.2.2 (in_of hj hi) (at_of hj hv) (g := mkF m pc L (.int j :: .ref a :: S)) rfl rfl (hb hb0 hd) _ hr⟩) hr
theorem Cx.bald (K : Cx l R Z n0 Q own nm bytes maxL ret m G) {a : Addr} {vs : List Value} {j : Int32} {i : Nat} {v : Value} (hd : decode bytes pc = .ok (.baload, 1)) (hp : pc + 1 = pc') (A : Ary Z h a .byte vs) (hj : j.toInt = (i : Nat)) (hv : vs[i]? = some v) (hr : G h kc ks (mkF m pc' L (v :: S))) : G h kc ks (mkF m pc L (.int j :: .ref a :: S)) := by
  subst hp
  obtain ⟨cl, Ar, rfl, hlt⟩ := A
  have hi : i < cl.slots.toList.length := (List.getElem?_eq_some_iff.mp hv).1
  exact K.stepX (h' := h) (fun p e s args below meth c T locs X eT hx hb0 hown hZ => ⟨T, X, eT, fun t hr => X.baloadBytes hx (j := j) (v := v) (by rw [eT]; exact Ar.1) (State.isArrayOf_alike hZ.alike Ar.2.1) Ar.2.2 (in_of hj hi) (at_of hj hv) (g := mkF m pc L (.int j :: .ref a :: S)) rfl rfl (hb hb0 hd) _ hr⟩) hr
theorem Cx.alen (K : Cx l R Z n0 Q own nm bytes maxL ret m G) {a : Addr} {vs : List Value} {ty : FieldType} (hd : decode bytes pc = .ok (.arraylength, 1)) (hp : pc + 1 = pc') (A : Ary Z h a ty vs) (hr : ∀ z : Int32, z.toInt = (vs.length : Nat) → G h kc ks (mkF m pc' L (.int z :: S))) : G h kc ks (mkF m pc L (.ref a :: S)) := by
  subst hp
  obtain ⟨cl, Ar, rfl, hlt⟩ := A
  refine K.stepX (h' := h) (f' := mkF m (pc + 1) L (.int cl.slots.size.toInt32 :: S)) (fun p e s args below meth c T locs X eT hx hb0 hown hZ => ⟨T, X, eT, fun t hr => X.arraylength hx (by rw [eT]; exact Ar.1) (State.isArrayOf_alike hZ.alike Ar.2.1) (g := mkF m pc L (.ref a :: S)) rfl rfl (hb hb0 hd) _ hr⟩) (hr _ ?_)
  rw [Array.length_toList] at hlt ⊢
  exact len_int hlt
theorem Cx.iast (K : Cx l R Z n0 Q own nm bytes maxL ret m G) {a : Addr} {vs : List Value} {j : Int32} {x : Int32} {i : Nat} (hd : decode bytes pc = .ok (.iastore, 1)) (hp : pc + 1 = pc') (A : Ary Z h a .int vs) (hj : j.toInt = (i : Nat)) (hi : i < vs.length) (ga : n0 ≤ a) (hr : ∀ h', Wr h h' a i (.int x) → Ary Z h' a .int (vs.set i (.int x)) → G h' kc ks (mkF m pc' L S)) : G h kc ks (mkF m pc L (.int x :: .int j :: .ref a :: S)) := by
  obtain ⟨p, e, s, args, below, meth, c, rfl, hx, hby, hml, hown, hZ, hret, hlk, hnm⟩ := K
  subst hp
  intro T locs X eT N
  have A0 := A
  obtain ⟨cl, Ar, rfl, hlt⟩ := A
  obtain ⟨T', h', X', e', W, st⟩ := RoadKit.stI X hx hZ eT Ar (j := j) (in_of hj hi) (g := mkF m pc L (.int x :: .int j :: .ref a :: S)) rfl rfl (hb hby hd)
  have W' := W
  rw [clamp_of hj] at W'
  obtain ⟨s₂, o, h1, h2⟩ := hr h' W' (A0.same W') T' _ X' e' (Fr.snoc X' N ga)
  exact ⟨s₂, o, st _ h1, h2⟩
theorem Cx.last (K : Cx l R Z n0 Q own nm bytes maxL ret m G) {a : Addr} {vs : List Value} {j : Int32} {x : Int64} {i : Nat} (hd : decode bytes pc = .ok (.lastore, 1)) (hp : pc + 1 = pc') (A : Ary Z h a .long vs) (hj : j.toInt = (i : Nat)) (hi : i < vs.length) (ga : n0 ≤ a) (hr : ∀ h', Wr h h' a i (.long x) → Ary Z h' a .long (vs.set i (.long x)) → G h' kc ks (mkF m pc' L S)) : G h kc ks (mkF m pc L (.long x :: .int j :: .ref a :: S)) := by
  obtain ⟨p, e, s, args, below, meth, c, rfl, hx, hby, hml, hown, hZ, hret, hlk, hnm⟩ := K
  subst hp
  intro T locs X eT N
  have A0 := A
  obtain ⟨cl, Ar, rfl, hlt⟩ := A
  obtain ⟨T', h', X', e', W, st⟩ := RoadKit.stJ X hx hZ eT Ar (j := j) (in_of hj hi) (g := mkF m pc L (.long x :: .int j :: .ref a :: S)) rfl rfl (hb hby hd)
  have W' := W
  rw [clamp_of hj] at W'
  obtain ⟨s₂, o, h1, h2⟩ := hr h' W' (A0.same W') T' _ X' e' (Fr.snoc X' N ga)
  exact ⟨s₂, o, st _ h1, h2⟩
theorem Cx.cast_ (K : Cx l R Z n0 Q own nm bytes maxL ret m G) {a : Addr} {vs : List Value} {j : Int32} {x : Int32} {i : Nat} (hd : decode bytes pc = .ok (.castore, 1)) (hp : pc + 1 = pc') (A : Ary Z h a .char vs) (hj : j.toInt = (i : Nat)) (hi : i < vs.length) (ga : n0 ≤ a) (hr : ∀ h', Wr h h' a i (.int (nar .char x)) → Ary Z h' a .char (vs.set i (.int (nar .char x))) → G h' kc ks (mkF m pc' L S)) : G h kc ks (mkF m pc L (.int x :: .int j :: .ref a :: S)) := by
  obtain ⟨p, e, s, args, below, meth, c, rfl, hx, hby, hml, hown, hZ, hret, hlk, hnm⟩ := K
  subst hp
  intro T locs X eT N
  have A0 := A
  obtain ⟨cl, Ar, rfl, hlt⟩ := A
  obtain ⟨T', h', X', e', W, st⟩ := RoadKit.stC X hx hZ eT Ar (j := j) (in_of hj hi) (g := mkF m pc L (.int x :: .int j :: .ref a :: S)) rfl rfl (hb hby hd)
  have W' := W
  rw [clamp_of hj] at W'
  obtain ⟨s₂, o, h1, h2⟩ := hr h' W' (A0.same W') T' _ X' e' (Fr.snoc X' N ga)
  exact ⟨s₂, o, st _ h1, h2⟩
theorem Cx.bast (K : Cx l R Z n0 Q own nm bytes maxL ret m G) {a : Addr} {vs : List Value} {j : Int32} {x : Int32} {i : Nat} (hd : decode bytes pc = .ok (.bastore, 1)) (hp : pc + 1 = pc') (A : Ary Z h a .byte vs) (hj : j.toInt = (i : Nat)) (hi : i < vs.length) (ga : n0 ≤ a) (hr : ∀ h', Wr h h' a i (.int (nar .byte x)) → Ary Z h' a .byte (vs.set i (.int (nar .byte x))) → G h' kc ks (mkF m pc' L S)) : G h kc ks (mkF m pc L (.int x :: .int j :: .ref a :: S)) := by
  obtain ⟨p, e, s, args, below, meth, c, rfl, hx, hby, hml, hown, hZ, hret, hlk, hnm⟩ := K
  subst hp
  intro T locs X eT N
  have A0 := A
  obtain ⟨cl, Ar, rfl, hlt⟩ := A
  obtain ⟨T', h', X', e', W, st⟩ := RoadKit.stB X hx hZ eT Ar (j := j) (in_of hj hi) (g := mkF m pc L (.int x :: .int j :: .ref a :: S)) rfl rfl (hb hby hd)
  have W' := W
  rw [clamp_of hj] at W'
  obtain ⟨s₂, o, h1, h2⟩ := hr h' W' (A0.same W') T' _ X' e' (Fr.snoc X' N ga)
  exact ⟨s₂, o, st _ h1, h2⟩
theorem Cx.init0 (K : Cx l R Z n0 Q own nm bytes maxL ret m G) {idx W : Nat} {a : Addr} (hd : decode bytes pc = .ok (.invokespecial idx, 3)) (hp : pc + 3 = pc') (w1 : (Cond.methodLink own idx Lib.objectInit).before a0 Z = true) (w2 : (Cond.instanceMethod Lib.objectInit).before a0 Z = true) (w3 : (Cond.code Lib.objectInit ⟨#[0xb1]⟩ 1 none).before a0 Z = true) (hL : L.size = maxL) (hf : 1 ≤ R.frames) (hW : (S.map fun v => v.category).sum ≤ W) (hl : W + 12 ≤ R.locals)
    (hr : G h kc ks (mkF m pc' L S)) : G h kc ks (mkF m pc L (.ref a :: S)) := by
  obtain ⟨p, e, s, args, below, meth, c, rfl, hx, hby, hml, hown, hZ, hret, hlk, hnm⟩ := K
  subst hp
  intro T locs X eT N
  obtain ⟨T', X', e', st⟩ := RoadKit.initO X hx hZ hown w1 w2 w3 eT (g := mkF m pc L (.ref a :: S)) rfl (by rw [hml]; exact hL) rfl (hb hby hd) hf (W := W) (by show 2 * 0 + _ ≤ _; omega) hl
  obtain ⟨s₂, o, h1, h2⟩ := hr T' _ X' e' N
  exact ⟨s₂, o, st _ h1, h2⟩
theorem Cx.calls (K : Cx l R Z n0 Q own nm bytes maxL ret m G) {y : MethodName} {b' : ByteArray} {ml' : Nat} {rt' r : Option FieldType} {rm : Room} {Qc : Option Value → Heap → Prop} {index : Nat} {argsL rest : List Value} {W : Nat} {ps : List FieldType} (hd : decode bytes pc = .ok (.invokestatic index, 3)) (hp : pc + 3 = pc') (M : MeetsW l Z n0 y b' ml' rt' rm argsL.toArray h Qc) (w1 : (Cond.methodLink own index y).before a0 Z = true) (w2 : (Cond.static y).before a0 Z = true) (w3 : (Cond.initialized y.cls).before a0 Z = true) (w4 : (Cond.code y b' ml' rt').before a0 Z = true) (hy : y.cls ≠ "java/lang/invoke/MethodHandle" ∧ y.cls ≠ "java/lang/invoke/VarHandle") (hpd : parseMethodDescriptor y.desc = some ⟨ps, r⟩) (hlen : argsL.length = ps.length) (hL : L.size = maxL) (hW : (rest.map fun v => v.category).sum ≤ W) (hf : rm.frames + 1 ≤ R.frames) (hl : W + (ml' + 11) + rm.locals ≤ R.locals) (hc : kc + rm.cells ≤ R.cells) (hsl : ks + rm.slots ≤ R.slots) (hr : ∀ v h', Qc v h' → G h' (kc + rm.cells) (ks + rm.slots) (mkF m pc' L (v.toList ++ rest))) : G h kc ks (mkF m pc L (argsL.reverse ++ rest)) := by
  obtain ⟨p, e, s, args, below, meth, c, rfl, hx, hby, hml, hown, hZ, hret, hlk, hnm⟩ := K
  subst hp
  intro T locs X eT N
  obtain ⟨v, _, ⟨T', Lo, ko, no⟩, -, X', ⟨Lc, hQ, l', y', z'⟩, st⟩ := Jvm.LawKit.callS X hx (y := y) hown (mvT hZ w1) (mvT hZ w2) (mvT hZ w3) (mvT hZ w4) hy (backOf (Q := fun v h L => Qc v h ∧ Fr n0 L) (W := W) (M []) hZ w4 w3 hf hl) (g := mkF m pc L (argsL.reverse ++ rest)) rfl (by rw [hml]; exact hL) (argsL := argsL) (rest := rest) (lenOf hpd hlen) rfl (by show 2 * 0 + _ ≤ _; omega) (hb hby hd) (fun _ _ => ⟨rfl, eT, hc, hsl⟩)
  dsimp only [Pt.U, Pt.locs, Pt.cells, Pt.slots] at X' l' y' z' st hQ
  subst l' y' z'
  obtain ⟨s₂, o, h1, h2⟩ := hr v T'.heap hQ.1 T' _ X' rfl (Fr.app N hQ.2)
  exact ⟨s₂, o, st _ h1, h2⟩
theorem Cx.callc (K : Cx l R Z n0 Q own nm bytes maxL ret m G) {y : MethodName} {b' : ByteArray} {ml' : Nat} {r : Option FieldType} {rm : Room} {Qc : Option Value → Heap → Prop} {index : Nat} {argsL rest : List Value} {W : Nat} {ps : List FieldType} {a : Addr} (hd : decode bytes pc = .ok (.invokespecial index, 3)) (hp : pc + 3 = pc') (hi : y.name = "<init>") (M : MeetsW l Z n0 y b' ml' none rm (Value.ref a :: argsL).toArray h Qc) (w1 : (Cond.methodLink own index y).before a0 Z = true) (w2 : (Cond.instanceMethod y).before a0 Z = true) (w3 : (Cond.initialized y.cls).before a0 Z = true) (w4 : (Cond.code y b' ml' none).before a0 Z = true) (hy : y.cls ≠ "java/lang/invoke/MethodHandle" ∧ y.cls ≠ "java/lang/invoke/VarHandle") (hpd : parseMethodDescriptor y.desc = some ⟨ps, r⟩) (hlen : argsL.length = ps.length) (hL : L.size = maxL) (hW : (rest.map fun v => v.category).sum ≤ W) (hf : rm.frames + 1 ≤ R.frames) (hl : W + (ml' + 11) + rm.locals ≤ R.locals) (hc : kc + rm.cells ≤ R.cells) (hsl : ks + rm.slots ≤ R.slots) (hr : ∀ v h', Qc v h' → G h' (kc + rm.cells) (ks + rm.slots) (mkF m pc' L (v.toList ++ rest))) : G h kc ks (mkF m pc L (argsL.reverse ++ .ref a :: rest)) := by
  obtain ⟨p, e, s, args, below, meth, c, rfl, hx, hby, hml, hown, hZ, hret, hlk, hnm⟩ := K
  subst hp
  intro T locs X eT N
  obtain ⟨v, _, ⟨T', Lo, ko, no⟩, -, X', ⟨Lc, hQ, l', y', z'⟩, st⟩ := X.specialBack hx (y := y) hi hown (mvT hZ w1) (mvT hZ w2) (mvT hZ w4) hy (backOf (Q := fun v h L => Qc v h ∧ Fr n0 L) (W := W) (M []) hZ w4 w3 hf hl) (g := mkF m pc L (argsL.reverse ++ .ref a :: rest)) rfl (by rw [hml]; exact hL) (Steps.refl _) (a := a) (argsL := argsL) (rest := rest) (lenOf hpd hlen) rfl (by show 2 * 0 + _ ≤ _; omega) (hb hby hd) (fun _ _ => ⟨rfl, eT, hc, hsl⟩)
  dsimp only [Pt.U, Pt.locs, Pt.cells, Pt.slots] at X' l' y' z' st hQ
  subst l' y' z'
  obtain ⟨s₂, o, h1, h2⟩ := hr v T'.heap hQ.1 T' _ X' rfl (Fr.app N hQ.2)
  exact ⟨s₂, o, st.trans h1, h2⟩
theorem Cx.callv (K : Cx l R Z n0 Q own nm bytes maxL ret m G) {y z : MethodName} {b' : ByteArray} {ml' : Nat} {rt' r : Option FieldType} {rm : Room} {Qc : Option Value → Heap → Prop} {index : Nat} {argsL rest : List Value} {W : Nat} {ps : List FieldType} {C : String} {a : Addr} (hd : decode bytes pc = .ok (.invokevirtual index, 3)) (hp : pc + 3 = pc') (M : MeetsW l Z n0 z b' ml' rt' rm (Value.ref a :: argsL).toArray h Qc) (E : Exa Z h a C) (w1 : (Cond.methodLink own index y).before a0 Z = true) (w5 : (Cond.declares y).before a0 Z = true) (nf : ∀ s : State, Z.Warmed39 s.vm → NotFace s y) (w6 : (Cond.selects C y z).before a0 Z = true) (w2 : (Cond.instanceMethod z).before a0 Z = true) (w3 : (Cond.initialized z.cls).before a0 Z = true) (w4 : (Cond.code z b' ml' rt').before a0 Z = true) (hy : y.cls ≠ "java/lang/invoke/MethodHandle" ∧ y.cls ≠ "java/lang/invoke/VarHandle") (hpd : parseMethodDescriptor y.desc = some ⟨ps, r⟩) (hlen : argsL.length = ps.length) (hL : L.size = maxL) (hW : (rest.map fun v => v.category).sum ≤ W) (hf : rm.frames + 1 ≤ R.frames) (hl : W + (ml' + 11) + rm.locals ≤ R.locals) (hc : kc + rm.cells ≤ R.cells) (hsl : ks + rm.slots ≤ R.slots) (hr : ∀ v h', Qc v h' → G h' (kc + rm.cells) (ks + rm.slots) (mkF m pc' L (v.toList ++ rest))) : G h kc ks (mkF m pc L (argsL.reverse ++ .ref a :: rest)) := by
  obtain ⟨p, e, s, args, below, meth, c, rfl, hx, hby, hml, hown, hZ, hret, hlk, hnm⟩ := K
  subst hp
  intro T locs X eT N
  obtain ⟨cq, kq, qa, qb, qc⟩ := isOf hZ eT E
  obtain ⟨v, _, ⟨T', Lo, ko, no⟩, -, X', ⟨Lc, hQ, l', y', z'⟩, st⟩ := X.virtualBack hx (y := y) (z := z) hown (mvT hZ w1) (mvT hZ w5) (nf s hZ) (mvT hZ w6) (mvT hZ w2) hy (backOf (Q := fun v h L => Qc v h ∧ Fr n0 L) (W := W) (M []) hZ w4 w3 hf hl) qa qc (g := mkF m pc L (argsL.reverse ++ .ref a :: rest)) rfl (by rw [hml]; exact hL) (Steps.refl _) (argsL := argsL) (rest := rest) (lenOf hpd hlen) rfl (by show 2 * 0 + _ ≤ _; omega) (hb hby hd) (fun _ _ => ⟨rfl, eT, hc, hsl⟩)
  dsimp only [Pt.U, Pt.locs, Pt.cells, Pt.slots] at X' l' y' z' st hQ
  subst l' y' z'
  obtain ⟨s₂, o, h1, h2⟩ := hr v T'.heap hQ.1 T' _ X' rfl (Fr.app N hQ.2)
  exact ⟨s₂, o, st.trans h1, h2⟩
theorem nf_sel {y z : MethodName} {C : String} (w : (Cond.selects C y z).before a0 Z = true) (hyz : y = z) : ∀ s : State, Z.Warmed39 s.vm → NotFace s y := fun s hZ => by subst hyz; exact notFace_of_selects (args := #[]) (mvT hZ w)
theorem Cx.callp (K : Cx l R Z n0 Q own nm bytes maxL ret m G) {y : MethodName} {b' : ByteArray} {ml' : Nat} {rt' r : Option FieldType} {rm : Room} {Qc : Option Value → Heap → Prop} {index : Nat} {argsL rest : List Value} {W : Nat} {ps : List FieldType} {C : String} {a : Addr} (hd : decode bytes pc = .ok (.invokevirtual index, 3)) (hp : pc + 3 = pc') (M : MeetsW l Z n0 y b' ml' rt' rm (Value.ref a :: argsL).toArray h Qc) (E : Exa Z h a C) (w1 : (Cond.methodLink own index y).before a0 Z = true) (w2 : (Cond.instanceMethod y).before a0 Z = true) {kk : Nat} (wi : (Cond.instantiable y.cls kk).before a0 Z = true) (w7 : (Cond.privateMethod y).before a0 Z = true) (w3 : (Cond.initialized y.cls).before a0 Z = true) (w4 : (Cond.code y b' ml' rt').before a0 Z = true) (hy : y.cls ≠ "java/lang/invoke/MethodHandle" ∧ y.cls ≠ "java/lang/invoke/VarHandle") (hpd : parseMethodDescriptor y.desc = some ⟨ps, r⟩) (hlen : argsL.length = ps.length) (hL : L.size = maxL) (hW : (rest.map fun v => v.category).sum ≤ W) (hf : rm.frames + 1 ≤ R.frames) (hl : W + (ml' + 11) + rm.locals ≤ R.locals) (hc : kc + rm.cells ≤ R.cells) (hsl : ks + rm.slots ≤ R.slots) (hr : ∀ v h', Qc v h' → G h' (kc + rm.cells) (ks + rm.slots) (mkF m pc' L (v.toList ++ rest))) : G h kc ks (mkF m pc L (argsL.reverse ++ .ref a :: rest)) := by
  obtain ⟨p, e, s, args, below, meth, c, rfl, hx, hby, hml, hown, hZ, hret, hlk, hnm⟩ := K
  subst hp
  intro T locs X eT N
  obtain ⟨cq, q1, q2⟩ := E.cell
  have hpriv : s.PrivateAt y := Cond.privateMethod_at (mvP hZ w7 (args := #[]))
  obtain ⟨c0, k0, i1, i2, i3, i4, -⟩ := Cond.instantiable_spec (show (Cond.instantiable y.cls kk).before args s = true from mvT hZ wi)
  have w6 : (Cond.selects y.cls y y).before args s = true := selects_self_of_private i1 i2 (by simp only [Bool.or_eq_false_iff] at i4; exact i4.1) hpriv (mvT hZ w2) hy
  obtain ⟨v, _, ⟨T', Lo, ko, no⟩, -, X', ⟨Lc, hQ, l', y', z'⟩, st⟩ := X.privateBack hx (y := y) hown (mvT hZ w1) (mvT hZ w2) w6 hpriv (mvT hZ w4) hy (backOf (Q := fun v h L => Qc v h ∧ Fr n0 L) (W := W) (M []) hZ w4 w3 hf hl) (g := mkF m pc L (argsL.reverse ++ .ref a :: rest)) rfl (by rw [hml]; exact hL) (Steps.refl _) (a := a) (by rw [eT]; exact q1) q2 (argsL := argsL) (rest := rest) (lenOf hpd hlen) rfl (by show 2 * 0 + _ ≤ _; omega) (hb hby hd) (fun _ _ => ⟨rfl, eT, hc, hsl⟩)
  dsimp only [Pt.U, Pt.locs, Pt.cells, Pt.slots] at X' l' y' z' st hQ
  subst l' y' z'
  obtain ⟨s₂, o, h1, h2⟩ := hr v T'.heap hQ.1 T' _ X' rfl (Fr.app N hQ.2)
  exact ⟨s₂, o, st.trans h1, h2⟩
theorem Cx.acopy (K : Cx l R Z n0 Q own nm bytes maxL ret m G) {index W i j k : Nat} {a b : Addr} {ty : FieldType} {vs vd : List Value} {sp dp nn : Int32} (dv : Value) (hd : decode bytes pc = .ok (.invokestatic index, 3)) (hp : pc + 3 = pc') (w1 : (Cond.methodLink own index Jvm.Stand.acN).before a0 Z = true) (w2 : (Cond.native Jvm.Stand.acN).before a0 Z = true) (w3 : (Cond.static Jvm.Stand.acN).before a0 Z = true) (w4 : (Cond.initialized "java/lang/System").before a0 Z = true)
    (A : Ary Z h a ty vs) (B : Ary Z h b ty vd) (hpr : refKind ty = false) (hfa : ∀ v ∈ vs, fits ty v = true) (hfb : ∀ v ∈ vd, fits ty v = true) (hdv : fits ty dv = true) (hi : sp.toInt = (i : Nat)) (hj : dp.toInt = (j : Nat)) (hk : nn.toInt = (k : Nat)) (h4 : i + k ≤ vs.length) (h5 : j + k ≤ vd.length) (gb : n0 ≤ b)
    (hL : L.size = maxL) (hf : 1 ≤ R.frames) (hW : (S.map fun v => v.category).sum ≤ W) (hlo : W + (nativeFrameWords "java/lang/System" "arraycopy" 5 + 11) ≤ R.locals)
    (hr : ∀ h', Keep h h' [b] → Ary Z h' b ty (vd.take j ++ ((List.range k).map fun t => vs.getD (i + t) dv) ++ vd.drop (j + k)) → G h' kc ks (mkF m pc' L S)) : G h kc ks (mkF m pc L (.int nn :: .int dp :: .ref b :: .int sp :: .ref a :: S)) := by
  obtain ⟨p, e, s, args, below, meth, c, rfl, hx, hby, hml, hown, hZ, hret, hlk, hnm⟩ := K
  subst hp
  intro T locs X eT N
  obtain ⟨ka, za, ea, VA⟩ := A.toArv hfa hdv
  obtain ⟨kb, zb, eb, VB⟩ := B.toArv hfb hdv
  have neg : ∀ {x : Int32} {n : Nat}, x.toInt = (n : Nat) → ¬ x < 0 := fun {x n} q => by rw [Int32.lt_iff_toInt_lt, q, show (0 : Int32).toInt = 0 from rfl]; omega
  obtain ⟨T', h', Lc, X', e', N', Kp, V, st⟩ := RoadKit.cpA X hx hZ hown w1 w2 w3 w4 eT VA VB (Or.inl ⟨rfl, hpr⟩) (neg hi) (neg hj) (neg hk) (by rw [clamp_of hi, clamp_of hk, clamp_of ea]; exact h4) (by rw [clamp_of hj, clamp_of hk, clamp_of eb]; exact h5) rfl (by rw [clamp_of hj, clamp_of hk]; exact h5) N gb (g := mkF m pc L (.int nn :: .int dp :: .ref b :: .int sp :: .ref a :: S)) rfl (by rw [hml]; exact hL) rfl (hb hby hd) hf (W := W) (by show 2 * 0 + _ ≤ _; omega) hlo
  rw [clamp_of hi, clamp_of hj, clamp_of hk] at V
  obtain ⟨s₂, o, h1, h2⟩ := hr h' Kp (Arv.toAry V (by rw [eb]; simp; omega)) T' _ X' e' N'
  exact ⟨s₂, o, st _ h1, h2⟩
theorem Cx.clone (K : Cx l R Z n0 Q own nm bytes maxL ret m G) {index W cap : Nat} {a : Addr} {ad : String} {ty : FieldType} {vs : List Value} (dv : Value) (hd : decode bytes pc = .ok (.invokevirtual index, 3)) (hp : pc + 3 = pc')
    (w1 : (Cond.methodLink own index ⟨ad, "clone", "()Ljava/lang/Object;"⟩).before a0 Z = true) (w2 : (Cond.sameMethod ad "java/lang/Object" "clone" "()Ljava/lang/Object;").before a0 Z = true) (w3 : (Cond.native ⟨"java/lang/Object", "clone", "()Ljava/lang/Object;"⟩).before a0 Z = true)
    (w4 : (Cond.instanceMethod ⟨"java/lang/Object", "clone", "()Ljava/lang/Object;"⟩).before a0 Z = true) (w5 : (Cond.selects ad ⟨ad, "clone", "()Ljava/lang/Object;"⟩ ⟨"java/lang/Object", "clone", "()Ljava/lang/Object;"⟩).before a0 Z = true) (w6 : (Cond.castable ad "java/lang/Cloneable").before a0 Z = true)
    (A : Ary Z h a ty vs) (E : Exa Z h a ad) (hfv : ∀ v ∈ vs, fits ty v = true) (hdv : fits ty dv = true) (hL : L.size = maxL) (hf : 1 ≤ R.frames) (hW : (S.map fun v => v.category).sum ≤ W) (hl : W + 14 ≤ R.locals) (hcap : vs.length ≤ cap) (hc : kc + 1 ≤ R.cells) (hsl : ks + cap ≤ R.slots)
    (hr : ∀ h' b, b = h.size → Ext h h' → Ary Z h' b ty vs → Exa Z h' b ad → G h' (kc + 1) (ks + cap) (mkF m pc' L (.ref b :: S))) : G h kc ks (mkF m pc L (.ref a :: S)) := by
  obtain ⟨p, e, s, args, below, meth, c, rfl, hx, hby, hml, hown, hZ, hret, hlk, hnm⟩ := K
  subst hp
  intro T locs X eT N
  obtain ⟨ka, za, ea, VA⟩ := A.toArv hfv hdv
  obtain ⟨T', h', X', e', Ex', V, EX, st⟩ := RoadKit.cloneH X hx hZ hown w1 w2 w3 w4 w5 w6 eT VA.arh E (g := mkF m pc L (.ref a :: S)) rfl (by rw [hml]; exact hL) rfl (hb hby hd) hf (W := W) (cap := cap) (by show 2 * 0 + _ ≤ _; omega) hl (by rw [clamp_of ea]; exact hcap) hc hsl
  obtain ⟨s₂, o, h1, h2⟩ := hr h' _ rfl Ex' (Arv.toAry (show Arv Z h' h.size ka ty za vs dv from V) ea) EX T' _ X' e' N
  exact ⟨s₂, o, st _ h1, h2⟩
theorem Cx.ccast (K : Cx l R Z n0 Q own nm bytes maxL ret m G) {index : Nat} {Kc : String} {a : Addr} (hd : decode bytes pc = .ok (.checkcast index, 3)) (hp : pc + 3 = pc') (w : (Cond.classLink own index Kc).before a0 Z = true) (F : Ins Z h a Kc true) (hr : G h kc ks (mkF m pc' L (.ref a :: S))) : G h kc ks (mkF m pc L (.ref a :: S)) := by
  subst hp
  exact K.stepX (h' := h) (fun p e s args below meth c T locs X eT hx hb0 hown hZ => RoadKit.castY X hx hZ hown w eT F (g := mkF m pc L (.ref a :: S)) rfl rfl (hb hb0 hd)) hr
theorem Cx.reti (K : Cx l R Z n0 Q own nm bytes maxL (some .int) m G) {z : Int32} (hd : decode bytes pc = .ok (.ireturn, 1)) (hc : kc ≤ R.cells) (hs : ks ≤ R.slots) (hQ : Q (some (.int z)) h) : G h kc ks (mkF m pc L (.int z :: S)) := by
  obtain ⟨p, e, s, args, below, meth, c, rfl, hx, hby, hml, hown, hZ, hret, hlk, hnm⟩ := K
  intro T locs X eT N
  obtain ⟨fs, hr, hrun, hended, hW, hsame⟩ := X.leave (v := some (.int z)) (fun h => by rw [hret] at h; cases h) hlk
  refine ⟨_, _, ?_, hrun, hended, _, _, rfl, ⟨?_, N⟩, ⟨_, rfl⟩, hW, hsame.mono hc hs⟩
  · exact retOut X hx hret rfl (Or.inl ⟨rfl, Or.inl rfl, _, rfl⟩) (hb hby hd) hr
  · show Q _ T.heap
    rw [eT]; exact hQ
theorem Cx.retz (K : Cx l R Z n0 Q own nm bytes maxL (some .boolean) m G) {z : Int32} (hd : decode bytes pc = .ok (.ireturn, 1)) (hz : z = 0 ∨ z = 1) (hc : kc ≤ R.cells) (hs : ks ≤ R.slots) (hQ : Q (some (.int z)) h) : G h kc ks (mkF m pc L (.int z :: S)) := by
  obtain ⟨p, e, s, args, below, meth, c, rfl, hx, hby, hml, hown, hZ, hret, hlk, hnm⟩ := K
  intro T locs X eT N
  obtain ⟨fs, hr, hrun, hended, hW, hsame⟩ := X.leave (v := some (.int z)) (fun h => by rw [hret] at h; cases h) hlk
  refine ⟨_, _, ?_, hrun, hended, _, _, rfl, ⟨?_, N⟩, ⟨_, rfl⟩, hW, hsame.mono hc hs⟩
  · exact retOut X hx hret (by rcases hz with rfl | rfl <;> rfl) (Or.inl ⟨rfl, Or.inr (Or.inl rfl), _, rfl⟩) (hb hby hd) hr
  · show Q _ T.heap
    rw [eT]; exact hQ
theorem Cx.retl (K : Cx l R Z n0 Q own nm bytes maxL (some .long) m G) {z : Int64} (hd : decode bytes pc = .ok (.lreturn, 1)) (hc : kc ≤ R.cells) (hs : ks ≤ R.slots) (hQ : Q (some (.long z)) h) : G h kc ks (mkF m pc L (.long z :: S)) := by
  obtain ⟨p, e, s, args, below, meth, c, rfl, hx, hby, hml, hown, hZ, hret, hlk, hnm⟩ := K
  intro T locs X eT N
  obtain ⟨fs, hr, hrun, hended, hW, hsame⟩ := X.leave (v := some (.long z)) (fun h => by rw [hret] at h; cases h) hlk
  refine ⟨_, _, ?_, hrun, hended, _, _, rfl, ⟨?_, N⟩, ⟨_, rfl⟩, hW, hsame.mono hc hs⟩
  · exact retOut X hx hret rfl (Or.inr (Or.inl ⟨rfl, rfl, _, rfl⟩)) (hb hby hd) hr
  · show Q _ T.heap
    rw [eT]; exact hQ
theorem Cx.reta {t : FieldType} (K : Cx l R Z n0 Q own nm bytes maxL (some t) m G) {v : Value} (hd : decode bytes pc = .ok (.areturn, 1)) (ht : t.isReference = true) (hn : narrow t v = v) (hv : v.isRef = true) (hc : kc ≤ R.cells) (hs : ks ≤ R.slots) (hQ : Q (some v) h) : G h kc ks (mkF m pc L (v :: S)) := by
  obtain ⟨p, e, s, args, below, meth, c, rfl, hx, hby, hml, hown, hZ, hret, hlk, hnm⟩ := K
  intro T locs X eT N
  obtain ⟨fs, hr, hrun, hended, hW, hsame⟩ := X.leave (v := some v) (fun h => by rw [hret] at h; cases h) hlk
  refine ⟨_, _, ?_, hrun, hended, _, _, rfl, ⟨?_, N⟩, ⟨_, rfl⟩, hW, hsame.mono hc hs⟩
  · exact retOut X hx hret hn (Or.inr (Or.inr (Or.inr (Or.inr ⟨rfl, ht, hv⟩)))) (hb hby hd) hr
  · show Q _ T.heap
    rw [eT]; exact hQ
theorem Cx.retd (K : Cx l R Z n0 Q own nm bytes maxL (some .double) m G) {z : UInt64} (hd : decode bytes pc = .ok (.dreturn, 1)) (hc : kc ≤ R.cells) (hs : ks ≤ R.slots) (hQ : Q (some (.double z)) h) : G h kc ks (mkF m pc L (.double z :: S)) := by
  obtain ⟨p, e, s, args, below, meth, c, rfl, hx, hby, hml, hown, hZ, hret, hlk, hnm⟩ := K
  intro T locs X eT N
  obtain ⟨fs, hr, hrun, hended, hW, hsame⟩ := X.leave (v := some (.double z)) (fun h => by rw [hret] at h; cases h) hlk
  refine ⟨_, _, ?_, hrun, hended, _, _, rfl, ⟨?_, N⟩, ⟨_, rfl⟩, hW, hsame.mono hc hs⟩
  · exact retOut X hx hret rfl (Or.inr (Or.inr (Or.inl ⟨rfl, rfl, _, rfl⟩))) (hb hby hd) hr
  · show Q _ T.heap
    rw [eT]; exact hQ
theorem Cx.ret0 (K : Cx l R Z n0 Q own nm bytes maxL none m G) (hd : decode bytes pc = .ok (.return_, 1)) (hc : kc ≤ R.cells) (hs : ks ≤ R.slots) (hQ : Q none h) : G h kc ks (mkF m pc L []) := by
  obtain ⟨p, e, s, args, below, meth, c, rfl, hx, hby, hml, hown, hZ, hret, hlk, hnm⟩ := K
  intro T locs X eT N
  obtain ⟨fs, hr, hrun, hended, hW, hsame⟩ := X.leave (v := none) (fun h => rfl) hlk
  refine ⟨_, _, ?_, hrun, hended, _, _, rfl, ⟨?_, N⟩, ⟨_, rfl⟩, hW, hsame.mono hc hs⟩
  · exact X.returnOut hx hret (hb hby hd) hr
  · show Q _ T.heap
    rw [eT]; exact hQ
end Steps
end Jvm.Wk
namespace Jvm.Pilot.@@N@@
open Jvm Jvm.ClassFile Sem Op Lib Jvm.Free Jvm.Stand Jvm.LawKit Jvm.RoadKit Jvm.Wk Bundle Jvm.Pilot.@@N@@.Jvm.D
theorem d1_0 : decode prog_73_method_2_code 0 = .ok (.iload_n 0, 1) := by decide +kernel
theorem d1_1 : decode prog_73_method_2_code 1 = .ok (.bipush 58, 2) := by decide +kernel
theorem d1_3 : decode prog_73_method_2_code 3 = .ok (.if_icmp .eq 194, 3) := by decide +kernel
theorem d1_197 : decode prog_73_method_2_code 197 = .ok (.iconst 1, 1) := by decide +kernel
theorem d1_198 : decode prog_73_method_2_code 198 = .ok (.goto 4, 3) := by decide +kernel
theorem d1_202 : decode prog_73_method_2_code 202 = .ok (.ireturn, 1) := by decide +kernel
theorem d1_18 : decode prog_73_method_2_code 18 = .ok (.iload_n 0, 1) := by decide +kernel
theorem d1_19 : decode prog_73_method_2_code 19 = .ok (.bipush 95, 2) := by decide +kernel
theorem d1_21 : decode prog_73_method_2_code 21 = .ok (.if_icmp .eq 176, 3) := by decide +kernel
theorem d1_185 : decode prog_73_method_2_code 185 = .ok (.iload_n 0, 1) := by decide +kernel
theorem d1_186 : decode prog_73_method_2_code 186 = .ok (.ldc 12, 2) := by decide +kernel
theorem d1_188 : decode prog_73_method_2_code 188 = .ok (.if_icmp .lt 13, 3) := by decide +kernel
theorem d1_201 : decode prog_73_method_2_code 201 = .ok (.iconst 0, 1) := by decide +kernel
theorem d1_191 : decode prog_73_method_2_code 191 = .ok (.iload_n 0, 1) := by decide +kernel
theorem d1_192 : decode prog_73_method_2_code 192 = .ok (.ldc 13, 2) := by decide +kernel
theorem d1_194 : decode prog_73_method_2_code 194 = .ok (.if_icmp .gt 7, 3) := by decide +kernel
theorem d1_173 : decode prog_73_method_2_code 173 = .ok (.iload_n 0, 1) := by decide +kernel
theorem d1_174 : decode prog_73_method_2_code 174 = .ok (.ldc 10, 2) := by decide +kernel
theorem d1_176 : decode prog_73_method_2_code 176 = .ok (.if_icmp .lt 9, 3) := by decide +kernel
theorem d1_179 : decode prog_73_method_2_code 179 = .ok (.iload_n 0, 1) := by decide +kernel
theorem d1_180 : decode prog_73_method_2_code 180 = .ok (.ldc 11, 2) := by decide +kernel
theorem d1_182 : decode prog_73_method_2_code 182 = .ok (.if_icmp .le 15, 3) := by decide +kernel
theorem d1_161 : decode prog_73_method_2_code 161 = .ok (.iload_n 0, 1) := by decide +kernel
theorem d1_162 : decode prog_73_method_2_code 162 = .ok (.ldc 8, 2) := by decide +kernel
theorem d1_164 : decode prog_73_method_2_code 164 = .ok (.if_icmp .lt 9, 3) := by decide +kernel
theorem d1_167 : decode prog_73_method_2_code 167 = .ok (.iload_n 0, 1) := by decide +kernel
theorem d1_168 : decode prog_73_method_2_code 168 = .ok (.ldc 9, 2) := by decide +kernel
theorem d1_170 : decode prog_73_method_2_code 170 = .ok (.if_icmp .le 27, 3) := by decide +kernel
theorem d1_148 : decode prog_73_method_2_code 148 = .ok (.iload_n 0, 1) := by decide +kernel
theorem d1_149 : decode prog_73_method_2_code 149 = .ok (.sipush 12289, 3) := by decide +kernel
theorem d1_152 : decode prog_73_method_2_code 152 = .ok (.if_icmp .lt 9, 3) := by decide +kernel
theorem d1_155 : decode prog_73_method_2_code 155 = .ok (.iload_n 0, 1) := by decide +kernel
theorem d1_156 : decode prog_73_method_2_code 156 = .ok (.ldc 7, 2) := by decide +kernel
theorem d1_158 : decode prog_73_method_2_code 158 = .ok (.if_icmp .le 39, 3) := by decide +kernel
theorem d1_134 : decode prog_73_method_2_code 134 = .ok (.iload_n 0, 1) := by decide +kernel
theorem d1_135 : decode prog_73_method_2_code 135 = .ok (.sipush 11264, 3) := by decide +kernel
theorem d1_138 : decode prog_73_method_2_code 138 = .ok (.if_icmp .lt 10, 3) := by decide +kernel
theorem d1_141 : decode prog_73_method_2_code 141 = .ok (.iload_n 0, 1) := by decide +kernel
theorem d1_142 : decode prog_73_method_2_code 142 = .ok (.sipush 12271, 3) := by decide +kernel
theorem d1_145 : decode prog_73_method_2_code 145 = .ok (.if_icmp .le 52, 3) := by decide +kernel
theorem d1_120 : decode prog_73_method_2_code 120 = .ok (.iload_n 0, 1) := by decide +kernel
theorem d1_121 : decode prog_73_method_2_code 121 = .ok (.sipush 8304, 3) := by decide +kernel
theorem d1_124 : decode prog_73_method_2_code 124 = .ok (.if_icmp .lt 10, 3) := by decide +kernel
theorem d1_127 : decode prog_73_method_2_code 127 = .ok (.iload_n 0, 1) := by decide +kernel
theorem d1_128 : decode prog_73_method_2_code 128 = .ok (.sipush 8591, 3) := by decide +kernel
theorem d1_131 : decode prog_73_method_2_code 131 = .ok (.if_icmp .le 66, 3) := by decide +kernel
theorem d1_106 : decode prog_73_method_2_code 106 = .ok (.iload_n 0, 1) := by decide +kernel
theorem d1_107 : decode prog_73_method_2_code 107 = .ok (.sipush 8204, 3) := by decide +kernel
theorem d1_110 : decode prog_73_method_2_code 110 = .ok (.if_icmp .lt 10, 3) := by decide +kernel
theorem d1_113 : decode prog_73_method_2_code 113 = .ok (.iload_n 0, 1) := by decide +kernel
theorem d1_114 : decode prog_73_method_2_code 114 = .ok (.sipush 8205, 3) := by decide +kernel
theorem d1_117 : decode prog_73_method_2_code 117 = .ok (.if_icmp .le 80, 3) := by decide +kernel
theorem d1_92 : decode prog_73_method_2_code 92 = .ok (.iload_n 0, 1) := by decide +kernel
theorem d1_93 : decode prog_73_method_2_code 93 = .ok (.sipush 895, 3) := by decide +kernel
theorem d1_96 : decode prog_73_method_2_code 96 = .ok (.if_icmp .lt 10, 3) := by decide +kernel
theorem d1_99 : decode prog_73_method_2_code 99 = .ok (.iload_n 0, 1) := by decide +kernel
theorem d1_100 : decode prog_73_method_2_code 100 = .ok (.sipush 8191, 3) := by decide +kernel
theorem d1_103 : decode prog_73_method_2_code 103 = .ok (.if_icmp .le 94, 3) := by decide +kernel
theorem d1_78 : decode prog_73_method_2_code 78 = .ok (.iload_n 0, 1) := by decide +kernel
theorem d1_79 : decode prog_73_method_2_code 79 = .ok (.sipush 880, 3) := by decide +kernel
theorem d1_82 : decode prog_73_method_2_code 82 = .ok (.if_icmp .lt 10, 3) := by decide +kernel
theorem d1_85 : decode prog_73_method_2_code 85 = .ok (.iload_n 0, 1) := by decide +kernel
theorem d1_86 : decode prog_73_method_2_code 86 = .ok (.sipush 893, 3) := by decide +kernel
theorem d1_89 : decode prog_73_method_2_code 89 = .ok (.if_icmp .le 108, 3) := by decide +kernel
theorem d1_64 : decode prog_73_method_2_code 64 = .ok (.iload_n 0, 1) := by decide +kernel
theorem d1_65 : decode prog_73_method_2_code 65 = .ok (.sipush 248, 3) := by decide +kernel
theorem d1_68 : decode prog_73_method_2_code 68 = .ok (.if_icmp .lt 10, 3) := by decide +kernel
theorem d1_71 : decode prog_73_method_2_code 71 = .ok (.iload_n 0, 1) := by decide +kernel
theorem d1_72 : decode prog_73_method_2_code 72 = .ok (.sipush 767, 3) := by decide +kernel
theorem d1_75 : decode prog_73_method_2_code 75 = .ok (.if_icmp .le 122, 3) := by decide +kernel
theorem d1_50 : decode prog_73_method_2_code 50 = .ok (.iload_n 0, 1) := by decide +kernel
theorem d1_51 : decode prog_73_method_2_code 51 = .ok (.sipush 216, 3) := by decide +kernel
theorem d1_54 : decode prog_73_method_2_code 54 = .ok (.if_icmp .lt 10, 3) := by decide +kernel
theorem d1_57 : decode prog_73_method_2_code 57 = .ok (.iload_n 0, 1) := by decide +kernel
theorem d1_58 : decode prog_73_method_2_code 58 = .ok (.sipush 246, 3) := by decide +kernel
theorem d1_61 : decode prog_73_method_2_code 61 = .ok (.if_icmp .le 136, 3) := by decide +kernel
theorem d1_36 : decode prog_73_method_2_code 36 = .ok (.iload_n 0, 1) := by decide +kernel
theorem d1_37 : decode prog_73_method_2_code 37 = .ok (.sipush 192, 3) := by decide +kernel
theorem d1_40 : decode prog_73_method_2_code 40 = .ok (.if_icmp .lt 10, 3) := by decide +kernel
theorem d1_43 : decode prog_73_method_2_code 43 = .ok (.iload_n 0, 1) := by decide +kernel
theorem d1_44 : decode prog_73_method_2_code 44 = .ok (.sipush 214, 3) := by decide +kernel
theorem d1_47 : decode prog_73_method_2_code 47 = .ok (.if_icmp .le 150, 3) := by decide +kernel
theorem d1_24 : decode prog_73_method_2_code 24 = .ok (.iload_n 0, 1) := by decide +kernel
theorem d1_25 : decode prog_73_method_2_code 25 = .ok (.bipush 97, 2) := by decide +kernel
theorem d1_27 : decode prog_73_method_2_code 27 = .ok (.if_icmp .lt 9, 3) := by decide +kernel
theorem d1_30 : decode prog_73_method_2_code 30 = .ok (.iload_n 0, 1) := by decide +kernel
theorem d1_31 : decode prog_73_method_2_code 31 = .ok (.bipush 122, 2) := by decide +kernel
theorem d1_33 : decode prog_73_method_2_code 33 = .ok (.if_icmp .le 164, 3) := by decide +kernel
theorem d1_6 : decode prog_73_method_2_code 6 = .ok (.iload_n 0, 1) := by decide +kernel
theorem d1_7 : decode prog_73_method_2_code 7 = .ok (.bipush 65, 2) := by decide +kernel
theorem d1_9 : decode prog_73_method_2_code 9 = .ok (.if_icmp .lt 9, 3) := by decide +kernel
theorem d1_12 : decode prog_73_method_2_code 12 = .ok (.iload_n 0, 1) := by decide +kernel
theorem d1_13 : decode prog_73_method_2_code 13 = .ok (.bipush 90, 2) := by decide +kernel
theorem d1_15 : decode prog_73_method_2_code 15 = .ok (.if_icmp .le 182, 3) := by decide +kernel
theorem pn_com_example_quadrille_quadrille_formats_NameCharacters : plainName "com/example/quadrille/quadrille/formats/NameCharacters" = true := by first | (simp [plainName, overriddenIn]; done) | decide +kernel
set_option maxRecDepth 65536 in
set_option maxHeartbeats 40000000 in
theorem c_ns (l : Launch) (Z : State) (a0 : Array Value) (hw : ∀ d ∈ tables_1, d.before a0 Z = true) (n0 : Nat) (h : Heap) (p : Int32)  : MeetsW l Z n0 (⟨"com/example/quadrille/quadrille/formats/NameCharacters", "isXmlNameStart", "(I)Z"⟩ : MethodName) prog_73_method_2_code 1 (some .boolean) ({ frames := 0, cells := 0, slots := 0, locals := 0 } : Room) #[(.int p)] h (fun v h' => v = some (.int (b2 (p.toInt = 58 ∨ (65 ≤ p.toInt ∧ p.toInt ≤ 90) ∨ p.toInt = 95 ∨ (97 ≤ p.toInt ∧ p.toInt ≤ 122) ∨ (192 ≤ p.toInt ∧ p.toInt ≤ 214) ∨ (216 ≤ p.toInt ∧ p.toInt ≤ 246) ∨ (248 ≤ p.toInt ∧ p.toInt ≤ 767) ∨ (880 ≤ p.toInt ∧ p.toInt ≤ 893) ∨ (895 ≤ p.toInt ∧ p.toInt ≤ 8191) ∨ (8204 ≤ p.toInt ∧ p.toInt ≤ 8205) ∨ (8304 ≤ p.toInt ∧ p.toInt ≤ 8591) ∨ (11264 ≤ p.toInt ∧ p.toInt ≤ 12271) ∨ (12289 ≤ p.toInt ∧ p.toInt ≤ 55295) ∨ (63744 ≤ p.toInt ∧ p.toInt ≤ 64975) ∨ (65008 ≤ p.toInt ∧ p.toInt ≤ 65533) ∨ (65536 ≤ p.toInt ∧ p.toInt ≤ 983039)))) ∧ h = h') := by
  refine MeetsW.intro (plainFor_of_name pn_com_example_quadrille_quadrille_formats_NameCharacters) (L0 := #[.val (.int p)]) (fun m => by first | (simp [entryFrame, mkF, argsToLocals, Value.category]; done) | rfl) ?_
  intro m G K0
  have K : Cx l ({ frames := 0, cells := 0, slots := 0, locals := 0 } : Room) Z n0 _ "com/example/quadrille/quadrille/formats/NameCharacters" "isXmlNameStart" prog_73_method_2_code 1 (some .boolean) m G := K0
  refine K.iloadN d1_0 (pc' := 1) rfl rfl ?_
  refine K.bipush d1_1 (pc' := 3) rfl (z := 58) rfl ?_
  refine K.icmp_eq d1_3 (pc1 := 6) rfl (by decide) (pc2 := 197) (by decide) (a := p.toInt) (b := 58) rfl rfl (fun c3 => ?_) (fun c3 => ?_)
  · refine K.iconst d1_197 (pc' := 198) rfl (z := 1) rfl ?_
    refine K.goto d1_198 (by decide) (pc' := 202) (by decide) ?_
    exact K.retz d1_202 (Or.inr rfl) (by decide) (by decide) ⟨by rw [b2_t (by omega)], rfl⟩
  · have J18 : (p.toInt < 65 ∨ 90 < p.toInt) → G h 0 0 (mkF m 18 #[.val (.int p)] []) := by
      intro  hj18
      refine K.iloadN d1_18 (pc' := 19) rfl rfl ?_
      refine K.bipush d1_19 (pc' := 21) rfl (z := 95) rfl ?_
      refine K.icmp_eq d1_21 (pc1 := 24) rfl (by decide) (pc2 := 197) (by decide) (a := p.toInt) (b := 95) rfl rfl (fun c21 => ?_) (fun c21 => ?_)
      · refine K.iconst d1_197 (pc' := 198) rfl (z := 1) rfl ?_
        refine K.goto d1_198 (by decide) (pc' := 202) (by decide) ?_
        exact K.retz d1_202 (Or.inr rfl) (by decide) (by decide) ⟨by rw [b2_t (by omega)], rfl⟩
      · have J36 : (p.toInt < 97 ∨ 122 < p.toInt) → G h 0 0 (mkF m 36 #[.val (.int p)] []) := by
          intro  hj36
          have J50 : (p.toInt < 192 ∨ 214 < p.toInt) → G h 0 0 (mkF m 50 #[.val (.int p)] []) := by
            intro  hj50
            have J64 : (p.toInt < 216 ∨ 246 < p.toInt) → G h 0 0 (mkF m 64 #[.val (.int p)] []) := by
              intro  hj64
              have J78 : (p.toInt < 248 ∨ 767 < p.toInt) → G h 0 0 (mkF m 78 #[.val (.int p)] []) := by
                intro  hj78
                have J92 : (p.toInt < 880 ∨ 893 < p.toInt) → G h 0 0 (mkF m 92 #[.val (.int p)] []) := by
                  intro  hj92
                  have J106 : (p.toInt < 895 ∨ 8191 < p.toInt) → G h 0 0 (mkF m 106 #[.val (.int p)] []) := by
                    intro  hj106
                    have J120 : (p.toInt < 8204 ∨ 8205 < p.toInt) → G h 0 0 (mkF m 120 #[.val (.int p)] []) := by
                      intro  hj120
                      have J134 : (p.toInt < 8304 ∨ 8591 < p.toInt) → G h 0 0 (mkF m 134 #[.val (.int p)] []) := by
                        intro  hj134
                        have J148 : (p.toInt < 11264 ∨ 12271 < p.toInt) → G h 0 0 (mkF m 148 #[.val (.int p)] []) := by
                          intro  hj148
                          have J161 : (p.toInt < 12289 ∨ 55295 < p.toInt) → G h 0 0 (mkF m 161 #[.val (.int p)] []) := by
                            intro  hj161
                            have J173 : (p.toInt < 63744 ∨ 64975 < p.toInt) → G h 0 0 (mkF m 173 #[.val (.int p)] []) := by
                              intro  hj173
                              have J185 : (p.toInt < 65008 ∨ 65533 < p.toInt) → G h 0 0 (mkF m 185 #[.val (.int p)] []) := by
                                intro  hj185
                                refine K.iloadN d1_185 (pc' := 186) rfl rfl ?_
                                refine K.ldcI d1_186 (pc' := 188) rfl (hw _ (List.mem_of_getElem? (i := 14) rfl)) ?_
                                refine K.icmp_lt d1_188 (pc1 := 191) rfl (by decide) (pc2 := 201) (by decide) (a := p.toInt) (b := 65536) rfl rfl (fun c188 => ?_) (fun c188 => ?_)
                                · refine K.iconst d1_201 (pc' := 202) rfl (z := 0) rfl ?_
                                  exact K.retz d1_202 (Or.inl rfl) (by decide) (by decide) ⟨by rw [b2_f (by omega)], rfl⟩
                                · refine K.iloadN d1_191 (pc' := 192) rfl rfl ?_
                                  refine K.ldcI d1_192 (pc' := 194) rfl (hw _ (List.mem_of_getElem? (i := 26) rfl)) ?_
                                  refine K.icmp_gt d1_194 (pc1 := 197) rfl (by decide) (pc2 := 201) (by decide) (a := p.toInt) (b := 983039) rfl rfl (fun c194 => ?_) (fun c194 => ?_)
                                  · refine K.iconst d1_201 (pc' := 202) rfl (z := 0) rfl ?_
                                    exact K.retz d1_202 (Or.inl rfl) (by decide) (by decide) ⟨by rw [b2_f (by omega)], rfl⟩
                                  · refine K.iconst d1_197 (pc' := 198) rfl (z := 1) rfl ?_
                                    refine K.goto d1_198 (by decide) (pc' := 202) (by decide) ?_
                                    exact K.retz d1_202 (Or.inr rfl) (by decide) (by decide) ⟨by rw [b2_t (by omega)], rfl⟩
                              refine K.iloadN d1_173 (pc' := 174) rfl rfl ?_
                              refine K.ldcI d1_174 (pc' := 176) rfl (hw _ (List.mem_of_getElem? (i := 13) rfl)) ?_
                              refine K.icmp_lt d1_176 (pc1 := 179) rfl (by decide) (pc2 := 185) (by decide) (a := p.toInt) (b := 65008) rfl rfl (fun c176 => ?_) (fun c176 => ?_)
                              · exact J185  (by omega)
                              · refine K.iloadN d1_179 (pc' := 180) rfl rfl ?_
                                refine K.ldcI d1_180 (pc' := 182) rfl (hw _ (List.mem_of_getElem? (i := 25) rfl)) ?_
                                refine K.icmp_le d1_182 (pc1 := 185) rfl (by decide) (pc2 := 197) (by decide) (a := p.toInt) (b := 65533) rfl rfl (fun c182 => ?_) (fun c182 => ?_)
                                · refine K.iconst d1_197 (pc' := 198) rfl (z := 1) rfl ?_
                                  refine K.goto d1_198 (by decide) (pc' := 202) (by decide) ?_
                                  exact K.retz d1_202 (Or.inr rfl) (by decide) (by decide) ⟨by rw [b2_t (by omega)], rfl⟩
                                · exact J185  (by omega)
                            refine K.iloadN d1_161 (pc' := 162) rfl rfl ?_
                            refine K.ldcI d1_162 (pc' := 164) rfl (hw _ (List.mem_of_getElem? (i := 12) rfl)) ?_
                            refine K.icmp_lt d1_164 (pc1 := 167) rfl (by decide) (pc2 := 173) (by decide) (a := p.toInt) (b := 63744) rfl rfl (fun c164 => ?_) (fun c164 => ?_)
                            · exact J173  (by omega)
                            · refine K.iloadN d1_167 (pc' := 168) rfl rfl ?_
                              refine K.ldcI d1_168 (pc' := 170) rfl (hw _ (List.mem_of_getElem? (i := 24) rfl)) ?_
                              refine K.icmp_le d1_170 (pc1 := 173) rfl (by decide) (pc2 := 197) (by decide) (a := p.toInt) (b := 64975) rfl rfl (fun c170 => ?_) (fun c170 => ?_)
                              · refine K.iconst d1_197 (pc' := 198) rfl (z := 1) rfl ?_
                                refine K.goto d1_198 (by decide) (pc' := 202) (by decide) ?_
                                exact K.retz d1_202 (Or.inr rfl) (by decide) (by decide) ⟨by rw [b2_t (by omega)], rfl⟩
                              · exact J173  (by omega)
                          refine K.iloadN d1_148 (pc' := 149) rfl rfl ?_
                          refine K.sipush d1_149 (pc' := 152) rfl (z := 12289) rfl ?_
                          refine K.icmp_lt d1_152 (pc1 := 155) rfl (by decide) (pc2 := 161) (by decide) (a := p.toInt) (b := 12289) rfl rfl (fun c152 => ?_) (fun c152 => ?_)
                          · exact J161  (by omega)
                          · refine K.iloadN d1_155 (pc' := 156) rfl rfl ?_
                            refine K.ldcI d1_156 (pc' := 158) rfl (hw _ (List.mem_of_getElem? (i := 20) rfl)) ?_
                            refine K.icmp_le d1_158 (pc1 := 161) rfl (by decide) (pc2 := 197) (by decide) (a := p.toInt) (b := 55295) rfl rfl (fun c158 => ?_) (fun c158 => ?_)
                            · refine K.iconst d1_197 (pc' := 198) rfl (z := 1) rfl ?_
                              refine K.goto d1_198 (by decide) (pc' := 202) (by decide) ?_
                              exact K.retz d1_202 (Or.inr rfl) (by decide) (by decide) ⟨by rw [b2_t (by omega)], rfl⟩
                            · exact J161  (by omega)
                        refine K.iloadN d1_134 (pc' := 135) rfl rfl ?_
                        refine K.sipush d1_135 (pc' := 138) rfl (z := 11264) rfl ?_
                        refine K.icmp_lt d1_138 (pc1 := 141) rfl (by decide) (pc2 := 148) (by decide) (a := p.toInt) (b := 11264) rfl rfl (fun c138 => ?_) (fun c138 => ?_)
                        · exact J148  (by omega)
                        · refine K.iloadN d1_141 (pc' := 142) rfl rfl ?_
                          refine K.sipush d1_142 (pc' := 145) rfl (z := 12271) rfl ?_
                          refine K.icmp_le d1_145 (pc1 := 148) rfl (by decide) (pc2 := 197) (by decide) (a := p.toInt) (b := 12271) rfl rfl (fun c145 => ?_) (fun c145 => ?_)
                          · refine K.iconst d1_197 (pc' := 198) rfl (z := 1) rfl ?_
                            refine K.goto d1_198 (by decide) (pc' := 202) (by decide) ?_
                            exact K.retz d1_202 (Or.inr rfl) (by decide) (by decide) ⟨by rw [b2_t (by omega)], rfl⟩
                          · exact J148  (by omega)
                      refine K.iloadN d1_120 (pc' := 121) rfl rfl ?_
                      refine K.sipush d1_121 (pc' := 124) rfl (z := 8304) rfl ?_
                      refine K.icmp_lt d1_124 (pc1 := 127) rfl (by decide) (pc2 := 134) (by decide) (a := p.toInt) (b := 8304) rfl rfl (fun c124 => ?_) (fun c124 => ?_)
                      · exact J134  (by omega)
                      · refine K.iloadN d1_127 (pc' := 128) rfl rfl ?_
                        refine K.sipush d1_128 (pc' := 131) rfl (z := 8591) rfl ?_
                        refine K.icmp_le d1_131 (pc1 := 134) rfl (by decide) (pc2 := 197) (by decide) (a := p.toInt) (b := 8591) rfl rfl (fun c131 => ?_) (fun c131 => ?_)
                        · refine K.iconst d1_197 (pc' := 198) rfl (z := 1) rfl ?_
                          refine K.goto d1_198 (by decide) (pc' := 202) (by decide) ?_
                          exact K.retz d1_202 (Or.inr rfl) (by decide) (by decide) ⟨by rw [b2_t (by omega)], rfl⟩
                        · exact J134  (by omega)
                    refine K.iloadN d1_106 (pc' := 107) rfl rfl ?_
                    refine K.sipush d1_107 (pc' := 110) rfl (z := 8204) rfl ?_
                    refine K.icmp_lt d1_110 (pc1 := 113) rfl (by decide) (pc2 := 120) (by decide) (a := p.toInt) (b := 8204) rfl rfl (fun c110 => ?_) (fun c110 => ?_)
                    · exact J120  (by omega)
                    · refine K.iloadN d1_113 (pc' := 114) rfl rfl ?_
                      refine K.sipush d1_114 (pc' := 117) rfl (z := 8205) rfl ?_
                      refine K.icmp_le d1_117 (pc1 := 120) rfl (by decide) (pc2 := 197) (by decide) (a := p.toInt) (b := 8205) rfl rfl (fun c117 => ?_) (fun c117 => ?_)
                      · refine K.iconst d1_197 (pc' := 198) rfl (z := 1) rfl ?_
                        refine K.goto d1_198 (by decide) (pc' := 202) (by decide) ?_
                        exact K.retz d1_202 (Or.inr rfl) (by decide) (by decide) ⟨by rw [b2_t (by omega)], rfl⟩
                      · exact J120  (by omega)
                  refine K.iloadN d1_92 (pc' := 93) rfl rfl ?_
                  refine K.sipush d1_93 (pc' := 96) rfl (z := 895) rfl ?_
                  refine K.icmp_lt d1_96 (pc1 := 99) rfl (by decide) (pc2 := 106) (by decide) (a := p.toInt) (b := 895) rfl rfl (fun c96 => ?_) (fun c96 => ?_)
                  · exact J106  (by omega)
                  · refine K.iloadN d1_99 (pc' := 100) rfl rfl ?_
                    refine K.sipush d1_100 (pc' := 103) rfl (z := 8191) rfl ?_
                    refine K.icmp_le d1_103 (pc1 := 106) rfl (by decide) (pc2 := 197) (by decide) (a := p.toInt) (b := 8191) rfl rfl (fun c103 => ?_) (fun c103 => ?_)
                    · refine K.iconst d1_197 (pc' := 198) rfl (z := 1) rfl ?_
                      refine K.goto d1_198 (by decide) (pc' := 202) (by decide) ?_
                      exact K.retz d1_202 (Or.inr rfl) (by decide) (by decide) ⟨by rw [b2_t (by omega)], rfl⟩
                    · exact J106  (by omega)
                refine K.iloadN d1_78 (pc' := 79) rfl rfl ?_
                refine K.sipush d1_79 (pc' := 82) rfl (z := 880) rfl ?_
                refine K.icmp_lt d1_82 (pc1 := 85) rfl (by decide) (pc2 := 92) (by decide) (a := p.toInt) (b := 880) rfl rfl (fun c82 => ?_) (fun c82 => ?_)
                · exact J92  (by omega)
                · refine K.iloadN d1_85 (pc' := 86) rfl rfl ?_
                  refine K.sipush d1_86 (pc' := 89) rfl (z := 893) rfl ?_
                  refine K.icmp_le d1_89 (pc1 := 92) rfl (by decide) (pc2 := 197) (by decide) (a := p.toInt) (b := 893) rfl rfl (fun c89 => ?_) (fun c89 => ?_)
                  · refine K.iconst d1_197 (pc' := 198) rfl (z := 1) rfl ?_
                    refine K.goto d1_198 (by decide) (pc' := 202) (by decide) ?_
                    exact K.retz d1_202 (Or.inr rfl) (by decide) (by decide) ⟨by rw [b2_t (by omega)], rfl⟩
                  · exact J92  (by omega)
              refine K.iloadN d1_64 (pc' := 65) rfl rfl ?_
              refine K.sipush d1_65 (pc' := 68) rfl (z := 248) rfl ?_
              refine K.icmp_lt d1_68 (pc1 := 71) rfl (by decide) (pc2 := 78) (by decide) (a := p.toInt) (b := 248) rfl rfl (fun c68 => ?_) (fun c68 => ?_)
              · exact J78  (by omega)
              · refine K.iloadN d1_71 (pc' := 72) rfl rfl ?_
                refine K.sipush d1_72 (pc' := 75) rfl (z := 767) rfl ?_
                refine K.icmp_le d1_75 (pc1 := 78) rfl (by decide) (pc2 := 197) (by decide) (a := p.toInt) (b := 767) rfl rfl (fun c75 => ?_) (fun c75 => ?_)
                · refine K.iconst d1_197 (pc' := 198) rfl (z := 1) rfl ?_
                  refine K.goto d1_198 (by decide) (pc' := 202) (by decide) ?_
                  exact K.retz d1_202 (Or.inr rfl) (by decide) (by decide) ⟨by rw [b2_t (by omega)], rfl⟩
                · exact J78  (by omega)
            refine K.iloadN d1_50 (pc' := 51) rfl rfl ?_
            refine K.sipush d1_51 (pc' := 54) rfl (z := 216) rfl ?_
            refine K.icmp_lt d1_54 (pc1 := 57) rfl (by decide) (pc2 := 64) (by decide) (a := p.toInt) (b := 216) rfl rfl (fun c54 => ?_) (fun c54 => ?_)
            · exact J64  (by omega)
            · refine K.iloadN d1_57 (pc' := 58) rfl rfl ?_
              refine K.sipush d1_58 (pc' := 61) rfl (z := 246) rfl ?_
              refine K.icmp_le d1_61 (pc1 := 64) rfl (by decide) (pc2 := 197) (by decide) (a := p.toInt) (b := 246) rfl rfl (fun c61 => ?_) (fun c61 => ?_)
              · refine K.iconst d1_197 (pc' := 198) rfl (z := 1) rfl ?_
                refine K.goto d1_198 (by decide) (pc' := 202) (by decide) ?_
                exact K.retz d1_202 (Or.inr rfl) (by decide) (by decide) ⟨by rw [b2_t (by omega)], rfl⟩
              · exact J64  (by omega)
          refine K.iloadN d1_36 (pc' := 37) rfl rfl ?_
          refine K.sipush d1_37 (pc' := 40) rfl (z := 192) rfl ?_
          refine K.icmp_lt d1_40 (pc1 := 43) rfl (by decide) (pc2 := 50) (by decide) (a := p.toInt) (b := 192) rfl rfl (fun c40 => ?_) (fun c40 => ?_)
          · exact J50  (by omega)
          · refine K.iloadN d1_43 (pc' := 44) rfl rfl ?_
            refine K.sipush d1_44 (pc' := 47) rfl (z := 214) rfl ?_
            refine K.icmp_le d1_47 (pc1 := 50) rfl (by decide) (pc2 := 197) (by decide) (a := p.toInt) (b := 214) rfl rfl (fun c47 => ?_) (fun c47 => ?_)
            · refine K.iconst d1_197 (pc' := 198) rfl (z := 1) rfl ?_
              refine K.goto d1_198 (by decide) (pc' := 202) (by decide) ?_
              exact K.retz d1_202 (Or.inr rfl) (by decide) (by decide) ⟨by rw [b2_t (by omega)], rfl⟩
            · exact J50  (by omega)
        refine K.iloadN d1_24 (pc' := 25) rfl rfl ?_
        refine K.bipush d1_25 (pc' := 27) rfl (z := 97) rfl ?_
        refine K.icmp_lt d1_27 (pc1 := 30) rfl (by decide) (pc2 := 36) (by decide) (a := p.toInt) (b := 97) rfl rfl (fun c27 => ?_) (fun c27 => ?_)
        · exact J36  (by omega)
        · refine K.iloadN d1_30 (pc' := 31) rfl rfl ?_
          refine K.bipush d1_31 (pc' := 33) rfl (z := 122) rfl ?_
          refine K.icmp_le d1_33 (pc1 := 36) rfl (by decide) (pc2 := 197) (by decide) (a := p.toInt) (b := 122) rfl rfl (fun c33 => ?_) (fun c33 => ?_)
          · refine K.iconst d1_197 (pc' := 198) rfl (z := 1) rfl ?_
            refine K.goto d1_198 (by decide) (pc' := 202) (by decide) ?_
            exact K.retz d1_202 (Or.inr rfl) (by decide) (by decide) ⟨by rw [b2_t (by omega)], rfl⟩
          · exact J36  (by omega)
    refine K.iloadN d1_6 (pc' := 7) rfl rfl ?_
    refine K.bipush d1_7 (pc' := 9) rfl (z := 65) rfl ?_
    refine K.icmp_lt d1_9 (pc1 := 12) rfl (by decide) (pc2 := 18) (by decide) (a := p.toInt) (b := 65) rfl rfl (fun c9 => ?_) (fun c9 => ?_)
    · exact J18  (by omega)
    · refine K.iloadN d1_12 (pc' := 13) rfl rfl ?_
      refine K.bipush d1_13 (pc' := 15) rfl (z := 90) rfl ?_
      refine K.icmp_le d1_15 (pc1 := 18) rfl (by decide) (pc2 := 197) (by decide) (a := p.toInt) (b := 90) rfl rfl (fun c15 => ?_) (fun c15 => ?_)
      · refine K.iconst d1_197 (pc' := 198) rfl (z := 1) rfl ?_
        refine K.goto d1_198 (by decide) (pc' := 202) (by decide) ?_
        exact K.retz d1_202 (Or.inr rfl) (by decide) (by decide) ⟨by rw [b2_t (by omega)], rfl⟩
      · exact J18  (by omega)
theorem d3_0 : decode method_2_code 0 = .ok (.iload_n 0, 1) := by decide +kernel
theorem d3_1 : decode method_2_code 1 = .ok (.iload_n 1, 1) := by decide +kernel
theorem d3_2 : decode method_2_code 2 = .ok (.if_icmp .lt 12, 3) := by decide +kernel
theorem d3_14 : decode method_2_code 14 = .ok (.iconst 0, 1) := by decide +kernel
theorem d3_15 : decode method_2_code 15 = .ok (.ireturn, 1) := by decide +kernel
theorem d3_5 : decode method_2_code 5 = .ok (.iload_n 0, 1) := by decide +kernel
theorem d3_6 : decode method_2_code 6 = .ok (.iload_n 2, 1) := by decide +kernel
theorem d3_7 : decode method_2_code 7 = .ok (.if_icmp .gt 7, 3) := by decide +kernel
theorem d3_10 : decode method_2_code 10 = .ok (.iconst 1, 1) := by decide +kernel
theorem d3_11 : decode method_2_code 11 = .ok (.goto 4, 3) := by decide +kernel
theorem pn_com_example_quadrille_quadrille_formats_NameCharactersIsXmlNameStartPinLaw : plainName "com/example/quadrille/quadrille/formats/NameCharactersIsXmlNameStartPinLaw" = true := by first | (simp [plainName, overriddenIn]; done) | decide +kernel
set_option maxRecDepth 65536 in
set_option maxHeartbeats 40000000 in
theorem c_in (l : Launch) (Z : State) (a0 : Array Value) (hw : ∀ d ∈ tables_1, d.before a0 Z = true) (n0 : Nat) (h : Heap) (p : Int32) (lo : Int32) (hi : Int32)  : MeetsW l Z n0 (⟨"com/example/quadrille/quadrille/formats/NameCharactersIsXmlNameStartPinLaw", "in", "(III)Z"⟩ : MethodName) method_2_code 3 (some .boolean) ({ frames := 0, cells := 0, slots := 0, locals := 0 } : Room) #[(.int p), (.int lo), (.int hi)] h (fun v h' => v = some (.int (b2 (lo.toInt ≤ p.toInt ∧ p.toInt ≤ hi.toInt))) ∧ h = h') := by
  refine MeetsW.intro (plainFor_of_name pn_com_example_quadrille_quadrille_formats_NameCharactersIsXmlNameStartPinLaw) (L0 := #[.val (.int p), .val (.int lo), .val (.int hi)]) (fun m => by first | (simp [entryFrame, mkF, argsToLocals, Value.category]; done) | rfl) ?_
  intro m G K0
  have K : Cx l ({ frames := 0, cells := 0, slots := 0, locals := 0 } : Room) Z n0 _ "com/example/quadrille/quadrille/formats/NameCharactersIsXmlNameStartPinLaw" "in" method_2_code 3 (some .boolean) m G := K0
  refine K.iloadN d3_0 (pc' := 1) rfl rfl ?_
  refine K.iloadN d3_1 (pc' := 2) rfl rfl ?_
  refine K.icmp_lt d3_2 (pc1 := 5) rfl (by decide) (pc2 := 14) (by decide) (a := p.toInt) (b := lo.toInt) rfl rfl (fun c2 => ?_) (fun c2 => ?_)
  · refine K.iconst d3_14 (pc' := 15) rfl (z := 0) rfl ?_
    exact K.retz d3_15 (Or.inl rfl) (by decide) (by decide) ⟨by rw [b2_f (by omega)], rfl⟩
  · refine K.iloadN d3_5 (pc' := 6) rfl rfl ?_
    refine K.iloadN d3_6 (pc' := 7) rfl rfl ?_
    refine K.icmp_gt d3_7 (pc1 := 10) rfl (by decide) (pc2 := 14) (by decide) (a := p.toInt) (b := hi.toInt) rfl rfl (fun c7 => ?_) (fun c7 => ?_)
    · refine K.iconst d3_14 (pc' := 15) rfl (z := 0) rfl ?_
      exact K.retz d3_15 (Or.inl rfl) (by decide) (by decide) ⟨by rw [b2_f (by omega)], rfl⟩
    · refine K.iconst d3_10 (pc' := 11) rfl (z := 1) rfl ?_
      refine K.goto d3_11 (by decide) (pc' := 15) (by decide) ?_
      exact K.retz d3_15 (Or.inr rfl) (by decide) (by decide) ⟨by rw [b2_t (by omega)], rfl⟩
theorem d2_0 : decode method_3_code 0 = .ok (.iload_n 0, 1) := by decide +kernel
theorem d2_1 : decode method_3_code 1 = .ok (.bipush 58, 2) := by decide +kernel
theorem d2_3 : decode method_3_code 3 = .ok (.if_icmp .ge 5, 3) := by decide +kernel
theorem d2_8 : decode method_3_code 8 = .ok (.iload_n 0, 1) := by decide +kernel
theorem d2_9 : decode method_3_code 9 = .ok (.ldc 7, 2) := by decide +kernel
theorem d2_11 : decode method_3_code 11 = .ok (.if_icmp .le 5, 3) := by decide +kernel
theorem d2_16 : decode method_3_code 16 = .ok (.iload_n 0, 1) := by decide +kernel
theorem d2_17 : decode method_3_code 17 = .ok (.bipush 59, 2) := by decide +kernel
theorem d2_19 : decode method_3_code 19 = .ok (.bipush 64, 2) := by decide +kernel
theorem d2_21 : decode method_3_code 21 = .ok (.invokestatic 8, 3) := by decide +kernel
theorem pd_0 : parseMethodDescriptor "(III)Z" = some ⟨[.int, .int, .int], some .boolean⟩ := by decide +kernel
theorem d2_24 : decode method_3_code 24 = .ok (.ifCond .ne 151, 3) := by decide +kernel
theorem d2_175 : decode method_3_code 175 = .ok (.iconst 1, 1) := by decide +kernel
theorem d2_176 : decode method_3_code 176 = .ok (.goto 4, 3) := by decide +kernel
theorem d2_180 : decode method_3_code 180 = .ok (.ireturn, 1) := by decide +kernel
theorem d2_27 : decode method_3_code 27 = .ok (.iload_n 0, 1) := by decide +kernel
theorem d2_28 : decode method_3_code 28 = .ok (.bipush 91, 2) := by decide +kernel
theorem d2_30 : decode method_3_code 30 = .ok (.bipush 94, 2) := by decide +kernel
theorem d2_32 : decode method_3_code 32 = .ok (.invokestatic 8, 3) := by decide +kernel
theorem d2_35 : decode method_3_code 35 = .ok (.ifCond .ne 140, 3) := by decide +kernel
theorem d2_38 : decode method_3_code 38 = .ok (.iload_n 0, 1) := by decide +kernel
theorem d2_39 : decode method_3_code 39 = .ok (.bipush 96, 2) := by decide +kernel
theorem d2_41 : decode method_3_code 41 = .ok (.if_icmp .eq 134, 3) := by decide +kernel
theorem d2_44 : decode method_3_code 44 = .ok (.iload_n 0, 1) := by decide +kernel
theorem d2_45 : decode method_3_code 45 = .ok (.bipush 123, 2) := by decide +kernel
theorem d2_47 : decode method_3_code 47 = .ok (.sipush 191, 3) := by decide +kernel
theorem d2_50 : decode method_3_code 50 = .ok (.invokestatic 8, 3) := by decide +kernel
theorem d2_53 : decode method_3_code 53 = .ok (.ifCond .ne 122, 3) := by decide +kernel
theorem d2_56 : decode method_3_code 56 = .ok (.iload_n 0, 1) := by decide +kernel
theorem d2_57 : decode method_3_code 57 = .ok (.sipush 215, 3) := by decide +kernel
theorem d2_60 : decode method_3_code 60 = .ok (.if_icmp .eq 115, 3) := by decide +kernel
theorem d2_63 : decode method_3_code 63 = .ok (.iload_n 0, 1) := by decide +kernel
theorem d2_64 : decode method_3_code 64 = .ok (.sipush 247, 3) := by decide +kernel
theorem d2_67 : decode method_3_code 67 = .ok (.if_icmp .eq 108, 3) := by decide +kernel
theorem d2_70 : decode method_3_code 70 = .ok (.iload_n 0, 1) := by decide +kernel
theorem d2_71 : decode method_3_code 71 = .ok (.sipush 768, 3) := by decide +kernel
theorem d2_74 : decode method_3_code 74 = .ok (.sipush 879, 3) := by decide +kernel
theorem d2_77 : decode method_3_code 77 = .ok (.invokestatic 8, 3) := by decide +kernel
theorem d2_80 : decode method_3_code 80 = .ok (.ifCond .ne 95, 3) := by decide +kernel
theorem d2_83 : decode method_3_code 83 = .ok (.iload_n 0, 1) := by decide +kernel
theorem d2_84 : decode method_3_code 84 = .ok (.sipush 894, 3) := by decide +kernel
theorem d2_87 : decode method_3_code 87 = .ok (.if_icmp .eq 88, 3) := by decide +kernel
theorem d2_90 : decode method_3_code 90 = .ok (.iload_n 0, 1) := by decide +kernel
theorem d2_91 : decode method_3_code 91 = .ok (.sipush 8192, 3) := by decide +kernel
theorem d2_94 : decode method_3_code 94 = .ok (.sipush 8203, 3) := by decide +kernel
theorem d2_97 : decode method_3_code 97 = .ok (.invokestatic 8, 3) := by decide +kernel
theorem d2_100 : decode method_3_code 100 = .ok (.ifCond .ne 75, 3) := by decide +kernel
theorem d2_103 : decode method_3_code 103 = .ok (.iload_n 0, 1) := by decide +kernel
theorem d2_104 : decode method_3_code 104 = .ok (.sipush 8206, 3) := by decide +kernel
theorem d2_107 : decode method_3_code 107 = .ok (.sipush 8303, 3) := by decide +kernel
theorem d2_110 : decode method_3_code 110 = .ok (.invokestatic 8, 3) := by decide +kernel
theorem d2_113 : decode method_3_code 113 = .ok (.ifCond .ne 62, 3) := by decide +kernel
theorem d2_116 : decode method_3_code 116 = .ok (.iload_n 0, 1) := by decide +kernel
theorem d2_117 : decode method_3_code 117 = .ok (.sipush 8592, 3) := by decide +kernel
theorem d2_120 : decode method_3_code 120 = .ok (.sipush 11263, 3) := by decide +kernel
theorem d2_123 : decode method_3_code 123 = .ok (.invokestatic 8, 3) := by decide +kernel
theorem d2_126 : decode method_3_code 126 = .ok (.ifCond .ne 49, 3) := by decide +kernel
theorem d2_129 : decode method_3_code 129 = .ok (.iload_n 0, 1) := by decide +kernel
theorem d2_130 : decode method_3_code 130 = .ok (.sipush 12272, 3) := by decide +kernel
theorem d2_133 : decode method_3_code 133 = .ok (.sipush 12288, 3) := by decide +kernel
theorem d2_136 : decode method_3_code 136 = .ok (.invokestatic 8, 3) := by decide +kernel
theorem d2_139 : decode method_3_code 139 = .ok (.ifCond .ne 36, 3) := by decide +kernel
theorem d2_142 : decode method_3_code 142 = .ok (.iload_n 0, 1) := by decide +kernel
theorem d2_143 : decode method_3_code 143 = .ok (.ldc 14, 2) := by decide +kernel
theorem d2_145 : decode method_3_code 145 = .ok (.ldc 15, 2) := by decide +kernel
theorem d2_147 : decode method_3_code 147 = .ok (.invokestatic 8, 3) := by decide +kernel
theorem d2_150 : decode method_3_code 150 = .ok (.ifCond .ne 25, 3) := by decide +kernel
theorem d2_153 : decode method_3_code 153 = .ok (.iload_n 0, 1) := by decide +kernel
theorem d2_154 : decode method_3_code 154 = .ok (.ldc 16, 2) := by decide +kernel
theorem d2_156 : decode method_3_code 156 = .ok (.ldc 17, 2) := by decide +kernel
theorem d2_158 : decode method_3_code 158 = .ok (.invokestatic 8, 3) := by decide +kernel
theorem d2_161 : decode method_3_code 161 = .ok (.ifCond .ne 14, 3) := by decide +kernel
theorem d2_164 : decode method_3_code 164 = .ok (.iload_n 0, 1) := by decide +kernel
theorem d2_165 : decode method_3_code 165 = .ok (.ldc 18, 2) := by decide +kernel
theorem d2_167 : decode method_3_code 167 = .ok (.ldc 19, 2) := by decide +kernel
theorem d2_169 : decode method_3_code 169 = .ok (.invokestatic 8, 3) := by decide +kernel
theorem d2_172 : decode method_3_code 172 = .ok (.ifCond .eq 7, 3) := by decide +kernel
theorem d2_179 : decode method_3_code 179 = .ok (.iconst 0, 1) := by decide +kernel
theorem d2_14 : decode method_3_code 14 = .ok (.iconst 1, 1) := by decide +kernel
theorem d2_15 : decode method_3_code 15 = .ok (.ireturn, 1) := by decide +kernel
theorem d2_6 : decode method_3_code 6 = .ok (.iconst 1, 1) := by decide +kernel
theorem d2_7 : decode method_3_code 7 = .ok (.ireturn, 1) := by decide +kernel
set_option maxRecDepth 65536 in
set_option maxHeartbeats 40000000 in
theorem c_gap (l : Launch) (Z : State) (a0 : Array Value) (hw : ∀ d ∈ tables_1, d.before a0 Z = true) (n0 : Nat) (h : Heap) (p : Int32)  : MeetsW l Z n0 (⟨"com/example/quadrille/quadrille/formats/NameCharactersIsXmlNameStartPinLaw", "isGap", "(I)Z"⟩ : MethodName) method_3_code 1 (some .boolean) ({ frames := 1, cells := 0, slots := 0, locals := 14 } : Room) #[(.int p)] h (fun v h' => v = some (.int (b2 (¬ (p.toInt = 58 ∨ (65 ≤ p.toInt ∧ p.toInt ≤ 90) ∨ p.toInt = 95 ∨ (97 ≤ p.toInt ∧ p.toInt ≤ 122) ∨ (192 ≤ p.toInt ∧ p.toInt ≤ 214) ∨ (216 ≤ p.toInt ∧ p.toInt ≤ 246) ∨ (248 ≤ p.toInt ∧ p.toInt ≤ 767) ∨ (880 ≤ p.toInt ∧ p.toInt ≤ 893) ∨ (895 ≤ p.toInt ∧ p.toInt ≤ 8191) ∨ (8204 ≤ p.toInt ∧ p.toInt ≤ 8205) ∨ (8304 ≤ p.toInt ∧ p.toInt ≤ 8591) ∨ (11264 ≤ p.toInt ∧ p.toInt ≤ 12271) ∨ (12289 ≤ p.toInt ∧ p.toInt ≤ 55295) ∨ (63744 ≤ p.toInt ∧ p.toInt ≤ 64975) ∨ (65008 ≤ p.toInt ∧ p.toInt ≤ 65533) ∨ (65536 ≤ p.toInt ∧ p.toInt ≤ 983039))))) ∧ h = h') := by
  refine MeetsW.intro (plainFor_of_name pn_com_example_quadrille_quadrille_formats_NameCharactersIsXmlNameStartPinLaw) (L0 := #[.val (.int p)]) (fun m => by first | (simp [entryFrame, mkF, argsToLocals, Value.category]; done) | rfl) ?_
  intro m G K0
  have K : Cx l ({ frames := 1, cells := 0, slots := 0, locals := 14 } : Room) Z n0 _ "com/example/quadrille/quadrille/formats/NameCharactersIsXmlNameStartPinLaw" "isGap" method_3_code 1 (some .boolean) m G := K0
  refine K.iloadN d2_0 (pc' := 1) rfl rfl ?_
  refine K.bipush d2_1 (pc' := 3) rfl (z := 58) rfl ?_
  refine K.icmp_ge d2_3 (pc1 := 6) rfl (by decide) (pc2 := 8) (by decide) (a := p.toInt) (b := 58) rfl rfl (fun c3 => ?_) (fun c3 => ?_)
  · refine K.iloadN d2_8 (pc' := 9) rfl rfl ?_
    refine K.ldcI d2_9 (pc' := 11) rfl (hw _ (List.mem_of_getElem? (i := 7) rfl)) ?_
    refine K.icmp_le d2_11 (pc1 := 14) rfl (by decide) (pc2 := 16) (by decide) (a := p.toInt) (b := 983039) rfl rfl (fun c11 => ?_) (fun c11 => ?_)
    · refine K.iloadN d2_16 (pc' := 17) rfl rfl ?_
      refine K.bipush d2_17 (pc' := 19) rfl (z := 59) rfl ?_
      refine K.bipush d2_19 (pc' := 21) rfl (z := 64) rfl ?_
      refine K.calls (argsL := [(.int p), (.int (59 : Int32)), (.int (64 : Int32))]) (rest := []) d2_21 (pc' := 24) rfl (c_in l Z a0 hw n0 h (p := p) (lo := (59 : Int32)) (hi := (64 : Int32)) ) (hw _ (List.mem_of_getElem? (i := 21) rfl)) (hw _ (List.mem_of_getElem? (i := 22) rfl)) (hw _ (List.mem_of_getElem? (i := 17) rfl)) (hw _ (List.mem_of_getElem? (i := 23) rfl)) (by decide) pd_0 rfl rfl (W := 0) (by simp [Value.category]) (by decide) (by decide) (by decide) (by decide) (fun v_3 h_1 q_2 => ?_)
      obtain ⟨rfl, rfl⟩ := q_2
      show G h 0 0 (mkF m 24 #[.val (.int p)] [(.int (b2 (59 ≤ p.toInt ∧ p.toInt ≤ 64)))])
      refine K.ifneB d2_24 (pc1 := 27) rfl (by decide) (pc2 := 175) (by decide) (fun c24 => ?_) (fun c24 => ?_)
      · refine K.iconst d2_175 (pc' := 176) rfl (z := 1) rfl ?_
        refine K.goto d2_176 (by decide) (pc' := 180) (by decide) ?_
        exact K.retz d2_180 (Or.inr rfl) (by decide) (by decide) ⟨by rw [b2_t (by omega)], rfl⟩
      · refine K.iloadN d2_27 (pc' := 28) rfl rfl ?_
        refine K.bipush d2_28 (pc' := 30) rfl (z := 91) rfl ?_
        refine K.bipush d2_30 (pc' := 32) rfl (z := 94) rfl ?_
        refine K.calls (argsL := [(.int p), (.int (91 : Int32)), (.int (94 : Int32))]) (rest := []) d2_32 (pc' := 35) rfl (c_in l Z a0 hw n0 h (p := p) (lo := (91 : Int32)) (hi := (94 : Int32)) ) (hw _ (List.mem_of_getElem? (i := 21) rfl)) (hw _ (List.mem_of_getElem? (i := 22) rfl)) (hw _ (List.mem_of_getElem? (i := 17) rfl)) (hw _ (List.mem_of_getElem? (i := 23) rfl)) (by decide) pd_0 rfl rfl (W := 0) (by simp [Value.category]) (by decide) (by decide) (by decide) (by decide) (fun v_7 h_5 q_6 => ?_)
        obtain ⟨rfl, rfl⟩ := q_6
        show G h 0 0 (mkF m 35 #[.val (.int p)] [(.int (b2 (91 ≤ p.toInt ∧ p.toInt ≤ 94)))])
        refine K.ifneB d2_35 (pc1 := 38) rfl (by decide) (pc2 := 175) (by decide) (fun c35 => ?_) (fun c35 => ?_)
        · refine K.iconst d2_175 (pc' := 176) rfl (z := 1) rfl ?_
          refine K.goto d2_176 (by decide) (pc' := 180) (by decide) ?_
          exact K.retz d2_180 (Or.inr rfl) (by decide) (by decide) ⟨by rw [b2_t (by omega)], rfl⟩
        · refine K.iloadN d2_38 (pc' := 39) rfl rfl ?_
          refine K.bipush d2_39 (pc' := 41) rfl (z := 96) rfl ?_
          refine K.icmp_eq d2_41 (pc1 := 44) rfl (by decide) (pc2 := 175) (by decide) (a := p.toInt) (b := 96) rfl rfl (fun c41 => ?_) (fun c41 => ?_)
          · refine K.iconst d2_175 (pc' := 176) rfl (z := 1) rfl ?_
            refine K.goto d2_176 (by decide) (pc' := 180) (by decide) ?_
            exact K.retz d2_180 (Or.inr rfl) (by decide) (by decide) ⟨by rw [b2_t (by omega)], rfl⟩
          · refine K.iloadN d2_44 (pc' := 45) rfl rfl ?_
            refine K.bipush d2_45 (pc' := 47) rfl (z := 123) rfl ?_
            refine K.sipush d2_47 (pc' := 50) rfl (z := 191) rfl ?_
            refine K.calls (argsL := [(.int p), (.int (123 : Int32)), (.int (191 : Int32))]) (rest := []) d2_50 (pc' := 53) rfl (c_in l Z a0 hw n0 h (p := p) (lo := (123 : Int32)) (hi := (191 : Int32)) ) (hw _ (List.mem_of_getElem? (i := 21) rfl)) (hw _ (List.mem_of_getElem? (i := 22) rfl)) (hw _ (List.mem_of_getElem? (i := 17) rfl)) (hw _ (List.mem_of_getElem? (i := 23) rfl)) (by decide) pd_0 rfl rfl (W := 0) (by simp [Value.category]) (by decide) (by decide) (by decide) (by decide) (fun v_11 h_9 q_10 => ?_)
            obtain ⟨rfl, rfl⟩ := q_10
            show G h 0 0 (mkF m 53 #[.val (.int p)] [(.int (b2 (123 ≤ p.toInt ∧ p.toInt ≤ 191)))])
            refine K.ifneB d2_53 (pc1 := 56) rfl (by decide) (pc2 := 175) (by decide) (fun c53 => ?_) (fun c53 => ?_)
            · refine K.iconst d2_175 (pc' := 176) rfl (z := 1) rfl ?_
              refine K.goto d2_176 (by decide) (pc' := 180) (by decide) ?_
              exact K.retz d2_180 (Or.inr rfl) (by decide) (by decide) ⟨by rw [b2_t (by omega)], rfl⟩
            · refine K.iloadN d2_56 (pc' := 57) rfl rfl ?_
              refine K.sipush d2_57 (pc' := 60) rfl (z := 215) rfl ?_
              refine K.icmp_eq d2_60 (pc1 := 63) rfl (by decide) (pc2 := 175) (by decide) (a := p.toInt) (b := 215) rfl rfl (fun c60 => ?_) (fun c60 => ?_)
              · refine K.iconst d2_175 (pc' := 176) rfl (z := 1) rfl ?_
                refine K.goto d2_176 (by decide) (pc' := 180) (by decide) ?_
                exact K.retz d2_180 (Or.inr rfl) (by decide) (by decide) ⟨by rw [b2_t (by omega)], rfl⟩
              · refine K.iloadN d2_63 (pc' := 64) rfl rfl ?_
                refine K.sipush d2_64 (pc' := 67) rfl (z := 247) rfl ?_
                refine K.icmp_eq d2_67 (pc1 := 70) rfl (by decide) (pc2 := 175) (by decide) (a := p.toInt) (b := 247) rfl rfl (fun c67 => ?_) (fun c67 => ?_)
                · refine K.iconst d2_175 (pc' := 176) rfl (z := 1) rfl ?_
                  refine K.goto d2_176 (by decide) (pc' := 180) (by decide) ?_
                  exact K.retz d2_180 (Or.inr rfl) (by decide) (by decide) ⟨by rw [b2_t (by omega)], rfl⟩
                · refine K.iloadN d2_70 (pc' := 71) rfl rfl ?_
                  refine K.sipush d2_71 (pc' := 74) rfl (z := 768) rfl ?_
                  refine K.sipush d2_74 (pc' := 77) rfl (z := 879) rfl ?_
                  refine K.calls (argsL := [(.int p), (.int (768 : Int32)), (.int (879 : Int32))]) (rest := []) d2_77 (pc' := 80) rfl (c_in l Z a0 hw n0 h (p := p) (lo := (768 : Int32)) (hi := (879 : Int32)) ) (hw _ (List.mem_of_getElem? (i := 21) rfl)) (hw _ (List.mem_of_getElem? (i := 22) rfl)) (hw _ (List.mem_of_getElem? (i := 17) rfl)) (hw _ (List.mem_of_getElem? (i := 23) rfl)) (by decide) pd_0 rfl rfl (W := 0) (by simp [Value.category]) (by decide) (by decide) (by decide) (by decide) (fun v_15 h_13 q_14 => ?_)
                  obtain ⟨rfl, rfl⟩ := q_14
                  show G h 0 0 (mkF m 80 #[.val (.int p)] [(.int (b2 (768 ≤ p.toInt ∧ p.toInt ≤ 879)))])
                  refine K.ifneB d2_80 (pc1 := 83) rfl (by decide) (pc2 := 175) (by decide) (fun c80 => ?_) (fun c80 => ?_)
                  · refine K.iconst d2_175 (pc' := 176) rfl (z := 1) rfl ?_
                    refine K.goto d2_176 (by decide) (pc' := 180) (by decide) ?_
                    exact K.retz d2_180 (Or.inr rfl) (by decide) (by decide) ⟨by rw [b2_t (by omega)], rfl⟩
                  · refine K.iloadN d2_83 (pc' := 84) rfl rfl ?_
                    refine K.sipush d2_84 (pc' := 87) rfl (z := 894) rfl ?_
                    refine K.icmp_eq d2_87 (pc1 := 90) rfl (by decide) (pc2 := 175) (by decide) (a := p.toInt) (b := 894) rfl rfl (fun c87 => ?_) (fun c87 => ?_)
                    · refine K.iconst d2_175 (pc' := 176) rfl (z := 1) rfl ?_
                      refine K.goto d2_176 (by decide) (pc' := 180) (by decide) ?_
                      exact K.retz d2_180 (Or.inr rfl) (by decide) (by decide) ⟨by rw [b2_t (by omega)], rfl⟩
                    · refine K.iloadN d2_90 (pc' := 91) rfl rfl ?_
                      refine K.sipush d2_91 (pc' := 94) rfl (z := 8192) rfl ?_
                      refine K.sipush d2_94 (pc' := 97) rfl (z := 8203) rfl ?_
                      refine K.calls (argsL := [(.int p), (.int (8192 : Int32)), (.int (8203 : Int32))]) (rest := []) d2_97 (pc' := 100) rfl (c_in l Z a0 hw n0 h (p := p) (lo := (8192 : Int32)) (hi := (8203 : Int32)) ) (hw _ (List.mem_of_getElem? (i := 21) rfl)) (hw _ (List.mem_of_getElem? (i := 22) rfl)) (hw _ (List.mem_of_getElem? (i := 17) rfl)) (hw _ (List.mem_of_getElem? (i := 23) rfl)) (by decide) pd_0 rfl rfl (W := 0) (by simp [Value.category]) (by decide) (by decide) (by decide) (by decide) (fun v_19 h_17 q_18 => ?_)
                      obtain ⟨rfl, rfl⟩ := q_18
                      show G h 0 0 (mkF m 100 #[.val (.int p)] [(.int (b2 (8192 ≤ p.toInt ∧ p.toInt ≤ 8203)))])
                      refine K.ifneB d2_100 (pc1 := 103) rfl (by decide) (pc2 := 175) (by decide) (fun c100 => ?_) (fun c100 => ?_)
                      · refine K.iconst d2_175 (pc' := 176) rfl (z := 1) rfl ?_
                        refine K.goto d2_176 (by decide) (pc' := 180) (by decide) ?_
                        exact K.retz d2_180 (Or.inr rfl) (by decide) (by decide) ⟨by rw [b2_t (by omega)], rfl⟩
                      · refine K.iloadN d2_103 (pc' := 104) rfl rfl ?_
                        refine K.sipush d2_104 (pc' := 107) rfl (z := 8206) rfl ?_
                        refine K.sipush d2_107 (pc' := 110) rfl (z := 8303) rfl ?_
                        refine K.calls (argsL := [(.int p), (.int (8206 : Int32)), (.int (8303 : Int32))]) (rest := []) d2_110 (pc' := 113) rfl (c_in l Z a0 hw n0 h (p := p) (lo := (8206 : Int32)) (hi := (8303 : Int32)) ) (hw _ (List.mem_of_getElem? (i := 21) rfl)) (hw _ (List.mem_of_getElem? (i := 22) rfl)) (hw _ (List.mem_of_getElem? (i := 17) rfl)) (hw _ (List.mem_of_getElem? (i := 23) rfl)) (by decide) pd_0 rfl rfl (W := 0) (by simp [Value.category]) (by decide) (by decide) (by decide) (by decide) (fun v_23 h_21 q_22 => ?_)
                        obtain ⟨rfl, rfl⟩ := q_22
                        show G h 0 0 (mkF m 113 #[.val (.int p)] [(.int (b2 (8206 ≤ p.toInt ∧ p.toInt ≤ 8303)))])
                        refine K.ifneB d2_113 (pc1 := 116) rfl (by decide) (pc2 := 175) (by decide) (fun c113 => ?_) (fun c113 => ?_)
                        · refine K.iconst d2_175 (pc' := 176) rfl (z := 1) rfl ?_
                          refine K.goto d2_176 (by decide) (pc' := 180) (by decide) ?_
                          exact K.retz d2_180 (Or.inr rfl) (by decide) (by decide) ⟨by rw [b2_t (by omega)], rfl⟩
                        · refine K.iloadN d2_116 (pc' := 117) rfl rfl ?_
                          refine K.sipush d2_117 (pc' := 120) rfl (z := 8592) rfl ?_
                          refine K.sipush d2_120 (pc' := 123) rfl (z := 11263) rfl ?_
                          refine K.calls (argsL := [(.int p), (.int (8592 : Int32)), (.int (11263 : Int32))]) (rest := []) d2_123 (pc' := 126) rfl (c_in l Z a0 hw n0 h (p := p) (lo := (8592 : Int32)) (hi := (11263 : Int32)) ) (hw _ (List.mem_of_getElem? (i := 21) rfl)) (hw _ (List.mem_of_getElem? (i := 22) rfl)) (hw _ (List.mem_of_getElem? (i := 17) rfl)) (hw _ (List.mem_of_getElem? (i := 23) rfl)) (by decide) pd_0 rfl rfl (W := 0) (by simp [Value.category]) (by decide) (by decide) (by decide) (by decide) (fun v_27 h_25 q_26 => ?_)
                          obtain ⟨rfl, rfl⟩ := q_26
                          show G h 0 0 (mkF m 126 #[.val (.int p)] [(.int (b2 (8592 ≤ p.toInt ∧ p.toInt ≤ 11263)))])
                          refine K.ifneB d2_126 (pc1 := 129) rfl (by decide) (pc2 := 175) (by decide) (fun c126 => ?_) (fun c126 => ?_)
                          · refine K.iconst d2_175 (pc' := 176) rfl (z := 1) rfl ?_
                            refine K.goto d2_176 (by decide) (pc' := 180) (by decide) ?_
                            exact K.retz d2_180 (Or.inr rfl) (by decide) (by decide) ⟨by rw [b2_t (by omega)], rfl⟩
                          · refine K.iloadN d2_129 (pc' := 130) rfl rfl ?_
                            refine K.sipush d2_130 (pc' := 133) rfl (z := 12272) rfl ?_
                            refine K.sipush d2_133 (pc' := 136) rfl (z := 12288) rfl ?_
                            refine K.calls (argsL := [(.int p), (.int (12272 : Int32)), (.int (12288 : Int32))]) (rest := []) d2_136 (pc' := 139) rfl (c_in l Z a0 hw n0 h (p := p) (lo := (12272 : Int32)) (hi := (12288 : Int32)) ) (hw _ (List.mem_of_getElem? (i := 21) rfl)) (hw _ (List.mem_of_getElem? (i := 22) rfl)) (hw _ (List.mem_of_getElem? (i := 17) rfl)) (hw _ (List.mem_of_getElem? (i := 23) rfl)) (by decide) pd_0 rfl rfl (W := 0) (by simp [Value.category]) (by decide) (by decide) (by decide) (by decide) (fun v_31 h_29 q_30 => ?_)
                            obtain ⟨rfl, rfl⟩ := q_30
                            show G h 0 0 (mkF m 139 #[.val (.int p)] [(.int (b2 (12272 ≤ p.toInt ∧ p.toInt ≤ 12288)))])
                            refine K.ifneB d2_139 (pc1 := 142) rfl (by decide) (pc2 := 175) (by decide) (fun c139 => ?_) (fun c139 => ?_)
                            · refine K.iconst d2_175 (pc' := 176) rfl (z := 1) rfl ?_
                              refine K.goto d2_176 (by decide) (pc' := 180) (by decide) ?_
                              exact K.retz d2_180 (Or.inr rfl) (by decide) (by decide) ⟨by rw [b2_t (by omega)], rfl⟩
                            · refine K.iloadN d2_142 (pc' := 143) rfl rfl ?_
                              refine K.ldcI d2_143 (pc' := 145) rfl (hw _ (List.mem_of_getElem? (i := 27) rfl)) ?_
                              refine K.ldcI d2_145 (pc' := 147) rfl (hw _ (List.mem_of_getElem? (i := 28) rfl)) ?_
                              refine K.calls (argsL := [(.int p), (.int (55296 : Int32)), (.int (63743 : Int32))]) (rest := []) d2_147 (pc' := 150) rfl (c_in l Z a0 hw n0 h (p := p) (lo := (55296 : Int32)) (hi := (63743 : Int32)) ) (hw _ (List.mem_of_getElem? (i := 21) rfl)) (hw _ (List.mem_of_getElem? (i := 22) rfl)) (hw _ (List.mem_of_getElem? (i := 17) rfl)) (hw _ (List.mem_of_getElem? (i := 23) rfl)) (by decide) pd_0 rfl rfl (W := 0) (by simp [Value.category]) (by decide) (by decide) (by decide) (by decide) (fun v_35 h_33 q_34 => ?_)
                              obtain ⟨rfl, rfl⟩ := q_34
                              show G h 0 0 (mkF m 150 #[.val (.int p)] [(.int (b2 (55296 ≤ p.toInt ∧ p.toInt ≤ 63743)))])
                              refine K.ifneB d2_150 (pc1 := 153) rfl (by decide) (pc2 := 175) (by decide) (fun c150 => ?_) (fun c150 => ?_)
                              · refine K.iconst d2_175 (pc' := 176) rfl (z := 1) rfl ?_
                                refine K.goto d2_176 (by decide) (pc' := 180) (by decide) ?_
                                exact K.retz d2_180 (Or.inr rfl) (by decide) (by decide) ⟨by rw [b2_t (by omega)], rfl⟩
                              · refine K.iloadN d2_153 (pc' := 154) rfl rfl ?_
                                refine K.ldcI d2_154 (pc' := 156) rfl (hw _ (List.mem_of_getElem? (i := 29) rfl)) ?_
                                refine K.ldcI d2_156 (pc' := 158) rfl (hw _ (List.mem_of_getElem? (i := 30) rfl)) ?_
                                refine K.calls (argsL := [(.int p), (.int (64976 : Int32)), (.int (65007 : Int32))]) (rest := []) d2_158 (pc' := 161) rfl (c_in l Z a0 hw n0 h (p := p) (lo := (64976 : Int32)) (hi := (65007 : Int32)) ) (hw _ (List.mem_of_getElem? (i := 21) rfl)) (hw _ (List.mem_of_getElem? (i := 22) rfl)) (hw _ (List.mem_of_getElem? (i := 17) rfl)) (hw _ (List.mem_of_getElem? (i := 23) rfl)) (by decide) pd_0 rfl rfl (W := 0) (by simp [Value.category]) (by decide) (by decide) (by decide) (by decide) (fun v_39 h_37 q_38 => ?_)
                                obtain ⟨rfl, rfl⟩ := q_38
                                show G h 0 0 (mkF m 161 #[.val (.int p)] [(.int (b2 (64976 ≤ p.toInt ∧ p.toInt ≤ 65007)))])
                                refine K.ifneB d2_161 (pc1 := 164) rfl (by decide) (pc2 := 175) (by decide) (fun c161 => ?_) (fun c161 => ?_)
                                · refine K.iconst d2_175 (pc' := 176) rfl (z := 1) rfl ?_
                                  refine K.goto d2_176 (by decide) (pc' := 180) (by decide) ?_
                                  exact K.retz d2_180 (Or.inr rfl) (by decide) (by decide) ⟨by rw [b2_t (by omega)], rfl⟩
                                · refine K.iloadN d2_164 (pc' := 165) rfl rfl ?_
                                  refine K.ldcI d2_165 (pc' := 167) rfl (hw _ (List.mem_of_getElem? (i := 31) rfl)) ?_
                                  refine K.ldcI d2_167 (pc' := 169) rfl (hw _ (List.mem_of_getElem? (i := 32) rfl)) ?_
                                  refine K.calls (argsL := [(.int p), (.int (65534 : Int32)), (.int (65535 : Int32))]) (rest := []) d2_169 (pc' := 172) rfl (c_in l Z a0 hw n0 h (p := p) (lo := (65534 : Int32)) (hi := (65535 : Int32)) ) (hw _ (List.mem_of_getElem? (i := 21) rfl)) (hw _ (List.mem_of_getElem? (i := 22) rfl)) (hw _ (List.mem_of_getElem? (i := 17) rfl)) (hw _ (List.mem_of_getElem? (i := 23) rfl)) (by decide) pd_0 rfl rfl (W := 0) (by simp [Value.category]) (by decide) (by decide) (by decide) (by decide) (fun v_43 h_41 q_42 => ?_)
                                  obtain ⟨rfl, rfl⟩ := q_42
                                  show G h 0 0 (mkF m 172 #[.val (.int p)] [(.int (b2 (65534 ≤ p.toInt ∧ p.toInt ≤ 65535)))])
                                  refine K.ifeqB d2_172 (pc1 := 175) rfl (by decide) (pc2 := 179) (by decide) (fun c172 => ?_) (fun c172 => ?_)
                                  · refine K.iconst d2_179 (pc' := 180) rfl (z := 0) rfl ?_
                                    exact K.retz d2_180 (Or.inl rfl) (by decide) (by decide) ⟨by rw [b2_f (by omega)], rfl⟩
                                  · refine K.iconst d2_175 (pc' := 176) rfl (z := 1) rfl ?_
                                    refine K.goto d2_176 (by decide) (pc' := 180) (by decide) ?_
                                    exact K.retz d2_180 (Or.inr rfl) (by decide) (by decide) ⟨by rw [b2_t (by omega)], rfl⟩
    · refine K.iconst d2_14 (pc' := 15) rfl (z := 1) rfl ?_
      exact K.retz d2_15 (Or.inr rfl) (by decide) (by decide) ⟨by rw [b2_t (by omega)], rfl⟩
  · refine K.iconst d2_6 (pc' := 7) rfl (z := 1) rfl ?_
    exact K.retz d2_7 (Or.inr rfl) (by decide) (by decide) ⟨by rw [b2_t (by omega)], rfl⟩
theorem pd_1 : parseMethodDescriptor "(I)Z" = some ⟨[.int], some .boolean⟩ := by decide +kernel
set_option maxRecDepth 65536 in
set_option maxHeartbeats 40000000 in
theorem c_law (l : Launch) (Z : State) (a0 : Array Value) (hw : ∀ d ∈ tables_1, d.before a0 Z = true) (n0 : Nat) (h : Heap) (c : Int32) (k : Int32) (d : Int32) (Z0 : n0 ≤ h.size) : MeetsW l Z n0 x code maxLocals ret room_1 #[(.int c), (.int k), (.int d)] h (fun v h' => v = some (.int 1)) := by
  refine MeetsW.intro (plainFor_of_name pn_com_example_quadrille_quadrille_formats_NameCharactersIsXmlNameStartPinLaw) (L0 := #[.val (.int c), .val (.int k), .val (.int d), .unset, .unset, .unset, .unset, .unset, .unset, .unset, .unset]) (fun m => by first | (simp [entryFrame, mkF, argsToLocals, Value.category, maxLocals]; done) | rfl) ?_
  intro m G K0
  have K : Cx l room_1 Z n0 _ "com/example/quadrille/quadrille/formats/NameCharactersIsXmlNameStartPinLaw" "law" code 11 (some .boolean) m G := K0
  refine K.bipush at_0 (pc' := 2) rfl (z := 16) rfl ?_
  refine K.newa at_2 (pc' := 4) rfl (hw _ (List.mem_of_getElem? (i := 0) rfl)) (k := 16) (cap := 16) rfl (by decide) (by decide) (by decide) (by decide) (ad := "[I") (by decide) (fun h_2 a_1 g_a_1 E_3 A_4 x_a_1 => ?_)
  have ge_a_1 : n0 ≤ a_1 := g_a_1 ▸ Z0
  have sz_5 : n0 ≤ h_2.size := Nat.le_trans Z0 E_3.1
  have A_6 : Ary Z h_2 a_1 .int [(.int (0 : Int32)), (.int (0 : Int32)), (.int (0 : Int32)), (.int (0 : Int32)), (.int (0 : Int32)), (.int (0 : Int32)), (.int (0 : Int32)), (.int (0 : Int32)), (.int (0 : Int32)), (.int (0 : Int32)), (.int (0 : Int32)), (.int (0 : Int32)), (.int (0 : Int32)), (.int (0 : Int32)), (.int (0 : Int32)), (.int (0 : Int32))] := A_4
  refine K.dup at_4 (pc' := 5) rfl rfl ?_
  refine K.iconst at_5 (pc' := 6) rfl (z := 0) rfl ?_
  refine K.bipush at_6 (pc' := 8) rfl (z := 58) rfl ?_
  refine K.iast at_8 (pc' := 9) rfl A_6 (i := 0) rfl (show 0 < 16 by decide) ge_a_1 (fun h_7 W_8 A_9 => ?_)
  have sz_11 : n0 ≤ h_7.size := Nat.le_trans sz_5 (Keep.of_wr W_8).1
  have A_12 : Ary Z h_7 a_1 .int [(.int (58 : Int32)), (.int (0 : Int32)), (.int (0 : Int32)), (.int (0 : Int32)), (.int (0 : Int32)), (.int (0 : Int32)), (.int (0 : Int32)), (.int (0 : Int32)), (.int (0 : Int32)), (.int (0 : Int32)), (.int (0 : Int32)), (.int (0 : Int32)), (.int (0 : Int32)), (.int (0 : Int32)), (.int (0 : Int32)), (.int (0 : Int32))] := A_9
  refine K.dup at_9 (pc' := 10) rfl rfl ?_
  refine K.iconst at_10 (pc' := 11) rfl (z := 1) rfl ?_
  refine K.bipush at_11 (pc' := 13) rfl (z := 65) rfl ?_
  refine K.iast at_13 (pc' := 14) rfl A_12 (i := 1) rfl (show 1 < 16 by decide) ge_a_1 (fun h_13 W_14 A_15 => ?_)
  have sz_17 : n0 ≤ h_13.size := Nat.le_trans sz_11 (Keep.of_wr W_14).1
  have A_18 : Ary Z h_13 a_1 .int [(.int (58 : Int32)), (.int (65 : Int32)), (.int (0 : Int32)), (.int (0 : Int32)), (.int (0 : Int32)), (.int (0 : Int32)), (.int (0 : Int32)), (.int (0 : Int32)), (.int (0 : Int32)), (.int (0 : Int32)), (.int (0 : Int32)), (.int (0 : Int32)), (.int (0 : Int32)), (.int (0 : Int32)), (.int (0 : Int32)), (.int (0 : Int32))] := A_15
  refine K.dup at_14 (pc' := 15) rfl rfl ?_
  refine K.iconst at_15 (pc' := 16) rfl (z := 2) rfl ?_
  refine K.bipush at_16 (pc' := 18) rfl (z := 95) rfl ?_
  refine K.iast at_18 (pc' := 19) rfl A_18 (i := 2) rfl (show 2 < 16 by decide) ge_a_1 (fun h_19 W_20 A_21 => ?_)
  have sz_23 : n0 ≤ h_19.size := Nat.le_trans sz_17 (Keep.of_wr W_20).1
  have A_24 : Ary Z h_19 a_1 .int [(.int (58 : Int32)), (.int (65 : Int32)), (.int (95 : Int32)), (.int (0 : Int32)), (.int (0 : Int32)), (.int (0 : Int32)), (.int (0 : Int32)), (.int (0 : Int32)), (.int (0 : Int32)), (.int (0 : Int32)), (.int (0 : Int32)), (.int (0 : Int32)), (.int (0 : Int32)), (.int (0 : Int32)), (.int (0 : Int32)), (.int (0 : Int32))] := A_21
  refine K.dup at_19 (pc' := 20) rfl rfl ?_
  refine K.iconst at_20 (pc' := 21) rfl (z := 3) rfl ?_
  refine K.bipush at_21 (pc' := 23) rfl (z := 97) rfl ?_
  refine K.iast at_23 (pc' := 24) rfl A_24 (i := 3) rfl (show 3 < 16 by decide) ge_a_1 (fun h_25 W_26 A_27 => ?_)
  have sz_29 : n0 ≤ h_25.size := Nat.le_trans sz_23 (Keep.of_wr W_26).1
  have A_30 : Ary Z h_25 a_1 .int [(.int (58 : Int32)), (.int (65 : Int32)), (.int (95 : Int32)), (.int (97 : Int32)), (.int (0 : Int32)), (.int (0 : Int32)), (.int (0 : Int32)), (.int (0 : Int32)), (.int (0 : Int32)), (.int (0 : Int32)), (.int (0 : Int32)), (.int (0 : Int32)), (.int (0 : Int32)), (.int (0 : Int32)), (.int (0 : Int32)), (.int (0 : Int32))] := A_27
  refine K.dup at_24 (pc' := 25) rfl rfl ?_
  refine K.iconst at_25 (pc' := 26) rfl (z := 4) rfl ?_
  refine K.sipush at_26 (pc' := 29) rfl (z := 192) rfl ?_
  refine K.iast at_29 (pc' := 30) rfl A_30 (i := 4) rfl (show 4 < 16 by decide) ge_a_1 (fun h_31 W_32 A_33 => ?_)
  have sz_35 : n0 ≤ h_31.size := Nat.le_trans sz_29 (Keep.of_wr W_32).1
  have A_36 : Ary Z h_31 a_1 .int [(.int (58 : Int32)), (.int (65 : Int32)), (.int (95 : Int32)), (.int (97 : Int32)), (.int (192 : Int32)), (.int (0 : Int32)), (.int (0 : Int32)), (.int (0 : Int32)), (.int (0 : Int32)), (.int (0 : Int32)), (.int (0 : Int32)), (.int (0 : Int32)), (.int (0 : Int32)), (.int (0 : Int32)), (.int (0 : Int32)), (.int (0 : Int32))] := A_33
  refine K.dup at_30 (pc' := 31) rfl rfl ?_
  refine K.iconst at_31 (pc' := 32) rfl (z := 5) rfl ?_
  refine K.sipush at_32 (pc' := 35) rfl (z := 216) rfl ?_
  refine K.iast at_35 (pc' := 36) rfl A_36 (i := 5) rfl (show 5 < 16 by decide) ge_a_1 (fun h_37 W_38 A_39 => ?_)
  have sz_41 : n0 ≤ h_37.size := Nat.le_trans sz_35 (Keep.of_wr W_38).1
  have A_42 : Ary Z h_37 a_1 .int [(.int (58 : Int32)), (.int (65 : Int32)), (.int (95 : Int32)), (.int (97 : Int32)), (.int (192 : Int32)), (.int (216 : Int32)), (.int (0 : Int32)), (.int (0 : Int32)), (.int (0 : Int32)), (.int (0 : Int32)), (.int (0 : Int32)), (.int (0 : Int32)), (.int (0 : Int32)), (.int (0 : Int32)), (.int (0 : Int32)), (.int (0 : Int32))] := A_39
  refine K.dup at_36 (pc' := 37) rfl rfl ?_
  refine K.bipush at_37 (pc' := 39) rfl (z := 6) rfl ?_
  refine K.sipush at_39 (pc' := 42) rfl (z := 248) rfl ?_
  refine K.iast at_42 (pc' := 43) rfl A_42 (i := 6) rfl (show 6 < 16 by decide) ge_a_1 (fun h_43 W_44 A_45 => ?_)
  have sz_47 : n0 ≤ h_43.size := Nat.le_trans sz_41 (Keep.of_wr W_44).1
  have A_48 : Ary Z h_43 a_1 .int [(.int (58 : Int32)), (.int (65 : Int32)), (.int (95 : Int32)), (.int (97 : Int32)), (.int (192 : Int32)), (.int (216 : Int32)), (.int (248 : Int32)), (.int (0 : Int32)), (.int (0 : Int32)), (.int (0 : Int32)), (.int (0 : Int32)), (.int (0 : Int32)), (.int (0 : Int32)), (.int (0 : Int32)), (.int (0 : Int32)), (.int (0 : Int32))] := A_45
  refine K.dup at_43 (pc' := 44) rfl rfl ?_
  refine K.bipush at_44 (pc' := 46) rfl (z := 7) rfl ?_
  refine K.sipush at_46 (pc' := 49) rfl (z := 880) rfl ?_
  refine K.iast at_49 (pc' := 50) rfl A_48 (i := 7) rfl (show 7 < 16 by decide) ge_a_1 (fun h_49 W_50 A_51 => ?_)
  have sz_53 : n0 ≤ h_49.size := Nat.le_trans sz_47 (Keep.of_wr W_50).1
  have A_54 : Ary Z h_49 a_1 .int [(.int (58 : Int32)), (.int (65 : Int32)), (.int (95 : Int32)), (.int (97 : Int32)), (.int (192 : Int32)), (.int (216 : Int32)), (.int (248 : Int32)), (.int (880 : Int32)), (.int (0 : Int32)), (.int (0 : Int32)), (.int (0 : Int32)), (.int (0 : Int32)), (.int (0 : Int32)), (.int (0 : Int32)), (.int (0 : Int32)), (.int (0 : Int32))] := A_51
  refine K.dup at_50 (pc' := 51) rfl rfl ?_
  refine K.bipush at_51 (pc' := 53) rfl (z := 8) rfl ?_
  refine K.sipush at_53 (pc' := 56) rfl (z := 895) rfl ?_
  refine K.iast at_56 (pc' := 57) rfl A_54 (i := 8) rfl (show 8 < 16 by decide) ge_a_1 (fun h_55 W_56 A_57 => ?_)
  have sz_59 : n0 ≤ h_55.size := Nat.le_trans sz_53 (Keep.of_wr W_56).1
  have A_60 : Ary Z h_55 a_1 .int [(.int (58 : Int32)), (.int (65 : Int32)), (.int (95 : Int32)), (.int (97 : Int32)), (.int (192 : Int32)), (.int (216 : Int32)), (.int (248 : Int32)), (.int (880 : Int32)), (.int (895 : Int32)), (.int (0 : Int32)), (.int (0 : Int32)), (.int (0 : Int32)), (.int (0 : Int32)), (.int (0 : Int32)), (.int (0 : Int32)), (.int (0 : Int32))] := A_57
  refine K.dup at_57 (pc' := 58) rfl rfl ?_
  refine K.bipush at_58 (pc' := 60) rfl (z := 9) rfl ?_
  refine K.sipush at_60 (pc' := 63) rfl (z := 8204) rfl ?_
  refine K.iast at_63 (pc' := 64) rfl A_60 (i := 9) rfl (show 9 < 16 by decide) ge_a_1 (fun h_61 W_62 A_63 => ?_)
  have sz_65 : n0 ≤ h_61.size := Nat.le_trans sz_59 (Keep.of_wr W_62).1
  have A_66 : Ary Z h_61 a_1 .int [(.int (58 : Int32)), (.int (65 : Int32)), (.int (95 : Int32)), (.int (97 : Int32)), (.int (192 : Int32)), (.int (216 : Int32)), (.int (248 : Int32)), (.int (880 : Int32)), (.int (895 : Int32)), (.int (8204 : Int32)), (.int (0 : Int32)), (.int (0 : Int32)), (.int (0 : Int32)), (.int (0 : Int32)), (.int (0 : Int32)), (.int (0 : Int32))] := A_63
  refine K.dup at_64 (pc' := 65) rfl rfl ?_
  refine K.bipush at_65 (pc' := 67) rfl (z := 10) rfl ?_
  refine K.sipush at_67 (pc' := 70) rfl (z := 8304) rfl ?_
  refine K.iast at_70 (pc' := 71) rfl A_66 (i := 10) rfl (show 10 < 16 by decide) ge_a_1 (fun h_67 W_68 A_69 => ?_)
  have sz_71 : n0 ≤ h_67.size := Nat.le_trans sz_65 (Keep.of_wr W_68).1
  have A_72 : Ary Z h_67 a_1 .int [(.int (58 : Int32)), (.int (65 : Int32)), (.int (95 : Int32)), (.int (97 : Int32)), (.int (192 : Int32)), (.int (216 : Int32)), (.int (248 : Int32)), (.int (880 : Int32)), (.int (895 : Int32)), (.int (8204 : Int32)), (.int (8304 : Int32)), (.int (0 : Int32)), (.int (0 : Int32)), (.int (0 : Int32)), (.int (0 : Int32)), (.int (0 : Int32))] := A_69
  refine K.dup at_71 (pc' := 72) rfl rfl ?_
  refine K.bipush at_72 (pc' := 74) rfl (z := 11) rfl ?_
  refine K.sipush at_74 (pc' := 77) rfl (z := 11264) rfl ?_
  refine K.iast at_77 (pc' := 78) rfl A_72 (i := 11) rfl (show 11 < 16 by decide) ge_a_1 (fun h_73 W_74 A_75 => ?_)
  have sz_77 : n0 ≤ h_73.size := Nat.le_trans sz_71 (Keep.of_wr W_74).1
  have A_78 : Ary Z h_73 a_1 .int [(.int (58 : Int32)), (.int (65 : Int32)), (.int (95 : Int32)), (.int (97 : Int32)), (.int (192 : Int32)), (.int (216 : Int32)), (.int (248 : Int32)), (.int (880 : Int32)), (.int (895 : Int32)), (.int (8204 : Int32)), (.int (8304 : Int32)), (.int (11264 : Int32)), (.int (0 : Int32)), (.int (0 : Int32)), (.int (0 : Int32)), (.int (0 : Int32))] := A_75
  refine K.dup at_78 (pc' := 79) rfl rfl ?_
  refine K.bipush at_79 (pc' := 81) rfl (z := 12) rfl ?_
  refine K.sipush at_81 (pc' := 84) rfl (z := 12289) rfl ?_
  refine K.iast at_84 (pc' := 85) rfl A_78 (i := 12) rfl (show 12 < 16 by decide) ge_a_1 (fun h_79 W_80 A_81 => ?_)
  have sz_83 : n0 ≤ h_79.size := Nat.le_trans sz_77 (Keep.of_wr W_80).1
  have A_84 : Ary Z h_79 a_1 .int [(.int (58 : Int32)), (.int (65 : Int32)), (.int (95 : Int32)), (.int (97 : Int32)), (.int (192 : Int32)), (.int (216 : Int32)), (.int (248 : Int32)), (.int (880 : Int32)), (.int (895 : Int32)), (.int (8204 : Int32)), (.int (8304 : Int32)), (.int (11264 : Int32)), (.int (12289 : Int32)), (.int (0 : Int32)), (.int (0 : Int32)), (.int (0 : Int32))] := A_81
  refine K.dup at_85 (pc' := 86) rfl rfl ?_
  refine K.bipush at_86 (pc' := 88) rfl (z := 13) rfl ?_
  refine K.ldcI at_88 (pc' := 90) rfl (hw _ (List.mem_of_getElem? (i := 1) rfl)) ?_
  refine K.iast at_90 (pc' := 91) rfl A_84 (i := 13) rfl (show 13 < 16 by decide) ge_a_1 (fun h_85 W_86 A_87 => ?_)
  have sz_89 : n0 ≤ h_85.size := Nat.le_trans sz_83 (Keep.of_wr W_86).1
  have A_90 : Ary Z h_85 a_1 .int [(.int (58 : Int32)), (.int (65 : Int32)), (.int (95 : Int32)), (.int (97 : Int32)), (.int (192 : Int32)), (.int (216 : Int32)), (.int (248 : Int32)), (.int (880 : Int32)), (.int (895 : Int32)), (.int (8204 : Int32)), (.int (8304 : Int32)), (.int (11264 : Int32)), (.int (12289 : Int32)), (.int (63744 : Int32)), (.int (0 : Int32)), (.int (0 : Int32))] := A_87
  refine K.dup at_91 (pc' := 92) rfl rfl ?_
  refine K.bipush at_92 (pc' := 94) rfl (z := 14) rfl ?_
  refine K.ldcI at_94 (pc' := 96) rfl (hw _ (List.mem_of_getElem? (i := 2) rfl)) ?_
  refine K.iast at_96 (pc' := 97) rfl A_90 (i := 14) rfl (show 14 < 16 by decide) ge_a_1 (fun h_91 W_92 A_93 => ?_)
  have sz_95 : n0 ≤ h_91.size := Nat.le_trans sz_89 (Keep.of_wr W_92).1
  have A_96 : Ary Z h_91 a_1 .int [(.int (58 : Int32)), (.int (65 : Int32)), (.int (95 : Int32)), (.int (97 : Int32)), (.int (192 : Int32)), (.int (216 : Int32)), (.int (248 : Int32)), (.int (880 : Int32)), (.int (895 : Int32)), (.int (8204 : Int32)), (.int (8304 : Int32)), (.int (11264 : Int32)), (.int (12289 : Int32)), (.int (63744 : Int32)), (.int (65008 : Int32)), (.int (0 : Int32))] := A_93
  refine K.dup at_97 (pc' := 98) rfl rfl ?_
  refine K.bipush at_98 (pc' := 100) rfl (z := 15) rfl ?_
  refine K.ldcI at_100 (pc' := 102) rfl (hw _ (List.mem_of_getElem? (i := 3) rfl)) ?_
  refine K.iast at_102 (pc' := 103) rfl A_96 (i := 15) rfl (show 15 < 16 by decide) ge_a_1 (fun h_97 W_98 A_99 => ?_)
  have sz_101 : n0 ≤ h_97.size := Nat.le_trans sz_95 (Keep.of_wr W_98).1
  have A_102 : Ary Z h_97 a_1 .int [(.int (58 : Int32)), (.int (65 : Int32)), (.int (95 : Int32)), (.int (97 : Int32)), (.int (192 : Int32)), (.int (216 : Int32)), (.int (248 : Int32)), (.int (880 : Int32)), (.int (895 : Int32)), (.int (8204 : Int32)), (.int (8304 : Int32)), (.int (11264 : Int32)), (.int (12289 : Int32)), (.int (63744 : Int32)), (.int (65008 : Int32)), (.int (65536 : Int32))] := A_99
  refine K.astoreN at_103 (pc' := 104) rfl rfl (L' := #[.val (.int c), .val (.int k), .val (.int d), .val (.ref a_1), .unset, .unset, .unset, .unset, .unset, .unset, .unset]) rfl ?_
  refine K.bipush at_104 (pc' := 106) rfl (z := 16) rfl ?_
  refine K.newa at_106 (pc' := 108) rfl (hw _ (List.mem_of_getElem? (i := 0) rfl)) (k := 16) (cap := 16) rfl (by decide) (by decide) (by decide) (by decide) (ad := "[I") (by decide) (fun h_104 a_103 g_a_103 E_105 A_106 x_a_103 => ?_)
  have ne_a_1_a_103 : a_1 ≠ a_103 := Nat.ne_of_lt (g_a_103 ▸ A_102.lt)
  have ge_a_103 : n0 ≤ a_103 := g_a_103 ▸ sz_101
  have f_107 : Ary Z h_104 a_1 .int [(.int (58 : Int32)), (.int (65 : Int32)), (.int (95 : Int32)), (.int (97 : Int32)), (.int (192 : Int32)), (.int (216 : Int32)), (.int (248 : Int32)), (.int (880 : Int32)), (.int (895 : Int32)), (.int (8204 : Int32)), (.int (8304 : Int32)), (.int (11264 : Int32)), (.int (12289 : Int32)), (.int (63744 : Int32)), (.int (65008 : Int32)), (.int (65536 : Int32))] := A_102.ext E_105
  have sz_108 : n0 ≤ h_104.size := Nat.le_trans sz_101 E_105.1
  have A_109 : Ary Z h_104 a_103 .int [(.int (0 : Int32)), (.int (0 : Int32)), (.int (0 : Int32)), (.int (0 : Int32)), (.int (0 : Int32)), (.int (0 : Int32)), (.int (0 : Int32)), (.int (0 : Int32)), (.int (0 : Int32)), (.int (0 : Int32)), (.int (0 : Int32)), (.int (0 : Int32)), (.int (0 : Int32)), (.int (0 : Int32)), (.int (0 : Int32)), (.int (0 : Int32))] := A_106
  refine K.dup at_108 (pc' := 109) rfl rfl ?_
  refine K.iconst at_109 (pc' := 110) rfl (z := 0) rfl ?_
  refine K.bipush at_110 (pc' := 112) rfl (z := 58) rfl ?_
  refine K.iast at_112 (pc' := 113) rfl A_109 (i := 0) rfl (show 0 < 16 by decide) ge_a_103 (fun h_110 W_111 A_112 => ?_)
  have f_113 : Ary Z h_110 a_1 .int [(.int (58 : Int32)), (.int (65 : Int32)), (.int (95 : Int32)), (.int (97 : Int32)), (.int (192 : Int32)), (.int (216 : Int32)), (.int (248 : Int32)), (.int (880 : Int32)), (.int (895 : Int32)), (.int (8204 : Int32)), (.int (8304 : Int32)), (.int (11264 : Int32)), (.int (12289 : Int32)), (.int (63744 : Int32)), (.int (65008 : Int32)), (.int (65536 : Int32))] := f_107.other W_111 ne_a_1_a_103
  have sz_115 : n0 ≤ h_110.size := Nat.le_trans sz_108 (Keep.of_wr W_111).1
  have A_116 : Ary Z h_110 a_103 .int [(.int (58 : Int32)), (.int (0 : Int32)), (.int (0 : Int32)), (.int (0 : Int32)), (.int (0 : Int32)), (.int (0 : Int32)), (.int (0 : Int32)), (.int (0 : Int32)), (.int (0 : Int32)), (.int (0 : Int32)), (.int (0 : Int32)), (.int (0 : Int32)), (.int (0 : Int32)), (.int (0 : Int32)), (.int (0 : Int32)), (.int (0 : Int32))] := A_112
  refine K.dup at_113 (pc' := 114) rfl rfl ?_
  refine K.iconst at_114 (pc' := 115) rfl (z := 1) rfl ?_
  refine K.bipush at_115 (pc' := 117) rfl (z := 90) rfl ?_
  refine K.iast at_117 (pc' := 118) rfl A_116 (i := 1) rfl (show 1 < 16 by decide) ge_a_103 (fun h_117 W_118 A_119 => ?_)
  have f_120 : Ary Z h_117 a_1 .int [(.int (58 : Int32)), (.int (65 : Int32)), (.int (95 : Int32)), (.int (97 : Int32)), (.int (192 : Int32)), (.int (216 : Int32)), (.int (248 : Int32)), (.int (880 : Int32)), (.int (895 : Int32)), (.int (8204 : Int32)), (.int (8304 : Int32)), (.int (11264 : Int32)), (.int (12289 : Int32)), (.int (63744 : Int32)), (.int (65008 : Int32)), (.int (65536 : Int32))] := f_113.other W_118 ne_a_1_a_103
  have sz_122 : n0 ≤ h_117.size := Nat.le_trans sz_115 (Keep.of_wr W_118).1
  have A_123 : Ary Z h_117 a_103 .int [(.int (58 : Int32)), (.int (90 : Int32)), (.int (0 : Int32)), (.int (0 : Int32)), (.int (0 : Int32)), (.int (0 : Int32)), (.int (0 : Int32)), (.int (0 : Int32)), (.int (0 : Int32)), (.int (0 : Int32)), (.int (0 : Int32)), (.int (0 : Int32)), (.int (0 : Int32)), (.int (0 : Int32)), (.int (0 : Int32)), (.int (0 : Int32))] := A_119
  refine K.dup at_118 (pc' := 119) rfl rfl ?_
  refine K.iconst at_119 (pc' := 120) rfl (z := 2) rfl ?_
  refine K.bipush at_120 (pc' := 122) rfl (z := 95) rfl ?_
  refine K.iast at_122 (pc' := 123) rfl A_123 (i := 2) rfl (show 2 < 16 by decide) ge_a_103 (fun h_124 W_125 A_126 => ?_)
  have f_127 : Ary Z h_124 a_1 .int [(.int (58 : Int32)), (.int (65 : Int32)), (.int (95 : Int32)), (.int (97 : Int32)), (.int (192 : Int32)), (.int (216 : Int32)), (.int (248 : Int32)), (.int (880 : Int32)), (.int (895 : Int32)), (.int (8204 : Int32)), (.int (8304 : Int32)), (.int (11264 : Int32)), (.int (12289 : Int32)), (.int (63744 : Int32)), (.int (65008 : Int32)), (.int (65536 : Int32))] := f_120.other W_125 ne_a_1_a_103
  have sz_129 : n0 ≤ h_124.size := Nat.le_trans sz_122 (Keep.of_wr W_125).1
  have A_130 : Ary Z h_124 a_103 .int [(.int (58 : Int32)), (.int (90 : Int32)), (.int (95 : Int32)), (.int (0 : Int32)), (.int (0 : Int32)), (.int (0 : Int32)), (.int (0 : Int32)), (.int (0 : Int32)), (.int (0 : Int32)), (.int (0 : Int32)), (.int (0 : Int32)), (.int (0 : Int32)), (.int (0 : Int32)), (.int (0 : Int32)), (.int (0 : Int32)), (.int (0 : Int32))] := A_126
  refine K.dup at_123 (pc' := 124) rfl rfl ?_
  refine K.iconst at_124 (pc' := 125) rfl (z := 3) rfl ?_
  refine K.bipush at_125 (pc' := 127) rfl (z := 122) rfl ?_
  refine K.iast at_127 (pc' := 128) rfl A_130 (i := 3) rfl (show 3 < 16 by decide) ge_a_103 (fun h_131 W_132 A_133 => ?_)
  have f_134 : Ary Z h_131 a_1 .int [(.int (58 : Int32)), (.int (65 : Int32)), (.int (95 : Int32)), (.int (97 : Int32)), (.int (192 : Int32)), (.int (216 : Int32)), (.int (248 : Int32)), (.int (880 : Int32)), (.int (895 : Int32)), (.int (8204 : Int32)), (.int (8304 : Int32)), (.int (11264 : Int32)), (.int (12289 : Int32)), (.int (63744 : Int32)), (.int (65008 : Int32)), (.int (65536 : Int32))] := f_127.other W_132 ne_a_1_a_103
  have sz_136 : n0 ≤ h_131.size := Nat.le_trans sz_129 (Keep.of_wr W_132).1
  have A_137 : Ary Z h_131 a_103 .int [(.int (58 : Int32)), (.int (90 : Int32)), (.int (95 : Int32)), (.int (122 : Int32)), (.int (0 : Int32)), (.int (0 : Int32)), (.int (0 : Int32)), (.int (0 : Int32)), (.int (0 : Int32)), (.int (0 : Int32)), (.int (0 : Int32)), (.int (0 : Int32)), (.int (0 : Int32)), (.int (0 : Int32)), (.int (0 : Int32)), (.int (0 : Int32))] := A_133
  refine K.dup at_128 (pc' := 129) rfl rfl ?_
  refine K.iconst at_129 (pc' := 130) rfl (z := 4) rfl ?_
  refine K.sipush at_130 (pc' := 133) rfl (z := 214) rfl ?_
  refine K.iast at_133 (pc' := 134) rfl A_137 (i := 4) rfl (show 4 < 16 by decide) ge_a_103 (fun h_138 W_139 A_140 => ?_)
  have f_141 : Ary Z h_138 a_1 .int [(.int (58 : Int32)), (.int (65 : Int32)), (.int (95 : Int32)), (.int (97 : Int32)), (.int (192 : Int32)), (.int (216 : Int32)), (.int (248 : Int32)), (.int (880 : Int32)), (.int (895 : Int32)), (.int (8204 : Int32)), (.int (8304 : Int32)), (.int (11264 : Int32)), (.int (12289 : Int32)), (.int (63744 : Int32)), (.int (65008 : Int32)), (.int (65536 : Int32))] := f_134.other W_139 ne_a_1_a_103
  have sz_143 : n0 ≤ h_138.size := Nat.le_trans sz_136 (Keep.of_wr W_139).1
  have A_144 : Ary Z h_138 a_103 .int [(.int (58 : Int32)), (.int (90 : Int32)), (.int (95 : Int32)), (.int (122 : Int32)), (.int (214 : Int32)), (.int (0 : Int32)), (.int (0 : Int32)), (.int (0 : Int32)), (.int (0 : Int32)), (.int (0 : Int32)), (.int (0 : Int32)), (.int (0 : Int32)), (.int (0 : Int32)), (.int (0 : Int32)), (.int (0 : Int32)), (.int (0 : Int32))] := A_140
  refine K.dup at_134 (pc' := 135) rfl rfl ?_
  refine K.iconst at_135 (pc' := 136) rfl (z := 5) rfl ?_
  refine K.sipush at_136 (pc' := 139) rfl (z := 246) rfl ?_
  refine K.iast at_139 (pc' := 140) rfl A_144 (i := 5) rfl (show 5 < 16 by decide) ge_a_103 (fun h_145 W_146 A_147 => ?_)
  have f_148 : Ary Z h_145 a_1 .int [(.int (58 : Int32)), (.int (65 : Int32)), (.int (95 : Int32)), (.int (97 : Int32)), (.int (192 : Int32)), (.int (216 : Int32)), (.int (248 : Int32)), (.int (880 : Int32)), (.int (895 : Int32)), (.int (8204 : Int32)), (.int (8304 : Int32)), (.int (11264 : Int32)), (.int (12289 : Int32)), (.int (63744 : Int32)), (.int (65008 : Int32)), (.int (65536 : Int32))] := f_141.other W_146 ne_a_1_a_103
  have sz_150 : n0 ≤ h_145.size := Nat.le_trans sz_143 (Keep.of_wr W_146).1
  have A_151 : Ary Z h_145 a_103 .int [(.int (58 : Int32)), (.int (90 : Int32)), (.int (95 : Int32)), (.int (122 : Int32)), (.int (214 : Int32)), (.int (246 : Int32)), (.int (0 : Int32)), (.int (0 : Int32)), (.int (0 : Int32)), (.int (0 : Int32)), (.int (0 : Int32)), (.int (0 : Int32)), (.int (0 : Int32)), (.int (0 : Int32)), (.int (0 : Int32)), (.int (0 : Int32))] := A_147
  refine K.dup at_140 (pc' := 141) rfl rfl ?_
  refine K.bipush at_141 (pc' := 143) rfl (z := 6) rfl ?_
  refine K.sipush at_143 (pc' := 146) rfl (z := 767) rfl ?_
  refine K.iast at_146 (pc' := 147) rfl A_151 (i := 6) rfl (show 6 < 16 by decide) ge_a_103 (fun h_152 W_153 A_154 => ?_)
  have f_155 : Ary Z h_152 a_1 .int [(.int (58 : Int32)), (.int (65 : Int32)), (.int (95 : Int32)), (.int (97 : Int32)), (.int (192 : Int32)), (.int (216 : Int32)), (.int (248 : Int32)), (.int (880 : Int32)), (.int (895 : Int32)), (.int (8204 : Int32)), (.int (8304 : Int32)), (.int (11264 : Int32)), (.int (12289 : Int32)), (.int (63744 : Int32)), (.int (65008 : Int32)), (.int (65536 : Int32))] := f_148.other W_153 ne_a_1_a_103
  have sz_157 : n0 ≤ h_152.size := Nat.le_trans sz_150 (Keep.of_wr W_153).1
  have A_158 : Ary Z h_152 a_103 .int [(.int (58 : Int32)), (.int (90 : Int32)), (.int (95 : Int32)), (.int (122 : Int32)), (.int (214 : Int32)), (.int (246 : Int32)), (.int (767 : Int32)), (.int (0 : Int32)), (.int (0 : Int32)), (.int (0 : Int32)), (.int (0 : Int32)), (.int (0 : Int32)), (.int (0 : Int32)), (.int (0 : Int32)), (.int (0 : Int32)), (.int (0 : Int32))] := A_154
  refine K.dup at_147 (pc' := 148) rfl rfl ?_
  refine K.bipush at_148 (pc' := 150) rfl (z := 7) rfl ?_
  refine K.sipush at_150 (pc' := 153) rfl (z := 893) rfl ?_
  refine K.iast at_153 (pc' := 154) rfl A_158 (i := 7) rfl (show 7 < 16 by decide) ge_a_103 (fun h_159 W_160 A_161 => ?_)
  have f_162 : Ary Z h_159 a_1 .int [(.int (58 : Int32)), (.int (65 : Int32)), (.int (95 : Int32)), (.int (97 : Int32)), (.int (192 : Int32)), (.int (216 : Int32)), (.int (248 : Int32)), (.int (880 : Int32)), (.int (895 : Int32)), (.int (8204 : Int32)), (.int (8304 : Int32)), (.int (11264 : Int32)), (.int (12289 : Int32)), (.int (63744 : Int32)), (.int (65008 : Int32)), (.int (65536 : Int32))] := f_155.other W_160 ne_a_1_a_103
  have sz_164 : n0 ≤ h_159.size := Nat.le_trans sz_157 (Keep.of_wr W_160).1
  have A_165 : Ary Z h_159 a_103 .int [(.int (58 : Int32)), (.int (90 : Int32)), (.int (95 : Int32)), (.int (122 : Int32)), (.int (214 : Int32)), (.int (246 : Int32)), (.int (767 : Int32)), (.int (893 : Int32)), (.int (0 : Int32)), (.int (0 : Int32)), (.int (0 : Int32)), (.int (0 : Int32)), (.int (0 : Int32)), (.int (0 : Int32)), (.int (0 : Int32)), (.int (0 : Int32))] := A_161
  refine K.dup at_154 (pc' := 155) rfl rfl ?_
  refine K.bipush at_155 (pc' := 157) rfl (z := 8) rfl ?_
  refine K.sipush at_157 (pc' := 160) rfl (z := 8191) rfl ?_
  refine K.iast at_160 (pc' := 161) rfl A_165 (i := 8) rfl (show 8 < 16 by decide) ge_a_103 (fun h_166 W_167 A_168 => ?_)
  have f_169 : Ary Z h_166 a_1 .int [(.int (58 : Int32)), (.int (65 : Int32)), (.int (95 : Int32)), (.int (97 : Int32)), (.int (192 : Int32)), (.int (216 : Int32)), (.int (248 : Int32)), (.int (880 : Int32)), (.int (895 : Int32)), (.int (8204 : Int32)), (.int (8304 : Int32)), (.int (11264 : Int32)), (.int (12289 : Int32)), (.int (63744 : Int32)), (.int (65008 : Int32)), (.int (65536 : Int32))] := f_162.other W_167 ne_a_1_a_103
  have sz_171 : n0 ≤ h_166.size := Nat.le_trans sz_164 (Keep.of_wr W_167).1
  have A_172 : Ary Z h_166 a_103 .int [(.int (58 : Int32)), (.int (90 : Int32)), (.int (95 : Int32)), (.int (122 : Int32)), (.int (214 : Int32)), (.int (246 : Int32)), (.int (767 : Int32)), (.int (893 : Int32)), (.int (8191 : Int32)), (.int (0 : Int32)), (.int (0 : Int32)), (.int (0 : Int32)), (.int (0 : Int32)), (.int (0 : Int32)), (.int (0 : Int32)), (.int (0 : Int32))] := A_168
  refine K.dup at_161 (pc' := 162) rfl rfl ?_
  refine K.bipush at_162 (pc' := 164) rfl (z := 9) rfl ?_
  refine K.sipush at_164 (pc' := 167) rfl (z := 8205) rfl ?_
  refine K.iast at_167 (pc' := 168) rfl A_172 (i := 9) rfl (show 9 < 16 by decide) ge_a_103 (fun h_173 W_174 A_175 => ?_)
  have f_176 : Ary Z h_173 a_1 .int [(.int (58 : Int32)), (.int (65 : Int32)), (.int (95 : Int32)), (.int (97 : Int32)), (.int (192 : Int32)), (.int (216 : Int32)), (.int (248 : Int32)), (.int (880 : Int32)), (.int (895 : Int32)), (.int (8204 : Int32)), (.int (8304 : Int32)), (.int (11264 : Int32)), (.int (12289 : Int32)), (.int (63744 : Int32)), (.int (65008 : Int32)), (.int (65536 : Int32))] := f_169.other W_174 ne_a_1_a_103
  have sz_178 : n0 ≤ h_173.size := Nat.le_trans sz_171 (Keep.of_wr W_174).1
  have A_179 : Ary Z h_173 a_103 .int [(.int (58 : Int32)), (.int (90 : Int32)), (.int (95 : Int32)), (.int (122 : Int32)), (.int (214 : Int32)), (.int (246 : Int32)), (.int (767 : Int32)), (.int (893 : Int32)), (.int (8191 : Int32)), (.int (8205 : Int32)), (.int (0 : Int32)), (.int (0 : Int32)), (.int (0 : Int32)), (.int (0 : Int32)), (.int (0 : Int32)), (.int (0 : Int32))] := A_175
  refine K.dup at_168 (pc' := 169) rfl rfl ?_
  refine K.bipush at_169 (pc' := 171) rfl (z := 10) rfl ?_
  refine K.sipush at_171 (pc' := 174) rfl (z := 8591) rfl ?_
  refine K.iast at_174 (pc' := 175) rfl A_179 (i := 10) rfl (show 10 < 16 by decide) ge_a_103 (fun h_180 W_181 A_182 => ?_)
  have f_183 : Ary Z h_180 a_1 .int [(.int (58 : Int32)), (.int (65 : Int32)), (.int (95 : Int32)), (.int (97 : Int32)), (.int (192 : Int32)), (.int (216 : Int32)), (.int (248 : Int32)), (.int (880 : Int32)), (.int (895 : Int32)), (.int (8204 : Int32)), (.int (8304 : Int32)), (.int (11264 : Int32)), (.int (12289 : Int32)), (.int (63744 : Int32)), (.int (65008 : Int32)), (.int (65536 : Int32))] := f_176.other W_181 ne_a_1_a_103
  have sz_185 : n0 ≤ h_180.size := Nat.le_trans sz_178 (Keep.of_wr W_181).1
  have A_186 : Ary Z h_180 a_103 .int [(.int (58 : Int32)), (.int (90 : Int32)), (.int (95 : Int32)), (.int (122 : Int32)), (.int (214 : Int32)), (.int (246 : Int32)), (.int (767 : Int32)), (.int (893 : Int32)), (.int (8191 : Int32)), (.int (8205 : Int32)), (.int (8591 : Int32)), (.int (0 : Int32)), (.int (0 : Int32)), (.int (0 : Int32)), (.int (0 : Int32)), (.int (0 : Int32))] := A_182
  refine K.dup at_175 (pc' := 176) rfl rfl ?_
  refine K.bipush at_176 (pc' := 178) rfl (z := 11) rfl ?_
  refine K.sipush at_178 (pc' := 181) rfl (z := 12271) rfl ?_
  refine K.iast at_181 (pc' := 182) rfl A_186 (i := 11) rfl (show 11 < 16 by decide) ge_a_103 (fun h_187 W_188 A_189 => ?_)
  have f_190 : Ary Z h_187 a_1 .int [(.int (58 : Int32)), (.int (65 : Int32)), (.int (95 : Int32)), (.int (97 : Int32)), (.int (192 : Int32)), (.int (216 : Int32)), (.int (248 : Int32)), (.int (880 : Int32)), (.int (895 : Int32)), (.int (8204 : Int32)), (.int (8304 : Int32)), (.int (11264 : Int32)), (.int (12289 : Int32)), (.int (63744 : Int32)), (.int (65008 : Int32)), (.int (65536 : Int32))] := f_183.other W_188 ne_a_1_a_103
  have sz_192 : n0 ≤ h_187.size := Nat.le_trans sz_185 (Keep.of_wr W_188).1
  have A_193 : Ary Z h_187 a_103 .int [(.int (58 : Int32)), (.int (90 : Int32)), (.int (95 : Int32)), (.int (122 : Int32)), (.int (214 : Int32)), (.int (246 : Int32)), (.int (767 : Int32)), (.int (893 : Int32)), (.int (8191 : Int32)), (.int (8205 : Int32)), (.int (8591 : Int32)), (.int (12271 : Int32)), (.int (0 : Int32)), (.int (0 : Int32)), (.int (0 : Int32)), (.int (0 : Int32))] := A_189
  refine K.dup at_182 (pc' := 183) rfl rfl ?_
  refine K.bipush at_183 (pc' := 185) rfl (z := 12) rfl ?_
  refine K.ldcI at_185 (pc' := 187) rfl (hw _ (List.mem_of_getElem? (i := 4) rfl)) ?_
  refine K.iast at_187 (pc' := 188) rfl A_193 (i := 12) rfl (show 12 < 16 by decide) ge_a_103 (fun h_194 W_195 A_196 => ?_)
  have f_197 : Ary Z h_194 a_1 .int [(.int (58 : Int32)), (.int (65 : Int32)), (.int (95 : Int32)), (.int (97 : Int32)), (.int (192 : Int32)), (.int (216 : Int32)), (.int (248 : Int32)), (.int (880 : Int32)), (.int (895 : Int32)), (.int (8204 : Int32)), (.int (8304 : Int32)), (.int (11264 : Int32)), (.int (12289 : Int32)), (.int (63744 : Int32)), (.int (65008 : Int32)), (.int (65536 : Int32))] := f_190.other W_195 ne_a_1_a_103
  have sz_199 : n0 ≤ h_194.size := Nat.le_trans sz_192 (Keep.of_wr W_195).1
  have A_200 : Ary Z h_194 a_103 .int [(.int (58 : Int32)), (.int (90 : Int32)), (.int (95 : Int32)), (.int (122 : Int32)), (.int (214 : Int32)), (.int (246 : Int32)), (.int (767 : Int32)), (.int (893 : Int32)), (.int (8191 : Int32)), (.int (8205 : Int32)), (.int (8591 : Int32)), (.int (12271 : Int32)), (.int (55295 : Int32)), (.int (0 : Int32)), (.int (0 : Int32)), (.int (0 : Int32))] := A_196
  refine K.dup at_188 (pc' := 189) rfl rfl ?_
  refine K.bipush at_189 (pc' := 191) rfl (z := 13) rfl ?_
  refine K.ldcI at_191 (pc' := 193) rfl (hw _ (List.mem_of_getElem? (i := 5) rfl)) ?_
  refine K.iast at_193 (pc' := 194) rfl A_200 (i := 13) rfl (show 13 < 16 by decide) ge_a_103 (fun h_201 W_202 A_203 => ?_)
  have f_204 : Ary Z h_201 a_1 .int [(.int (58 : Int32)), (.int (65 : Int32)), (.int (95 : Int32)), (.int (97 : Int32)), (.int (192 : Int32)), (.int (216 : Int32)), (.int (248 : Int32)), (.int (880 : Int32)), (.int (895 : Int32)), (.int (8204 : Int32)), (.int (8304 : Int32)), (.int (11264 : Int32)), (.int (12289 : Int32)), (.int (63744 : Int32)), (.int (65008 : Int32)), (.int (65536 : Int32))] := f_197.other W_202 ne_a_1_a_103
  have sz_206 : n0 ≤ h_201.size := Nat.le_trans sz_199 (Keep.of_wr W_202).1
  have A_207 : Ary Z h_201 a_103 .int [(.int (58 : Int32)), (.int (90 : Int32)), (.int (95 : Int32)), (.int (122 : Int32)), (.int (214 : Int32)), (.int (246 : Int32)), (.int (767 : Int32)), (.int (893 : Int32)), (.int (8191 : Int32)), (.int (8205 : Int32)), (.int (8591 : Int32)), (.int (12271 : Int32)), (.int (55295 : Int32)), (.int (64975 : Int32)), (.int (0 : Int32)), (.int (0 : Int32))] := A_203
  refine K.dup at_194 (pc' := 195) rfl rfl ?_
  refine K.bipush at_195 (pc' := 197) rfl (z := 14) rfl ?_
  refine K.ldcI at_197 (pc' := 199) rfl (hw _ (List.mem_of_getElem? (i := 6) rfl)) ?_
  refine K.iast at_199 (pc' := 200) rfl A_207 (i := 14) rfl (show 14 < 16 by decide) ge_a_103 (fun h_208 W_209 A_210 => ?_)
  have f_211 : Ary Z h_208 a_1 .int [(.int (58 : Int32)), (.int (65 : Int32)), (.int (95 : Int32)), (.int (97 : Int32)), (.int (192 : Int32)), (.int (216 : Int32)), (.int (248 : Int32)), (.int (880 : Int32)), (.int (895 : Int32)), (.int (8204 : Int32)), (.int (8304 : Int32)), (.int (11264 : Int32)), (.int (12289 : Int32)), (.int (63744 : Int32)), (.int (65008 : Int32)), (.int (65536 : Int32))] := f_204.other W_209 ne_a_1_a_103
  have sz_213 : n0 ≤ h_208.size := Nat.le_trans sz_206 (Keep.of_wr W_209).1
  have A_214 : Ary Z h_208 a_103 .int [(.int (58 : Int32)), (.int (90 : Int32)), (.int (95 : Int32)), (.int (122 : Int32)), (.int (214 : Int32)), (.int (246 : Int32)), (.int (767 : Int32)), (.int (893 : Int32)), (.int (8191 : Int32)), (.int (8205 : Int32)), (.int (8591 : Int32)), (.int (12271 : Int32)), (.int (55295 : Int32)), (.int (64975 : Int32)), (.int (65533 : Int32)), (.int (0 : Int32))] := A_210
  refine K.dup at_200 (pc' := 201) rfl rfl ?_
  refine K.bipush at_201 (pc' := 203) rfl (z := 15) rfl ?_
  refine K.ldcI at_203 (pc' := 205) rfl (hw _ (List.mem_of_getElem? (i := 7) rfl)) ?_
  refine K.iast at_205 (pc' := 206) rfl A_214 (i := 15) rfl (show 15 < 16 by decide) ge_a_103 (fun h_215 W_216 A_217 => ?_)
  have f_218 : Ary Z h_215 a_1 .int [(.int (58 : Int32)), (.int (65 : Int32)), (.int (95 : Int32)), (.int (97 : Int32)), (.int (192 : Int32)), (.int (216 : Int32)), (.int (248 : Int32)), (.int (880 : Int32)), (.int (895 : Int32)), (.int (8204 : Int32)), (.int (8304 : Int32)), (.int (11264 : Int32)), (.int (12289 : Int32)), (.int (63744 : Int32)), (.int (65008 : Int32)), (.int (65536 : Int32))] := f_211.other W_216 ne_a_1_a_103
  have sz_220 : n0 ≤ h_215.size := Nat.le_trans sz_213 (Keep.of_wr W_216).1
  have A_221 : Ary Z h_215 a_103 .int [(.int (58 : Int32)), (.int (90 : Int32)), (.int (95 : Int32)), (.int (122 : Int32)), (.int (214 : Int32)), (.int (246 : Int32)), (.int (767 : Int32)), (.int (893 : Int32)), (.int (8191 : Int32)), (.int (8205 : Int32)), (.int (8591 : Int32)), (.int (12271 : Int32)), (.int (55295 : Int32)), (.int (64975 : Int32)), (.int (65533 : Int32)), (.int (983039 : Int32))] := A_217
  refine K.astore at_206 (pc' := 208) rfl rfl (L' := #[.val (.int c), .val (.int k), .val (.int d), .val (.ref a_1), .val (.ref a_103), .unset, .unset, .unset, .unset, .unset, .unset]) rfl ?_
  refine K.iloadN at_208 (pc' := 209) rfl rfl ?_
  refine K.calls (argsL := [(.int c)]) (rest := []) at_209 (pc' := 212) rfl (c_ns l Z a0 hw n0 h_215 (p := c) ) (hw _ (List.mem_of_getElem? (i := 8) rfl)) (hw _ (List.mem_of_getElem? (i := 9) rfl)) (hw _ (List.mem_of_getElem? (i := 10) rfl)) (hw _ (List.mem_of_getElem? (i := 11) rfl)) (by decide) pd_1 rfl rfl (W := 0) (by simp [Value.category]) (by decide) (by decide) (by decide) (by decide) (fun v_224 h_222 q_223 => ?_)
  obtain ⟨rfl, rfl⟩ := q_223
  show G h_215 2 32 (mkF m 212 #[.val (.int c), .val (.int k), .val (.int d), .val (.ref a_1), .val (.ref a_103), .unset, .unset, .unset, .unset, .unset, .unset] [(.int (b2 (c.toInt = 58 ∨ (65 ≤ c.toInt ∧ c.toInt ≤ 90) ∨ c.toInt = 95 ∨ (97 ≤ c.toInt ∧ c.toInt ≤ 122) ∨ (192 ≤ c.toInt ∧ c.toInt ≤ 214) ∨ (216 ≤ c.toInt ∧ c.toInt ≤ 246) ∨ (248 ≤ c.toInt ∧ c.toInt ≤ 767) ∨ (880 ≤ c.toInt ∧ c.toInt ≤ 893) ∨ (895 ≤ c.toInt ∧ c.toInt ≤ 8191) ∨ (8204 ≤ c.toInt ∧ c.toInt ≤ 8205) ∨ (8304 ≤ c.toInt ∧ c.toInt ≤ 8591) ∨ (11264 ≤ c.toInt ∧ c.toInt ≤ 12271) ∨ (12289 ≤ c.toInt ∧ c.toInt ≤ 55295) ∨ (63744 ≤ c.toInt ∧ c.toInt ≤ 64975) ∨ (65008 ≤ c.toInt ∧ c.toInt ≤ 65533) ∨ (65536 ≤ c.toInt ∧ c.toInt ≤ 983039))))])
  refine K.iloadN at_212 (pc' := 213) rfl rfl ?_
  refine K.calls (argsL := [(.int c)]) (rest := [(.int (b2 (c.toInt = 58 ∨ (65 ≤ c.toInt ∧ c.toInt ≤ 90) ∨ c.toInt = 95 ∨ (97 ≤ c.toInt ∧ c.toInt ≤ 122) ∨ (192 ≤ c.toInt ∧ c.toInt ≤ 214) ∨ (216 ≤ c.toInt ∧ c.toInt ≤ 246) ∨ (248 ≤ c.toInt ∧ c.toInt ≤ 767) ∨ (880 ≤ c.toInt ∧ c.toInt ≤ 893) ∨ (895 ≤ c.toInt ∧ c.toInt ≤ 8191) ∨ (8204 ≤ c.toInt ∧ c.toInt ≤ 8205) ∨ (8304 ≤ c.toInt ∧ c.toInt ≤ 8591) ∨ (11264 ≤ c.toInt ∧ c.toInt ≤ 12271) ∨ (12289 ≤ c.toInt ∧ c.toInt ≤ 55295) ∨ (63744 ≤ c.toInt ∧ c.toInt ≤ 64975) ∨ (65008 ≤ c.toInt ∧ c.toInt ≤ 65533) ∨ (65536 ≤ c.toInt ∧ c.toInt ≤ 983039))))]) at_213 (pc' := 216) rfl (c_gap l Z a0 hw n0 h_215 (p := c) ) (hw _ (List.mem_of_getElem? (i := 15) rfl)) (hw _ (List.mem_of_getElem? (i := 16) rfl)) (hw _ (List.mem_of_getElem? (i := 17) rfl)) (hw _ (List.mem_of_getElem? (i := 18) rfl)) (by decide) pd_1 rfl rfl (W := 1) (by simp [Value.category]) (by decide) (by decide) (by decide) (by decide) (fun v_228 h_226 q_227 => ?_)
  obtain ⟨rfl, rfl⟩ := q_227
  show G h_215 2 32 (mkF m 216 #[.val (.int c), .val (.int k), .val (.int d), .val (.ref a_1), .val (.ref a_103), .unset, .unset, .unset, .unset, .unset, .unset] [(.int (b2 (¬ (c.toInt = 58 ∨ (65 ≤ c.toInt ∧ c.toInt ≤ 90) ∨ c.toInt = 95 ∨ (97 ≤ c.toInt ∧ c.toInt ≤ 122) ∨ (192 ≤ c.toInt ∧ c.toInt ≤ 214) ∨ (216 ≤ c.toInt ∧ c.toInt ≤ 246) ∨ (248 ≤ c.toInt ∧ c.toInt ≤ 767) ∨ (880 ≤ c.toInt ∧ c.toInt ≤ 893) ∨ (895 ≤ c.toInt ∧ c.toInt ≤ 8191) ∨ (8204 ≤ c.toInt ∧ c.toInt ≤ 8205) ∨ (8304 ≤ c.toInt ∧ c.toInt ≤ 8591) ∨ (11264 ≤ c.toInt ∧ c.toInt ≤ 12271) ∨ (12289 ≤ c.toInt ∧ c.toInt ≤ 55295) ∨ (63744 ≤ c.toInt ∧ c.toInt ≤ 64975) ∨ (65008 ≤ c.toInt ∧ c.toInt ≤ 65533) ∨ (65536 ≤ c.toInt ∧ c.toInt ≤ 983039))))), (.int (b2 (c.toInt = 58 ∨ (65 ≤ c.toInt ∧ c.toInt ≤ 90) ∨ c.toInt = 95 ∨ (97 ≤ c.toInt ∧ c.toInt ≤ 122) ∨ (192 ≤ c.toInt ∧ c.toInt ≤ 214) ∨ (216 ≤ c.toInt ∧ c.toInt ≤ 246) ∨ (248 ≤ c.toInt ∧ c.toInt ≤ 767) ∨ (880 ≤ c.toInt ∧ c.toInt ≤ 893) ∨ (895 ≤ c.toInt ∧ c.toInt ≤ 8191) ∨ (8204 ≤ c.toInt ∧ c.toInt ≤ 8205) ∨ (8304 ≤ c.toInt ∧ c.toInt ≤ 8591) ∨ (11264 ≤ c.toInt ∧ c.toInt ≤ 12271) ∨ (12289 ≤ c.toInt ∧ c.toInt ≤ 55295) ∨ (63744 ≤ c.toInt ∧ c.toInt ≤ 64975) ∨ (65008 ≤ c.toInt ∧ c.toInt ≤ 65533) ∨ (65536 ≤ c.toInt ∧ c.toInt ≤ 983039))))])
  have J224 : ∀ jb : Int32, jb = b2 (c.toInt = 58 ∨ (65 ≤ c.toInt ∧ c.toInt ≤ 90) ∨ c.toInt = 95 ∨ (97 ≤ c.toInt ∧ c.toInt ≤ 122) ∨ (192 ≤ c.toInt ∧ c.toInt ≤ 214) ∨ (216 ≤ c.toInt ∧ c.toInt ≤ 246) ∨ (248 ≤ c.toInt ∧ c.toInt ≤ 767) ∨ (880 ≤ c.toInt ∧ c.toInt ≤ 893) ∨ (895 ≤ c.toInt ∧ c.toInt ≤ 8191) ∨ (8204 ≤ c.toInt ∧ c.toInt ≤ 8205) ∨ (8304 ≤ c.toInt ∧ c.toInt ≤ 8591) ∨ (11264 ≤ c.toInt ∧ c.toInt ≤ 12271) ∨ (12289 ≤ c.toInt ∧ c.toInt ≤ 55295) ∨ (63744 ≤ c.toInt ∧ c.toInt ≤ 64975) ∨ (65008 ≤ c.toInt ∧ c.toInt ≤ 65533) ∨ (65536 ≤ c.toInt ∧ c.toInt ≤ 983039)) → G h_215 2 32 (mkF m 224 #[.val (.int c), .val (.int k), .val (.int d), .val (.ref a_1), .val (.ref a_103), .unset, .unset, .unset, .unset, .unset, .unset] [(.int jb), (.int (b2 (c.toInt = 58 ∨ (65 ≤ c.toInt ∧ c.toInt ≤ 90) ∨ c.toInt = 95 ∨ (97 ≤ c.toInt ∧ c.toInt ≤ 122) ∨ (192 ≤ c.toInt ∧ c.toInt ≤ 214) ∨ (216 ≤ c.toInt ∧ c.toInt ≤ 246) ∨ (248 ≤ c.toInt ∧ c.toInt ≤ 767) ∨ (880 ≤ c.toInt ∧ c.toInt ≤ 893) ∨ (895 ≤ c.toInt ∧ c.toInt ≤ 8191) ∨ (8204 ≤ c.toInt ∧ c.toInt ≤ 8205) ∨ (8304 ≤ c.toInt ∧ c.toInt ≤ 8591) ∨ (11264 ≤ c.toInt ∧ c.toInt ≤ 12271) ∨ (12289 ≤ c.toInt ∧ c.toInt ≤ 55295) ∨ (63744 ≤ c.toInt ∧ c.toInt ≤ 64975) ∨ (65008 ≤ c.toInt ∧ c.toInt ≤ 65533) ∨ (65536 ≤ c.toInt ∧ c.toInt ≤ 983039))))]) := by
    intro jb hjb; subst hjb
    refine K.icmpneB at_224 (pc1 := 227) rfl (by decide) (pc2 := 231) (by decide) (fun c224 => ?_) (fun c224 => ?_)
    · exfalso; exact c224 Iff.rfl
    · refine K.iconst at_227 (pc' := 228) rfl (z := 1) rfl ?_
      refine K.goto at_228 (by decide) (pc' := 232) (by decide) ?_
      refine K.istore at_232 (pc' := 234) rfl (L' := #[.val (.int c), .val (.int k), .val (.int d), .val (.ref a_1), .val (.ref a_103), .val (.int (1 : Int32)), .unset, .unset, .unset, .unset, .unset]) rfl ?_
      refine K.iloadN at_234 (pc' := 235) rfl rfl ?_
      refine K.ldcI at_235 (pc' := 237) rfl (hw _ (List.mem_of_getElem? (i := 19) rfl)) ?_
      obtain ⟨z237, e_z237⟩ : ∃ z, k &&& (2147483647 : Int32) = z := ⟨_, rfl⟩
      have r_z237 : z237.toInt = k.toInt % 2147483648 := by have q := c_mask k (2147483647 : Int32) 31 (by decide) (by decide); rw [e_z237] at q; exact q
      refine K.iand at_237 (pc' := 238) rfl e_z237 ?_
      refine K.bipush at_238 (pc' := 240) rfl (z := 16) rfl ?_
      obtain ⟨i, e_i⟩ : ∃ z, z237 % (16 : Int32) = z := ⟨_, rfl⟩
      have r_i : (0 ≤ z237.toInt → i.toInt = z237.toInt % 16) ∧ (z237.toInt < 0 → i.toInt = -((-z237.toInt) % 16)) := by have q := c_irem z237 (16 : Int32) 16 rfl; rw [e_i] at q; exact q
      have t_i : 0 ≤ i.toInt ∧ i.toInt ≤ 15 := by omega
      clear r_i
      refine K.irem at_240 (pc' := 241) rfl (by decide) e_i ?_
      refine K.istore at_241 (pc' := 243) rfl (L' := #[.val (.int c), .val (.int k), .val (.int d), .val (.ref a_1), .val (.ref a_103), .val (.int (1 : Int32)), .val (.int i), .unset, .unset, .unset, .unset]) rfl ?_
      have cs_i : i = 0 ∨ i = 1 ∨ i = 2 ∨ i = 3 ∨ i = 4 ∨ i = 5 ∨ i = 6 ∨ i = 7 ∨ i = 8 ∨ i = 9 ∨ i = 10 ∨ i = 11 ∨ i = 12 ∨ i = 13 ∨ i = 14 ∨ i = 15 := by
        have q : i.toInt = 0 ∨ i.toInt = 1 ∨ i.toInt = 2 ∨ i.toInt = 3 ∨ i.toInt = 4 ∨ i.toInt = 5 ∨ i.toInt = 6 ∨ i.toInt = 7 ∨ i.toInt = 8 ∨ i.toInt = 9 ∨ i.toInt = 10 ∨ i.toInt = 11 ∨ i.toInt = 12 ∨ i.toInt = 13 ∨ i.toInt = 14 ∨ i.toInt = 15 := by omega
        rcases q with q | q | q | q | q | q | q | q | q | q | q | q | q | q | q | q
        · exact Or.inl (eqI q)
        · exact Or.inr (Or.inl (eqI q))
        · exact Or.inr (Or.inr (Or.inl (eqI q)))
        · exact Or.inr (Or.inr (Or.inr (Or.inl (eqI q))))
        · exact Or.inr (Or.inr (Or.inr (Or.inr (Or.inl (eqI q)))))
        · exact Or.inr (Or.inr (Or.inr (Or.inr (Or.inr (Or.inl (eqI q))))))
        · exact Or.inr (Or.inr (Or.inr (Or.inr (Or.inr (Or.inr (Or.inl (eqI q)))))))
        · exact Or.inr (Or.inr (Or.inr (Or.inr (Or.inr (Or.inr (Or.inr (Or.inl (eqI q))))))))
        · exact Or.inr (Or.inr (Or.inr (Or.inr (Or.inr (Or.inr (Or.inr (Or.inr (Or.inl (eqI q)))))))))
        · exact Or.inr (Or.inr (Or.inr (Or.inr (Or.inr (Or.inr (Or.inr (Or.inr (Or.inr (Or.inl (eqI q))))))))))
        · exact Or.inr (Or.inr (Or.inr (Or.inr (Or.inr (Or.inr (Or.inr (Or.inr (Or.inr (Or.inr (Or.inl (eqI q)))))))))))
        · exact Or.inr (Or.inr (Or.inr (Or.inr (Or.inr (Or.inr (Or.inr (Or.inr (Or.inr (Or.inr (Or.inr (Or.inl (eqI q))))))))))))
        · exact Or.inr (Or.inr (Or.inr (Or.inr (Or.inr (Or.inr (Or.inr (Or.inr (Or.inr (Or.inr (Or.inr (Or.inr (Or.inl (eqI q)))))))))))))
        · exact Or.inr (Or.inr (Or.inr (Or.inr (Or.inr (Or.inr (Or.inr (Or.inr (Or.inr (Or.inr (Or.inr (Or.inr (Or.inr (Or.inl (eqI q))))))))))))))
        · exact Or.inr (Or.inr (Or.inr (Or.inr (Or.inr (Or.inr (Or.inr (Or.inr (Or.inr (Or.inr (Or.inr (Or.inr (Or.inr (Or.inr (Or.inl (eqI q)))))))))))))))
        · exact Or.inr (Or.inr (Or.inr (Or.inr (Or.inr (Or.inr (Or.inr (Or.inr (Or.inr (Or.inr (Or.inr (Or.inr (Or.inr (Or.inr (Or.inr (eqI q)))))))))))))))
      rcases cs_i with rfl | rfl | rfl | rfl | rfl | rfl | rfl | rfl | rfl | rfl | rfl | rfl | rfl | rfl | rfl | rfl
      · refine K.aloadN at_243 (pc' := 244) rfl rfl rfl ?_
        refine K.iload at_244 (pc' := 246) rfl rfl ?_
        refine K.iald at_246 (pc' := 247) rfl f_218 (i := 0) rfl rfl ?_
        refine K.istore at_247 (pc' := 249) rfl (L' := #[.val (.int c), .val (.int k), .val (.int d), .val (.ref a_1), .val (.ref a_103), .val (.int (1 : Int32)), .val (.int (0 : Int32)), .val (.int (58 : Int32)), .unset, .unset, .unset]) rfl ?_
        refine K.aload at_249 (pc' := 251) rfl rfl rfl ?_
        refine K.iload at_251 (pc' := 253) rfl rfl ?_
        refine K.iald at_253 (pc' := 254) rfl A_221 (i := 0) rfl rfl ?_
        refine K.istore at_254 (pc' := 256) rfl (L' := #[.val (.int c), .val (.int k), .val (.int d), .val (.ref a_1), .val (.ref a_103), .val (.int (1 : Int32)), .val (.int (0 : Int32)), .val (.int (58 : Int32)), .val (.int (58 : Int32)), .unset, .unset]) rfl ?_
        refine K.iload at_256 (pc' := 258) rfl rfl ?_
        refine K.iloadN at_258 (pc' := 259) rfl rfl ?_
        refine K.ldcI at_259 (pc' := 261) rfl (hw _ (List.mem_of_getElem? (i := 19) rfl)) ?_
        obtain ⟨z261, e_z261⟩ : ∃ z, d &&& (2147483647 : Int32) = z := ⟨_, rfl⟩
        have r_z261 : z261.toInt = d.toInt % 2147483648 := by have q := c_mask d (2147483647 : Int32) 31 (by decide) (by decide); rw [e_z261] at q; exact q
        refine K.iand at_261 (pc' := 262) rfl e_z261 ?_
        refine K.iload at_262 (pc' := 264) rfl rfl ?_
        refine K.iload at_264 (pc' := 266) rfl rfl ?_
        refine K.isub at_266 (pc' := 267) rfl (z := (0 : Int32)) (by decide) ?_
        refine K.iconst at_267 (pc' := 268) rfl (z := 1) rfl ?_
        refine K.iadd at_268 (pc' := 269) rfl (z := (1 : Int32)) (by decide) ?_
        obtain ⟨z269, e_z269⟩ : ∃ z, z261 % (1 : Int32) = z := ⟨_, rfl⟩
        have r_z269 : (0 ≤ z261.toInt → z269.toInt = z261.toInt % 1) ∧ (z261.toInt < 0 → z269.toInt = -((-z261.toInt) % 1)) := by have q := c_irem z261 (1 : Int32) 1 rfl; rw [e_z269] at q; exact q
        refine K.irem at_269 (pc' := 270) rfl (by decide) e_z269 ?_
        obtain ⟨ins, e_ins⟩ : ∃ z, (58 : Int32) + z269 = z := ⟨_, rfl⟩
        have r_ins : (ins.toInt - (58 + z269.toInt)) % 4294967296 = 0 := by have q := c_iadd (58 : Int32) z269; rw [e_ins] at q; exact q
        have g_ins := rng32 ins
        have t_ins : ins.toInt = 58 + z269.toInt := by omega
        clear r_ins
        clear g_ins
        refine K.iadd at_270 (pc' := 271) rfl e_ins ?_
        refine K.istore at_271 (pc' := 273) rfl (L' := #[.val (.int c), .val (.int k), .val (.int d), .val (.ref a_1), .val (.ref a_103), .val (.int (1 : Int32)), .val (.int (0 : Int32)), .val (.int (58 : Int32)), .val (.int (58 : Int32)), .val (.int ins), .unset]) rfl ?_
        refine K.iload at_273 (pc' := 275) rfl rfl ?_
        refine K.calls (argsL := [(.int (58 : Int32))]) (rest := []) at_275 (pc' := 278) rfl (c_ns l Z a0 hw n0 h_215 (p := (58 : Int32)) ) (hw _ (List.mem_of_getElem? (i := 8) rfl)) (hw _ (List.mem_of_getElem? (i := 9) rfl)) (hw _ (List.mem_of_getElem? (i := 10) rfl)) (hw _ (List.mem_of_getElem? (i := 11) rfl)) (by decide) pd_1 rfl rfl (W := 0) (by simp [Value.category]) (by decide) (by decide) (by decide) (by decide) (fun v_232 h_230 q_231 => ?_)
        obtain ⟨rfl, rfl⟩ := q_231
        show G h_215 2 32 (mkF m 278 #[.val (.int c), .val (.int k), .val (.int d), .val (.ref a_1), .val (.ref a_103), .val (.int (1 : Int32)), .val (.int (0 : Int32)), .val (.int (58 : Int32)), .val (.int (58 : Int32)), .val (.int ins), .unset] [(.int (b2 (58 = 58 ∨ (65 ≤ 58 ∧ 58 ≤ 90) ∨ 58 = 95 ∨ (97 ≤ 58 ∧ 58 ≤ 122) ∨ (192 ≤ 58 ∧ 58 ≤ 214) ∨ (216 ≤ 58 ∧ 58 ≤ 246) ∨ (248 ≤ 58 ∧ 58 ≤ 767) ∨ (880 ≤ 58 ∧ 58 ≤ 893) ∨ (895 ≤ 58 ∧ 58 ≤ 8191) ∨ (8204 ≤ 58 ∧ 58 ≤ 8205) ∨ (8304 ≤ 58 ∧ 58 ≤ 8591) ∨ (11264 ≤ 58 ∧ 58 ≤ 12271) ∨ (12289 ≤ 58 ∧ 58 ≤ 55295) ∨ (63744 ≤ 58 ∧ 58 ≤ 64975) ∨ (65008 ≤ 58 ∧ 58 ≤ 65533) ∨ (65536 ≤ 58 ∧ 58 ≤ 983039))))])
        refine K.ifeqB at_278 (pc1 := 281) rfl (by decide) (pc2 := 321) (by decide) (fun c278 => ?_) (fun c278 => ?_)
        · exfalso; omega
        · refine K.iload at_281 (pc' := 283) rfl rfl ?_
          refine K.calls (argsL := [(.int (58 : Int32))]) (rest := []) at_283 (pc' := 286) rfl (c_ns l Z a0 hw n0 h_215 (p := (58 : Int32)) ) (hw _ (List.mem_of_getElem? (i := 8) rfl)) (hw _ (List.mem_of_getElem? (i := 9) rfl)) (hw _ (List.mem_of_getElem? (i := 10) rfl)) (hw _ (List.mem_of_getElem? (i := 11) rfl)) (by decide) pd_1 rfl rfl (W := 0) (by simp [Value.category]) (by decide) (by decide) (by decide) (by decide) (fun v_236 h_234 q_235 => ?_)
          obtain ⟨rfl, rfl⟩ := q_235
          show G h_215 2 32 (mkF m 286 #[.val (.int c), .val (.int k), .val (.int d), .val (.ref a_1), .val (.ref a_103), .val (.int (1 : Int32)), .val (.int (0 : Int32)), .val (.int (58 : Int32)), .val (.int (58 : Int32)), .val (.int ins), .unset] [(.int (b2 (58 = 58 ∨ (65 ≤ 58 ∧ 58 ≤ 90) ∨ 58 = 95 ∨ (97 ≤ 58 ∧ 58 ≤ 122) ∨ (192 ≤ 58 ∧ 58 ≤ 214) ∨ (216 ≤ 58 ∧ 58 ≤ 246) ∨ (248 ≤ 58 ∧ 58 ≤ 767) ∨ (880 ≤ 58 ∧ 58 ≤ 893) ∨ (895 ≤ 58 ∧ 58 ≤ 8191) ∨ (8204 ≤ 58 ∧ 58 ≤ 8205) ∨ (8304 ≤ 58 ∧ 58 ≤ 8591) ∨ (11264 ≤ 58 ∧ 58 ≤ 12271) ∨ (12289 ≤ 58 ∧ 58 ≤ 55295) ∨ (63744 ≤ 58 ∧ 58 ≤ 64975) ∨ (65008 ≤ 58 ∧ 58 ≤ 65533) ∨ (65536 ≤ 58 ∧ 58 ≤ 983039))))])
          refine K.ifeqB at_286 (pc1 := 289) rfl (by decide) (pc2 := 321) (by decide) (fun c286 => ?_) (fun c286 => ?_)
          · exfalso; omega
          · refine K.iload at_289 (pc' := 291) rfl rfl ?_
            refine K.calls (argsL := [(.int ins)]) (rest := []) at_291 (pc' := 294) rfl (c_ns l Z a0 hw n0 h_215 (p := ins) ) (hw _ (List.mem_of_getElem? (i := 8) rfl)) (hw _ (List.mem_of_getElem? (i := 9) rfl)) (hw _ (List.mem_of_getElem? (i := 10) rfl)) (hw _ (List.mem_of_getElem? (i := 11) rfl)) (by decide) pd_1 rfl rfl (W := 0) (by simp [Value.category]) (by decide) (by decide) (by decide) (by decide) (fun v_240 h_238 q_239 => ?_)
            obtain ⟨rfl, rfl⟩ := q_239
            show G h_215 2 32 (mkF m 294 #[.val (.int c), .val (.int k), .val (.int d), .val (.ref a_1), .val (.ref a_103), .val (.int (1 : Int32)), .val (.int (0 : Int32)), .val (.int (58 : Int32)), .val (.int (58 : Int32)), .val (.int ins), .unset] [(.int (b2 (ins.toInt = 58 ∨ (65 ≤ ins.toInt ∧ ins.toInt ≤ 90) ∨ ins.toInt = 95 ∨ (97 ≤ ins.toInt ∧ ins.toInt ≤ 122) ∨ (192 ≤ ins.toInt ∧ ins.toInt ≤ 214) ∨ (216 ≤ ins.toInt ∧ ins.toInt ≤ 246) ∨ (248 ≤ ins.toInt ∧ ins.toInt ≤ 767) ∨ (880 ≤ ins.toInt ∧ ins.toInt ≤ 893) ∨ (895 ≤ ins.toInt ∧ ins.toInt ≤ 8191) ∨ (8204 ≤ ins.toInt ∧ ins.toInt ≤ 8205) ∨ (8304 ≤ ins.toInt ∧ ins.toInt ≤ 8591) ∨ (11264 ≤ ins.toInt ∧ ins.toInt ≤ 12271) ∨ (12289 ≤ ins.toInt ∧ ins.toInt ≤ 55295) ∨ (63744 ≤ ins.toInt ∧ ins.toInt ≤ 64975) ∨ (65008 ≤ ins.toInt ∧ ins.toInt ≤ 65533) ∨ (65536 ≤ ins.toInt ∧ ins.toInt ≤ 983039))))])
            refine K.ifeqB at_294 (pc1 := 297) rfl (by decide) (pc2 := 321) (by decide) (fun c294 => ?_) (fun c294 => ?_)
            · exfalso; omega
            · refine K.iload at_297 (pc' := 299) rfl rfl ?_
              refine K.iconst at_299 (pc' := 300) rfl (z := 1) rfl ?_
              refine K.isub at_300 (pc' := 301) rfl (z := (57 : Int32)) (by decide) ?_
              refine K.calls (argsL := [(.int (57 : Int32))]) (rest := []) at_301 (pc' := 304) rfl (c_ns l Z a0 hw n0 h_215 (p := (57 : Int32)) ) (hw _ (List.mem_of_getElem? (i := 8) rfl)) (hw _ (List.mem_of_getElem? (i := 9) rfl)) (hw _ (List.mem_of_getElem? (i := 10) rfl)) (hw _ (List.mem_of_getElem? (i := 11) rfl)) (by decide) pd_1 rfl rfl (W := 0) (by simp [Value.category]) (by decide) (by decide) (by decide) (by decide) (fun v_244 h_242 q_243 => ?_)
              obtain ⟨rfl, rfl⟩ := q_243
              show G h_215 2 32 (mkF m 304 #[.val (.int c), .val (.int k), .val (.int d), .val (.ref a_1), .val (.ref a_103), .val (.int (1 : Int32)), .val (.int (0 : Int32)), .val (.int (58 : Int32)), .val (.int (58 : Int32)), .val (.int ins), .unset] [(.int (b2 (57 = 58 ∨ (65 ≤ 57 ∧ 57 ≤ 90) ∨ 57 = 95 ∨ (97 ≤ 57 ∧ 57 ≤ 122) ∨ (192 ≤ 57 ∧ 57 ≤ 214) ∨ (216 ≤ 57 ∧ 57 ≤ 246) ∨ (248 ≤ 57 ∧ 57 ≤ 767) ∨ (880 ≤ 57 ∧ 57 ≤ 893) ∨ (895 ≤ 57 ∧ 57 ≤ 8191) ∨ (8204 ≤ 57 ∧ 57 ≤ 8205) ∨ (8304 ≤ 57 ∧ 57 ≤ 8591) ∨ (11264 ≤ 57 ∧ 57 ≤ 12271) ∨ (12289 ≤ 57 ∧ 57 ≤ 55295) ∨ (63744 ≤ 57 ∧ 57 ≤ 64975) ∨ (65008 ≤ 57 ∧ 57 ≤ 65533) ∨ (65536 ≤ 57 ∧ 57 ≤ 983039))))])
              refine K.ifneB at_304 (pc1 := 307) rfl (by decide) (pc2 := 321) (by decide) (fun c304 => ?_) (fun c304 => ?_)
              · exfalso; omega
              · refine K.iload at_307 (pc' := 309) rfl rfl ?_
                refine K.iconst at_309 (pc' := 310) rfl (z := 1) rfl ?_
                refine K.iadd at_310 (pc' := 311) rfl (z := (59 : Int32)) (by decide) ?_
                refine K.calls (argsL := [(.int (59 : Int32))]) (rest := []) at_311 (pc' := 314) rfl (c_ns l Z a0 hw n0 h_215 (p := (59 : Int32)) ) (hw _ (List.mem_of_getElem? (i := 8) rfl)) (hw _ (List.mem_of_getElem? (i := 9) rfl)) (hw _ (List.mem_of_getElem? (i := 10) rfl)) (hw _ (List.mem_of_getElem? (i := 11) rfl)) (by decide) pd_1 rfl rfl (W := 0) (by simp [Value.category]) (by decide) (by decide) (by decide) (by decide) (fun v_248 h_246 q_247 => ?_)
                obtain ⟨rfl, rfl⟩ := q_247
                show G h_215 2 32 (mkF m 314 #[.val (.int c), .val (.int k), .val (.int d), .val (.ref a_1), .val (.ref a_103), .val (.int (1 : Int32)), .val (.int (0 : Int32)), .val (.int (58 : Int32)), .val (.int (58 : Int32)), .val (.int ins), .unset] [(.int (b2 (59 = 58 ∨ (65 ≤ 59 ∧ 59 ≤ 90) ∨ 59 = 95 ∨ (97 ≤ 59 ∧ 59 ≤ 122) ∨ (192 ≤ 59 ∧ 59 ≤ 214) ∨ (216 ≤ 59 ∧ 59 ≤ 246) ∨ (248 ≤ 59 ∧ 59 ≤ 767) ∨ (880 ≤ 59 ∧ 59 ≤ 893) ∨ (895 ≤ 59 ∧ 59 ≤ 8191) ∨ (8204 ≤ 59 ∧ 59 ≤ 8205) ∨ (8304 ≤ 59 ∧ 59 ≤ 8591) ∨ (11264 ≤ 59 ∧ 59 ≤ 12271) ∨ (12289 ≤ 59 ∧ 59 ≤ 55295) ∨ (63744 ≤ 59 ∧ 59 ≤ 64975) ∨ (65008 ≤ 59 ∧ 59 ≤ 65533) ∨ (65536 ≤ 59 ∧ 59 ≤ 983039))))])
                refine K.ifneB at_314 (pc1 := 317) rfl (by decide) (pc2 := 321) (by decide) (fun c314 => ?_) (fun c314 => ?_)
                · exfalso; omega
                · refine K.iconst at_317 (pc' := 318) rfl (z := 1) rfl ?_
                  refine K.goto at_318 (by decide) (pc' := 322) (by decide) ?_
                  refine K.istore at_322 (pc' := 324) rfl (L' := #[.val (.int c), .val (.int k), .val (.int d), .val (.ref a_1), .val (.ref a_103), .val (.int (1 : Int32)), .val (.int (0 : Int32)), .val (.int (58 : Int32)), .val (.int (58 : Int32)), .val (.int ins), .val (.int (1 : Int32))]) rfl ?_
                  refine K.iload at_324 (pc' := 326) rfl rfl ?_
                  refine K.if_eq at_326 (pc1 := 329) rfl (by decide) (pc2 := 338) (by decide) (a := 1) rfl (fun c326 => ?_) (fun c326 => ?_)
                  · exfalso; omega
                  · refine K.iload at_329 (pc' := 331) rfl rfl ?_
                    refine K.if_eq at_331 (pc1 := 334) rfl (by decide) (pc2 := 338) (by decide) (a := 1) rfl (fun c331 => ?_) (fun c331 => ?_)
                    · exfalso; omega
                    · refine K.iconst at_334 (pc' := 335) rfl (z := 1) rfl ?_
                      refine K.goto at_335 (by decide) (pc' := 339) (by decide) ?_
                      exact K.retz at_339 (Or.inr rfl) (by decide) (by decide) rfl
      · refine K.aloadN at_243 (pc' := 244) rfl rfl rfl ?_
        refine K.iload at_244 (pc' := 246) rfl rfl ?_
        refine K.iald at_246 (pc' := 247) rfl f_218 (i := 1) rfl rfl ?_
        refine K.istore at_247 (pc' := 249) rfl (L' := #[.val (.int c), .val (.int k), .val (.int d), .val (.ref a_1), .val (.ref a_103), .val (.int (1 : Int32)), .val (.int (1 : Int32)), .val (.int (65 : Int32)), .unset, .unset, .unset]) rfl ?_
        refine K.aload at_249 (pc' := 251) rfl rfl rfl ?_
        refine K.iload at_251 (pc' := 253) rfl rfl ?_
        refine K.iald at_253 (pc' := 254) rfl A_221 (i := 1) rfl rfl ?_
        refine K.istore at_254 (pc' := 256) rfl (L' := #[.val (.int c), .val (.int k), .val (.int d), .val (.ref a_1), .val (.ref a_103), .val (.int (1 : Int32)), .val (.int (1 : Int32)), .val (.int (65 : Int32)), .val (.int (90 : Int32)), .unset, .unset]) rfl ?_
        refine K.iload at_256 (pc' := 258) rfl rfl ?_
        refine K.iloadN at_258 (pc' := 259) rfl rfl ?_
        refine K.ldcI at_259 (pc' := 261) rfl (hw _ (List.mem_of_getElem? (i := 19) rfl)) ?_
        obtain ⟨z261, e_z261⟩ : ∃ z, d &&& (2147483647 : Int32) = z := ⟨_, rfl⟩
        have r_z261 : z261.toInt = d.toInt % 2147483648 := by have q := c_mask d (2147483647 : Int32) 31 (by decide) (by decide); rw [e_z261] at q; exact q
        refine K.iand at_261 (pc' := 262) rfl e_z261 ?_
        refine K.iload at_262 (pc' := 264) rfl rfl ?_
        refine K.iload at_264 (pc' := 266) rfl rfl ?_
        refine K.isub at_266 (pc' := 267) rfl (z := (25 : Int32)) (by decide) ?_
        refine K.iconst at_267 (pc' := 268) rfl (z := 1) rfl ?_
        refine K.iadd at_268 (pc' := 269) rfl (z := (26 : Int32)) (by decide) ?_
        obtain ⟨z269, e_z269⟩ : ∃ z, z261 % (26 : Int32) = z := ⟨_, rfl⟩
        have r_z269 : (0 ≤ z261.toInt → z269.toInt = z261.toInt % 26) ∧ (z261.toInt < 0 → z269.toInt = -((-z261.toInt) % 26)) := by have q := c_irem z261 (26 : Int32) 26 rfl; rw [e_z269] at q; exact q
        refine K.irem at_269 (pc' := 270) rfl (by decide) e_z269 ?_
        obtain ⟨ins, e_ins⟩ : ∃ z, (65 : Int32) + z269 = z := ⟨_, rfl⟩
        have r_ins : (ins.toInt - (65 + z269.toInt)) % 4294967296 = 0 := by have q := c_iadd (65 : Int32) z269; rw [e_ins] at q; exact q
        have g_ins := rng32 ins
        have t_ins : ins.toInt = 65 + z269.toInt := by omega
        clear r_ins
        clear g_ins
        refine K.iadd at_270 (pc' := 271) rfl e_ins ?_
        refine K.istore at_271 (pc' := 273) rfl (L' := #[.val (.int c), .val (.int k), .val (.int d), .val (.ref a_1), .val (.ref a_103), .val (.int (1 : Int32)), .val (.int (1 : Int32)), .val (.int (65 : Int32)), .val (.int (90 : Int32)), .val (.int ins), .unset]) rfl ?_
        refine K.iload at_273 (pc' := 275) rfl rfl ?_
        refine K.calls (argsL := [(.int (65 : Int32))]) (rest := []) at_275 (pc' := 278) rfl (c_ns l Z a0 hw n0 h_215 (p := (65 : Int32)) ) (hw _ (List.mem_of_getElem? (i := 8) rfl)) (hw _ (List.mem_of_getElem? (i := 9) rfl)) (hw _ (List.mem_of_getElem? (i := 10) rfl)) (hw _ (List.mem_of_getElem? (i := 11) rfl)) (by decide) pd_1 rfl rfl (W := 0) (by simp [Value.category]) (by decide) (by decide) (by decide) (by decide) (fun v_252 h_250 q_251 => ?_)
        obtain ⟨rfl, rfl⟩ := q_251
        show G h_215 2 32 (mkF m 278 #[.val (.int c), .val (.int k), .val (.int d), .val (.ref a_1), .val (.ref a_103), .val (.int (1 : Int32)), .val (.int (1 : Int32)), .val (.int (65 : Int32)), .val (.int (90 : Int32)), .val (.int ins), .unset] [(.int (b2 (65 = 58 ∨ (65 ≤ 65 ∧ 65 ≤ 90) ∨ 65 = 95 ∨ (97 ≤ 65 ∧ 65 ≤ 122) ∨ (192 ≤ 65 ∧ 65 ≤ 214) ∨ (216 ≤ 65 ∧ 65 ≤ 246) ∨ (248 ≤ 65 ∧ 65 ≤ 767) ∨ (880 ≤ 65 ∧ 65 ≤ 893) ∨ (895 ≤ 65 ∧ 65 ≤ 8191) ∨ (8204 ≤ 65 ∧ 65 ≤ 8205) ∨ (8304 ≤ 65 ∧ 65 ≤ 8591) ∨ (11264 ≤ 65 ∧ 65 ≤ 12271) ∨ (12289 ≤ 65 ∧ 65 ≤ 55295) ∨ (63744 ≤ 65 ∧ 65 ≤ 64975) ∨ (65008 ≤ 65 ∧ 65 ≤ 65533) ∨ (65536 ≤ 65 ∧ 65 ≤ 983039))))])
        refine K.ifeqB at_278 (pc1 := 281) rfl (by decide) (pc2 := 321) (by decide) (fun c278 => ?_) (fun c278 => ?_)
        · exfalso; omega
        · refine K.iload at_281 (pc' := 283) rfl rfl ?_
          refine K.calls (argsL := [(.int (90 : Int32))]) (rest := []) at_283 (pc' := 286) rfl (c_ns l Z a0 hw n0 h_215 (p := (90 : Int32)) ) (hw _ (List.mem_of_getElem? (i := 8) rfl)) (hw _ (List.mem_of_getElem? (i := 9) rfl)) (hw _ (List.mem_of_getElem? (i := 10) rfl)) (hw _ (List.mem_of_getElem? (i := 11) rfl)) (by decide) pd_1 rfl rfl (W := 0) (by simp [Value.category]) (by decide) (by decide) (by decide) (by decide) (fun v_256 h_254 q_255 => ?_)
          obtain ⟨rfl, rfl⟩ := q_255
          show G h_215 2 32 (mkF m 286 #[.val (.int c), .val (.int k), .val (.int d), .val (.ref a_1), .val (.ref a_103), .val (.int (1 : Int32)), .val (.int (1 : Int32)), .val (.int (65 : Int32)), .val (.int (90 : Int32)), .val (.int ins), .unset] [(.int (b2 (90 = 58 ∨ (65 ≤ 90 ∧ 90 ≤ 90) ∨ 90 = 95 ∨ (97 ≤ 90 ∧ 90 ≤ 122) ∨ (192 ≤ 90 ∧ 90 ≤ 214) ∨ (216 ≤ 90 ∧ 90 ≤ 246) ∨ (248 ≤ 90 ∧ 90 ≤ 767) ∨ (880 ≤ 90 ∧ 90 ≤ 893) ∨ (895 ≤ 90 ∧ 90 ≤ 8191) ∨ (8204 ≤ 90 ∧ 90 ≤ 8205) ∨ (8304 ≤ 90 ∧ 90 ≤ 8591) ∨ (11264 ≤ 90 ∧ 90 ≤ 12271) ∨ (12289 ≤ 90 ∧ 90 ≤ 55295) ∨ (63744 ≤ 90 ∧ 90 ≤ 64975) ∨ (65008 ≤ 90 ∧ 90 ≤ 65533) ∨ (65536 ≤ 90 ∧ 90 ≤ 983039))))])
          refine K.ifeqB at_286 (pc1 := 289) rfl (by decide) (pc2 := 321) (by decide) (fun c286 => ?_) (fun c286 => ?_)
          · exfalso; omega
          · refine K.iload at_289 (pc' := 291) rfl rfl ?_
            refine K.calls (argsL := [(.int ins)]) (rest := []) at_291 (pc' := 294) rfl (c_ns l Z a0 hw n0 h_215 (p := ins) ) (hw _ (List.mem_of_getElem? (i := 8) rfl)) (hw _ (List.mem_of_getElem? (i := 9) rfl)) (hw _ (List.mem_of_getElem? (i := 10) rfl)) (hw _ (List.mem_of_getElem? (i := 11) rfl)) (by decide) pd_1 rfl rfl (W := 0) (by simp [Value.category]) (by decide) (by decide) (by decide) (by decide) (fun v_260 h_258 q_259 => ?_)
            obtain ⟨rfl, rfl⟩ := q_259
            show G h_215 2 32 (mkF m 294 #[.val (.int c), .val (.int k), .val (.int d), .val (.ref a_1), .val (.ref a_103), .val (.int (1 : Int32)), .val (.int (1 : Int32)), .val (.int (65 : Int32)), .val (.int (90 : Int32)), .val (.int ins), .unset] [(.int (b2 (ins.toInt = 58 ∨ (65 ≤ ins.toInt ∧ ins.toInt ≤ 90) ∨ ins.toInt = 95 ∨ (97 ≤ ins.toInt ∧ ins.toInt ≤ 122) ∨ (192 ≤ ins.toInt ∧ ins.toInt ≤ 214) ∨ (216 ≤ ins.toInt ∧ ins.toInt ≤ 246) ∨ (248 ≤ ins.toInt ∧ ins.toInt ≤ 767) ∨ (880 ≤ ins.toInt ∧ ins.toInt ≤ 893) ∨ (895 ≤ ins.toInt ∧ ins.toInt ≤ 8191) ∨ (8204 ≤ ins.toInt ∧ ins.toInt ≤ 8205) ∨ (8304 ≤ ins.toInt ∧ ins.toInt ≤ 8591) ∨ (11264 ≤ ins.toInt ∧ ins.toInt ≤ 12271) ∨ (12289 ≤ ins.toInt ∧ ins.toInt ≤ 55295) ∨ (63744 ≤ ins.toInt ∧ ins.toInt ≤ 64975) ∨ (65008 ≤ ins.toInt ∧ ins.toInt ≤ 65533) ∨ (65536 ≤ ins.toInt ∧ ins.toInt ≤ 983039))))])
            refine K.ifeqB at_294 (pc1 := 297) rfl (by decide) (pc2 := 321) (by decide) (fun c294 => ?_) (fun c294 => ?_)
            · exfalso; omega
            · refine K.iload at_297 (pc' := 299) rfl rfl ?_
              refine K.iconst at_299 (pc' := 300) rfl (z := 1) rfl ?_
              refine K.isub at_300 (pc' := 301) rfl (z := (64 : Int32)) (by decide) ?_
              refine K.calls (argsL := [(.int (64 : Int32))]) (rest := []) at_301 (pc' := 304) rfl (c_ns l Z a0 hw n0 h_215 (p := (64 : Int32)) ) (hw _ (List.mem_of_getElem? (i := 8) rfl)) (hw _ (List.mem_of_getElem? (i := 9) rfl)) (hw _ (List.mem_of_getElem? (i := 10) rfl)) (hw _ (List.mem_of_getElem? (i := 11) rfl)) (by decide) pd_1 rfl rfl (W := 0) (by simp [Value.category]) (by decide) (by decide) (by decide) (by decide) (fun v_264 h_262 q_263 => ?_)
              obtain ⟨rfl, rfl⟩ := q_263
              show G h_215 2 32 (mkF m 304 #[.val (.int c), .val (.int k), .val (.int d), .val (.ref a_1), .val (.ref a_103), .val (.int (1 : Int32)), .val (.int (1 : Int32)), .val (.int (65 : Int32)), .val (.int (90 : Int32)), .val (.int ins), .unset] [(.int (b2 (64 = 58 ∨ (65 ≤ 64 ∧ 64 ≤ 90) ∨ 64 = 95 ∨ (97 ≤ 64 ∧ 64 ≤ 122) ∨ (192 ≤ 64 ∧ 64 ≤ 214) ∨ (216 ≤ 64 ∧ 64 ≤ 246) ∨ (248 ≤ 64 ∧ 64 ≤ 767) ∨ (880 ≤ 64 ∧ 64 ≤ 893) ∨ (895 ≤ 64 ∧ 64 ≤ 8191) ∨ (8204 ≤ 64 ∧ 64 ≤ 8205) ∨ (8304 ≤ 64 ∧ 64 ≤ 8591) ∨ (11264 ≤ 64 ∧ 64 ≤ 12271) ∨ (12289 ≤ 64 ∧ 64 ≤ 55295) ∨ (63744 ≤ 64 ∧ 64 ≤ 64975) ∨ (65008 ≤ 64 ∧ 64 ≤ 65533) ∨ (65536 ≤ 64 ∧ 64 ≤ 983039))))])
              refine K.ifneB at_304 (pc1 := 307) rfl (by decide) (pc2 := 321) (by decide) (fun c304 => ?_) (fun c304 => ?_)
              · exfalso; omega
              · refine K.iload at_307 (pc' := 309) rfl rfl ?_
                refine K.iconst at_309 (pc' := 310) rfl (z := 1) rfl ?_
                refine K.iadd at_310 (pc' := 311) rfl (z := (91 : Int32)) (by decide) ?_
                refine K.calls (argsL := [(.int (91 : Int32))]) (rest := []) at_311 (pc' := 314) rfl (c_ns l Z a0 hw n0 h_215 (p := (91 : Int32)) ) (hw _ (List.mem_of_getElem? (i := 8) rfl)) (hw _ (List.mem_of_getElem? (i := 9) rfl)) (hw _ (List.mem_of_getElem? (i := 10) rfl)) (hw _ (List.mem_of_getElem? (i := 11) rfl)) (by decide) pd_1 rfl rfl (W := 0) (by simp [Value.category]) (by decide) (by decide) (by decide) (by decide) (fun v_268 h_266 q_267 => ?_)
                obtain ⟨rfl, rfl⟩ := q_267
                show G h_215 2 32 (mkF m 314 #[.val (.int c), .val (.int k), .val (.int d), .val (.ref a_1), .val (.ref a_103), .val (.int (1 : Int32)), .val (.int (1 : Int32)), .val (.int (65 : Int32)), .val (.int (90 : Int32)), .val (.int ins), .unset] [(.int (b2 (91 = 58 ∨ (65 ≤ 91 ∧ 91 ≤ 90) ∨ 91 = 95 ∨ (97 ≤ 91 ∧ 91 ≤ 122) ∨ (192 ≤ 91 ∧ 91 ≤ 214) ∨ (216 ≤ 91 ∧ 91 ≤ 246) ∨ (248 ≤ 91 ∧ 91 ≤ 767) ∨ (880 ≤ 91 ∧ 91 ≤ 893) ∨ (895 ≤ 91 ∧ 91 ≤ 8191) ∨ (8204 ≤ 91 ∧ 91 ≤ 8205) ∨ (8304 ≤ 91 ∧ 91 ≤ 8591) ∨ (11264 ≤ 91 ∧ 91 ≤ 12271) ∨ (12289 ≤ 91 ∧ 91 ≤ 55295) ∨ (63744 ≤ 91 ∧ 91 ≤ 64975) ∨ (65008 ≤ 91 ∧ 91 ≤ 65533) ∨ (65536 ≤ 91 ∧ 91 ≤ 983039))))])
                refine K.ifneB at_314 (pc1 := 317) rfl (by decide) (pc2 := 321) (by decide) (fun c314 => ?_) (fun c314 => ?_)
                · exfalso; omega
                · refine K.iconst at_317 (pc' := 318) rfl (z := 1) rfl ?_
                  refine K.goto at_318 (by decide) (pc' := 322) (by decide) ?_
                  refine K.istore at_322 (pc' := 324) rfl (L' := #[.val (.int c), .val (.int k), .val (.int d), .val (.ref a_1), .val (.ref a_103), .val (.int (1 : Int32)), .val (.int (1 : Int32)), .val (.int (65 : Int32)), .val (.int (90 : Int32)), .val (.int ins), .val (.int (1 : Int32))]) rfl ?_
                  refine K.iload at_324 (pc' := 326) rfl rfl ?_
                  refine K.if_eq at_326 (pc1 := 329) rfl (by decide) (pc2 := 338) (by decide) (a := 1) rfl (fun c326 => ?_) (fun c326 => ?_)
                  · exfalso; omega
                  · refine K.iload at_329 (pc' := 331) rfl rfl ?_
                    refine K.if_eq at_331 (pc1 := 334) rfl (by decide) (pc2 := 338) (by decide) (a := 1) rfl (fun c331 => ?_) (fun c331 => ?_)
                    · exfalso; omega
                    · refine K.iconst at_334 (pc' := 335) rfl (z := 1) rfl ?_
                      refine K.goto at_335 (by decide) (pc' := 339) (by decide) ?_
                      exact K.retz at_339 (Or.inr rfl) (by decide) (by decide) rfl
      · refine K.aloadN at_243 (pc' := 244) rfl rfl rfl ?_
        refine K.iload at_244 (pc' := 246) rfl rfl ?_
        refine K.iald at_246 (pc' := 247) rfl f_218 (i := 2) rfl rfl ?_
        refine K.istore at_247 (pc' := 249) rfl (L' := #[.val (.int c), .val (.int k), .val (.int d), .val (.ref a_1), .val (.ref a_103), .val (.int (1 : Int32)), .val (.int (2 : Int32)), .val (.int (95 : Int32)), .unset, .unset, .unset]) rfl ?_
        refine K.aload at_249 (pc' := 251) rfl rfl rfl ?_
        refine K.iload at_251 (pc' := 253) rfl rfl ?_
        refine K.iald at_253 (pc' := 254) rfl A_221 (i := 2) rfl rfl ?_
        refine K.istore at_254 (pc' := 256) rfl (L' := #[.val (.int c), .val (.int k), .val (.int d), .val (.ref a_1), .val (.ref a_103), .val (.int (1 : Int32)), .val (.int (2 : Int32)), .val (.int (95 : Int32)), .val (.int (95 : Int32)), .unset, .unset]) rfl ?_
        refine K.iload at_256 (pc' := 258) rfl rfl ?_
        refine K.iloadN at_258 (pc' := 259) rfl rfl ?_
        refine K.ldcI at_259 (pc' := 261) rfl (hw _ (List.mem_of_getElem? (i := 19) rfl)) ?_
        obtain ⟨z261, e_z261⟩ : ∃ z, d &&& (2147483647 : Int32) = z := ⟨_, rfl⟩
        have r_z261 : z261.toInt = d.toInt % 2147483648 := by have q := c_mask d (2147483647 : Int32) 31 (by decide) (by decide); rw [e_z261] at q; exact q
        refine K.iand at_261 (pc' := 262) rfl e_z261 ?_
        refine K.iload at_262 (pc' := 264) rfl rfl ?_
        refine K.iload at_264 (pc' := 266) rfl rfl ?_
        refine K.isub at_266 (pc' := 267) rfl (z := (0 : Int32)) (by decide) ?_
        refine K.iconst at_267 (pc' := 268) rfl (z := 1) rfl ?_
        refine K.iadd at_268 (pc' := 269) rfl (z := (1 : Int32)) (by decide) ?_
        obtain ⟨z269, e_z269⟩ : ∃ z, z261 % (1 : Int32) = z := ⟨_, rfl⟩
        have r_z269 : (0 ≤ z261.toInt → z269.toInt = z261.toInt % 1) ∧ (z261.toInt < 0 → z269.toInt = -((-z261.toInt) % 1)) := by have q := c_irem z261 (1 : Int32) 1 rfl; rw [e_z269] at q; exact q
        refine K.irem at_269 (pc' := 270) rfl (by decide) e_z269 ?_
        obtain ⟨ins, e_ins⟩ : ∃ z, (95 : Int32) + z269 = z := ⟨_, rfl⟩
        have r_ins : (ins.toInt - (95 + z269.toInt)) % 4294967296 = 0 := by have q := c_iadd (95 : Int32) z269; rw [e_ins] at q; exact q
        have g_ins := rng32 ins
        have t_ins : ins.toInt = 95 + z269.toInt := by omega
        clear r_ins
        clear g_ins
        refine K.iadd at_270 (pc' := 271) rfl e_ins ?_
        refine K.istore at_271 (pc' := 273) rfl (L' := #[.val (.int c), .val (.int k), .val (.int d), .val (.ref a_1), .val (.ref a_103), .val (.int (1 : Int32)), .val (.int (2 : Int32)), .val (.int (95 : Int32)), .val (.int (95 : Int32)), .val (.int ins), .unset]) rfl ?_
        refine K.iload at_273 (pc' := 275) rfl rfl ?_
        refine K.calls (argsL := [(.int (95 : Int32))]) (rest := []) at_275 (pc' := 278) rfl (c_ns l Z a0 hw n0 h_215 (p := (95 : Int32)) ) (hw _ (List.mem_of_getElem? (i := 8) rfl)) (hw _ (List.mem_of_getElem? (i := 9) rfl)) (hw _ (List.mem_of_getElem? (i := 10) rfl)) (hw _ (List.mem_of_getElem? (i := 11) rfl)) (by decide) pd_1 rfl rfl (W := 0) (by simp [Value.category]) (by decide) (by decide) (by decide) (by decide) (fun v_272 h_270 q_271 => ?_)
        obtain ⟨rfl, rfl⟩ := q_271
        show G h_215 2 32 (mkF m 278 #[.val (.int c), .val (.int k), .val (.int d), .val (.ref a_1), .val (.ref a_103), .val (.int (1 : Int32)), .val (.int (2 : Int32)), .val (.int (95 : Int32)), .val (.int (95 : Int32)), .val (.int ins), .unset] [(.int (b2 (95 = 58 ∨ (65 ≤ 95 ∧ 95 ≤ 90) ∨ 95 = 95 ∨ (97 ≤ 95 ∧ 95 ≤ 122) ∨ (192 ≤ 95 ∧ 95 ≤ 214) ∨ (216 ≤ 95 ∧ 95 ≤ 246) ∨ (248 ≤ 95 ∧ 95 ≤ 767) ∨ (880 ≤ 95 ∧ 95 ≤ 893) ∨ (895 ≤ 95 ∧ 95 ≤ 8191) ∨ (8204 ≤ 95 ∧ 95 ≤ 8205) ∨ (8304 ≤ 95 ∧ 95 ≤ 8591) ∨ (11264 ≤ 95 ∧ 95 ≤ 12271) ∨ (12289 ≤ 95 ∧ 95 ≤ 55295) ∨ (63744 ≤ 95 ∧ 95 ≤ 64975) ∨ (65008 ≤ 95 ∧ 95 ≤ 65533) ∨ (65536 ≤ 95 ∧ 95 ≤ 983039))))])
        refine K.ifeqB at_278 (pc1 := 281) rfl (by decide) (pc2 := 321) (by decide) (fun c278 => ?_) (fun c278 => ?_)
        · exfalso; omega
        · refine K.iload at_281 (pc' := 283) rfl rfl ?_
          refine K.calls (argsL := [(.int (95 : Int32))]) (rest := []) at_283 (pc' := 286) rfl (c_ns l Z a0 hw n0 h_215 (p := (95 : Int32)) ) (hw _ (List.mem_of_getElem? (i := 8) rfl)) (hw _ (List.mem_of_getElem? (i := 9) rfl)) (hw _ (List.mem_of_getElem? (i := 10) rfl)) (hw _ (List.mem_of_getElem? (i := 11) rfl)) (by decide) pd_1 rfl rfl (W := 0) (by simp [Value.category]) (by decide) (by decide) (by decide) (by decide) (fun v_276 h_274 q_275 => ?_)
          obtain ⟨rfl, rfl⟩ := q_275
          show G h_215 2 32 (mkF m 286 #[.val (.int c), .val (.int k), .val (.int d), .val (.ref a_1), .val (.ref a_103), .val (.int (1 : Int32)), .val (.int (2 : Int32)), .val (.int (95 : Int32)), .val (.int (95 : Int32)), .val (.int ins), .unset] [(.int (b2 (95 = 58 ∨ (65 ≤ 95 ∧ 95 ≤ 90) ∨ 95 = 95 ∨ (97 ≤ 95 ∧ 95 ≤ 122) ∨ (192 ≤ 95 ∧ 95 ≤ 214) ∨ (216 ≤ 95 ∧ 95 ≤ 246) ∨ (248 ≤ 95 ∧ 95 ≤ 767) ∨ (880 ≤ 95 ∧ 95 ≤ 893) ∨ (895 ≤ 95 ∧ 95 ≤ 8191) ∨ (8204 ≤ 95 ∧ 95 ≤ 8205) ∨ (8304 ≤ 95 ∧ 95 ≤ 8591) ∨ (11264 ≤ 95 ∧ 95 ≤ 12271) ∨ (12289 ≤ 95 ∧ 95 ≤ 55295) ∨ (63744 ≤ 95 ∧ 95 ≤ 64975) ∨ (65008 ≤ 95 ∧ 95 ≤ 65533) ∨ (65536 ≤ 95 ∧ 95 ≤ 983039))))])
          refine K.ifeqB at_286 (pc1 := 289) rfl (by decide) (pc2 := 321) (by decide) (fun c286 => ?_) (fun c286 => ?_)
          · exfalso; omega
          · refine K.iload at_289 (pc' := 291) rfl rfl ?_
            refine K.calls (argsL := [(.int ins)]) (rest := []) at_291 (pc' := 294) rfl (c_ns l Z a0 hw n0 h_215 (p := ins) ) (hw _ (List.mem_of_getElem? (i := 8) rfl)) (hw _ (List.mem_of_getElem? (i := 9) rfl)) (hw _ (List.mem_of_getElem? (i := 10) rfl)) (hw _ (List.mem_of_getElem? (i := 11) rfl)) (by decide) pd_1 rfl rfl (W := 0) (by simp [Value.category]) (by decide) (by decide) (by decide) (by decide) (fun v_280 h_278 q_279 => ?_)
            obtain ⟨rfl, rfl⟩ := q_279
            show G h_215 2 32 (mkF m 294 #[.val (.int c), .val (.int k), .val (.int d), .val (.ref a_1), .val (.ref a_103), .val (.int (1 : Int32)), .val (.int (2 : Int32)), .val (.int (95 : Int32)), .val (.int (95 : Int32)), .val (.int ins), .unset] [(.int (b2 (ins.toInt = 58 ∨ (65 ≤ ins.toInt ∧ ins.toInt ≤ 90) ∨ ins.toInt = 95 ∨ (97 ≤ ins.toInt ∧ ins.toInt ≤ 122) ∨ (192 ≤ ins.toInt ∧ ins.toInt ≤ 214) ∨ (216 ≤ ins.toInt ∧ ins.toInt ≤ 246) ∨ (248 ≤ ins.toInt ∧ ins.toInt ≤ 767) ∨ (880 ≤ ins.toInt ∧ ins.toInt ≤ 893) ∨ (895 ≤ ins.toInt ∧ ins.toInt ≤ 8191) ∨ (8204 ≤ ins.toInt ∧ ins.toInt ≤ 8205) ∨ (8304 ≤ ins.toInt ∧ ins.toInt ≤ 8591) ∨ (11264 ≤ ins.toInt ∧ ins.toInt ≤ 12271) ∨ (12289 ≤ ins.toInt ∧ ins.toInt ≤ 55295) ∨ (63744 ≤ ins.toInt ∧ ins.toInt ≤ 64975) ∨ (65008 ≤ ins.toInt ∧ ins.toInt ≤ 65533) ∨ (65536 ≤ ins.toInt ∧ ins.toInt ≤ 983039))))])
            refine K.ifeqB at_294 (pc1 := 297) rfl (by decide) (pc2 := 321) (by decide) (fun c294 => ?_) (fun c294 => ?_)
            · exfalso; omega
            · refine K.iload at_297 (pc' := 299) rfl rfl ?_
              refine K.iconst at_299 (pc' := 300) rfl (z := 1) rfl ?_
              refine K.isub at_300 (pc' := 301) rfl (z := (94 : Int32)) (by decide) ?_
              refine K.calls (argsL := [(.int (94 : Int32))]) (rest := []) at_301 (pc' := 304) rfl (c_ns l Z a0 hw n0 h_215 (p := (94 : Int32)) ) (hw _ (List.mem_of_getElem? (i := 8) rfl)) (hw _ (List.mem_of_getElem? (i := 9) rfl)) (hw _ (List.mem_of_getElem? (i := 10) rfl)) (hw _ (List.mem_of_getElem? (i := 11) rfl)) (by decide) pd_1 rfl rfl (W := 0) (by simp [Value.category]) (by decide) (by decide) (by decide) (by decide) (fun v_284 h_282 q_283 => ?_)
              obtain ⟨rfl, rfl⟩ := q_283
              show G h_215 2 32 (mkF m 304 #[.val (.int c), .val (.int k), .val (.int d), .val (.ref a_1), .val (.ref a_103), .val (.int (1 : Int32)), .val (.int (2 : Int32)), .val (.int (95 : Int32)), .val (.int (95 : Int32)), .val (.int ins), .unset] [(.int (b2 (94 = 58 ∨ (65 ≤ 94 ∧ 94 ≤ 90) ∨ 94 = 95 ∨ (97 ≤ 94 ∧ 94 ≤ 122) ∨ (192 ≤ 94 ∧ 94 ≤ 214) ∨ (216 ≤ 94 ∧ 94 ≤ 246) ∨ (248 ≤ 94 ∧ 94 ≤ 767) ∨ (880 ≤ 94 ∧ 94 ≤ 893) ∨ (895 ≤ 94 ∧ 94 ≤ 8191) ∨ (8204 ≤ 94 ∧ 94 ≤ 8205) ∨ (8304 ≤ 94 ∧ 94 ≤ 8591) ∨ (11264 ≤ 94 ∧ 94 ≤ 12271) ∨ (12289 ≤ 94 ∧ 94 ≤ 55295) ∨ (63744 ≤ 94 ∧ 94 ≤ 64975) ∨ (65008 ≤ 94 ∧ 94 ≤ 65533) ∨ (65536 ≤ 94 ∧ 94 ≤ 983039))))])
              refine K.ifneB at_304 (pc1 := 307) rfl (by decide) (pc2 := 321) (by decide) (fun c304 => ?_) (fun c304 => ?_)
              · exfalso; omega
              · refine K.iload at_307 (pc' := 309) rfl rfl ?_
                refine K.iconst at_309 (pc' := 310) rfl (z := 1) rfl ?_
                refine K.iadd at_310 (pc' := 311) rfl (z := (96 : Int32)) (by decide) ?_
                refine K.calls (argsL := [(.int (96 : Int32))]) (rest := []) at_311 (pc' := 314) rfl (c_ns l Z a0 hw n0 h_215 (p := (96 : Int32)) ) (hw _ (List.mem_of_getElem? (i := 8) rfl)) (hw _ (List.mem_of_getElem? (i := 9) rfl)) (hw _ (List.mem_of_getElem? (i := 10) rfl)) (hw _ (List.mem_of_getElem? (i := 11) rfl)) (by decide) pd_1 rfl rfl (W := 0) (by simp [Value.category]) (by decide) (by decide) (by decide) (by decide) (fun v_288 h_286 q_287 => ?_)
                obtain ⟨rfl, rfl⟩ := q_287
                show G h_215 2 32 (mkF m 314 #[.val (.int c), .val (.int k), .val (.int d), .val (.ref a_1), .val (.ref a_103), .val (.int (1 : Int32)), .val (.int (2 : Int32)), .val (.int (95 : Int32)), .val (.int (95 : Int32)), .val (.int ins), .unset] [(.int (b2 (96 = 58 ∨ (65 ≤ 96 ∧ 96 ≤ 90) ∨ 96 = 95 ∨ (97 ≤ 96 ∧ 96 ≤ 122) ∨ (192 ≤ 96 ∧ 96 ≤ 214) ∨ (216 ≤ 96 ∧ 96 ≤ 246) ∨ (248 ≤ 96 ∧ 96 ≤ 767) ∨ (880 ≤ 96 ∧ 96 ≤ 893) ∨ (895 ≤ 96 ∧ 96 ≤ 8191) ∨ (8204 ≤ 96 ∧ 96 ≤ 8205) ∨ (8304 ≤ 96 ∧ 96 ≤ 8591) ∨ (11264 ≤ 96 ∧ 96 ≤ 12271) ∨ (12289 ≤ 96 ∧ 96 ≤ 55295) ∨ (63744 ≤ 96 ∧ 96 ≤ 64975) ∨ (65008 ≤ 96 ∧ 96 ≤ 65533) ∨ (65536 ≤ 96 ∧ 96 ≤ 983039))))])
                refine K.ifneB at_314 (pc1 := 317) rfl (by decide) (pc2 := 321) (by decide) (fun c314 => ?_) (fun c314 => ?_)
                · exfalso; omega
                · refine K.iconst at_317 (pc' := 318) rfl (z := 1) rfl ?_
                  refine K.goto at_318 (by decide) (pc' := 322) (by decide) ?_
                  refine K.istore at_322 (pc' := 324) rfl (L' := #[.val (.int c), .val (.int k), .val (.int d), .val (.ref a_1), .val (.ref a_103), .val (.int (1 : Int32)), .val (.int (2 : Int32)), .val (.int (95 : Int32)), .val (.int (95 : Int32)), .val (.int ins), .val (.int (1 : Int32))]) rfl ?_
                  refine K.iload at_324 (pc' := 326) rfl rfl ?_
                  refine K.if_eq at_326 (pc1 := 329) rfl (by decide) (pc2 := 338) (by decide) (a := 1) rfl (fun c326 => ?_) (fun c326 => ?_)
                  · exfalso; omega
                  · refine K.iload at_329 (pc' := 331) rfl rfl ?_
                    refine K.if_eq at_331 (pc1 := 334) rfl (by decide) (pc2 := 338) (by decide) (a := 1) rfl (fun c331 => ?_) (fun c331 => ?_)
                    · exfalso; omega
                    · refine K.iconst at_334 (pc' := 335) rfl (z := 1) rfl ?_
                      refine K.goto at_335 (by decide) (pc' := 339) (by decide) ?_
                      exact K.retz at_339 (Or.inr rfl) (by decide) (by decide) rfl
      · refine K.aloadN at_243 (pc' := 244) rfl rfl rfl ?_
        refine K.iload at_244 (pc' := 246) rfl rfl ?_
        refine K.iald at_246 (pc' := 247) rfl f_218 (i := 3) rfl rfl ?_
        refine K.istore at_247 (pc' := 249) rfl (L' := #[.val (.int c), .val (.int k), .val (.int d), .val (.ref a_1), .val (.ref a_103), .val (.int (1 : Int32)), .val (.int (3 : Int32)), .val (.int (97 : Int32)), .unset, .unset, .unset]) rfl ?_
        refine K.aload at_249 (pc' := 251) rfl rfl rfl ?_
        refine K.iload at_251 (pc' := 253) rfl rfl ?_
        refine K.iald at_253 (pc' := 254) rfl A_221 (i := 3) rfl rfl ?_
        refine K.istore at_254 (pc' := 256) rfl (L' := #[.val (.int c), .val (.int k), .val (.int d), .val (.ref a_1), .val (.ref a_103), .val (.int (1 : Int32)), .val (.int (3 : Int32)), .val (.int (97 : Int32)), .val (.int (122 : Int32)), .unset, .unset]) rfl ?_
        refine K.iload at_256 (pc' := 258) rfl rfl ?_
        refine K.iloadN at_258 (pc' := 259) rfl rfl ?_
        refine K.ldcI at_259 (pc' := 261) rfl (hw _ (List.mem_of_getElem? (i := 19) rfl)) ?_
        obtain ⟨z261, e_z261⟩ : ∃ z, d &&& (2147483647 : Int32) = z := ⟨_, rfl⟩
        have r_z261 : z261.toInt = d.toInt % 2147483648 := by have q := c_mask d (2147483647 : Int32) 31 (by decide) (by decide); rw [e_z261] at q; exact q
        refine K.iand at_261 (pc' := 262) rfl e_z261 ?_
        refine K.iload at_262 (pc' := 264) rfl rfl ?_
        refine K.iload at_264 (pc' := 266) rfl rfl ?_
        refine K.isub at_266 (pc' := 267) rfl (z := (25 : Int32)) (by decide) ?_
        refine K.iconst at_267 (pc' := 268) rfl (z := 1) rfl ?_
        refine K.iadd at_268 (pc' := 269) rfl (z := (26 : Int32)) (by decide) ?_
        obtain ⟨z269, e_z269⟩ : ∃ z, z261 % (26 : Int32) = z := ⟨_, rfl⟩
        have r_z269 : (0 ≤ z261.toInt → z269.toInt = z261.toInt % 26) ∧ (z261.toInt < 0 → z269.toInt = -((-z261.toInt) % 26)) := by have q := c_irem z261 (26 : Int32) 26 rfl; rw [e_z269] at q; exact q
        refine K.irem at_269 (pc' := 270) rfl (by decide) e_z269 ?_
        obtain ⟨ins, e_ins⟩ : ∃ z, (97 : Int32) + z269 = z := ⟨_, rfl⟩
        have r_ins : (ins.toInt - (97 + z269.toInt)) % 4294967296 = 0 := by have q := c_iadd (97 : Int32) z269; rw [e_ins] at q; exact q
        have g_ins := rng32 ins
        have t_ins : ins.toInt = 97 + z269.toInt := by omega
        clear r_ins
        clear g_ins
        refine K.iadd at_270 (pc' := 271) rfl e_ins ?_
        refine K.istore at_271 (pc' := 273) rfl (L' := #[.val (.int c), .val (.int k), .val (.int d), .val (.ref a_1), .val (.ref a_103), .val (.int (1 : Int32)), .val (.int (3 : Int32)), .val (.int (97 : Int32)), .val (.int (122 : Int32)), .val (.int ins), .unset]) rfl ?_
        refine K.iload at_273 (pc' := 275) rfl rfl ?_
        refine K.calls (argsL := [(.int (97 : Int32))]) (rest := []) at_275 (pc' := 278) rfl (c_ns l Z a0 hw n0 h_215 (p := (97 : Int32)) ) (hw _ (List.mem_of_getElem? (i := 8) rfl)) (hw _ (List.mem_of_getElem? (i := 9) rfl)) (hw _ (List.mem_of_getElem? (i := 10) rfl)) (hw _ (List.mem_of_getElem? (i := 11) rfl)) (by decide) pd_1 rfl rfl (W := 0) (by simp [Value.category]) (by decide) (by decide) (by decide) (by decide) (fun v_292 h_290 q_291 => ?_)
        obtain ⟨rfl, rfl⟩ := q_291
        show G h_215 2 32 (mkF m 278 #[.val (.int c), .val (.int k), .val (.int d), .val (.ref a_1), .val (.ref a_103), .val (.int (1 : Int32)), .val (.int (3 : Int32)), .val (.int (97 : Int32)), .val (.int (122 : Int32)), .val (.int ins), .unset] [(.int (b2 (97 = 58 ∨ (65 ≤ 97 ∧ 97 ≤ 90) ∨ 97 = 95 ∨ (97 ≤ 97 ∧ 97 ≤ 122) ∨ (192 ≤ 97 ∧ 97 ≤ 214) ∨ (216 ≤ 97 ∧ 97 ≤ 246) ∨ (248 ≤ 97 ∧ 97 ≤ 767) ∨ (880 ≤ 97 ∧ 97 ≤ 893) ∨ (895 ≤ 97 ∧ 97 ≤ 8191) ∨ (8204 ≤ 97 ∧ 97 ≤ 8205) ∨ (8304 ≤ 97 ∧ 97 ≤ 8591) ∨ (11264 ≤ 97 ∧ 97 ≤ 12271) ∨ (12289 ≤ 97 ∧ 97 ≤ 55295) ∨ (63744 ≤ 97 ∧ 97 ≤ 64975) ∨ (65008 ≤ 97 ∧ 97 ≤ 65533) ∨ (65536 ≤ 97 ∧ 97 ≤ 983039))))])
        refine K.ifeqB at_278 (pc1 := 281) rfl (by decide) (pc2 := 321) (by decide) (fun c278 => ?_) (fun c278 => ?_)
        · exfalso; omega
        · refine K.iload at_281 (pc' := 283) rfl rfl ?_
          refine K.calls (argsL := [(.int (122 : Int32))]) (rest := []) at_283 (pc' := 286) rfl (c_ns l Z a0 hw n0 h_215 (p := (122 : Int32)) ) (hw _ (List.mem_of_getElem? (i := 8) rfl)) (hw _ (List.mem_of_getElem? (i := 9) rfl)) (hw _ (List.mem_of_getElem? (i := 10) rfl)) (hw _ (List.mem_of_getElem? (i := 11) rfl)) (by decide) pd_1 rfl rfl (W := 0) (by simp [Value.category]) (by decide) (by decide) (by decide) (by decide) (fun v_296 h_294 q_295 => ?_)
          obtain ⟨rfl, rfl⟩ := q_295
          show G h_215 2 32 (mkF m 286 #[.val (.int c), .val (.int k), .val (.int d), .val (.ref a_1), .val (.ref a_103), .val (.int (1 : Int32)), .val (.int (3 : Int32)), .val (.int (97 : Int32)), .val (.int (122 : Int32)), .val (.int ins), .unset] [(.int (b2 (122 = 58 ∨ (65 ≤ 122 ∧ 122 ≤ 90) ∨ 122 = 95 ∨ (97 ≤ 122 ∧ 122 ≤ 122) ∨ (192 ≤ 122 ∧ 122 ≤ 214) ∨ (216 ≤ 122 ∧ 122 ≤ 246) ∨ (248 ≤ 122 ∧ 122 ≤ 767) ∨ (880 ≤ 122 ∧ 122 ≤ 893) ∨ (895 ≤ 122 ∧ 122 ≤ 8191) ∨ (8204 ≤ 122 ∧ 122 ≤ 8205) ∨ (8304 ≤ 122 ∧ 122 ≤ 8591) ∨ (11264 ≤ 122 ∧ 122 ≤ 12271) ∨ (12289 ≤ 122 ∧ 122 ≤ 55295) ∨ (63744 ≤ 122 ∧ 122 ≤ 64975) ∨ (65008 ≤ 122 ∧ 122 ≤ 65533) ∨ (65536 ≤ 122 ∧ 122 ≤ 983039))))])
          refine K.ifeqB at_286 (pc1 := 289) rfl (by decide) (pc2 := 321) (by decide) (fun c286 => ?_) (fun c286 => ?_)
          · exfalso; omega
          · refine K.iload at_289 (pc' := 291) rfl rfl ?_
            refine K.calls (argsL := [(.int ins)]) (rest := []) at_291 (pc' := 294) rfl (c_ns l Z a0 hw n0 h_215 (p := ins) ) (hw _ (List.mem_of_getElem? (i := 8) rfl)) (hw _ (List.mem_of_getElem? (i := 9) rfl)) (hw _ (List.mem_of_getElem? (i := 10) rfl)) (hw _ (List.mem_of_getElem? (i := 11) rfl)) (by decide) pd_1 rfl rfl (W := 0) (by simp [Value.category]) (by decide) (by decide) (by decide) (by decide) (fun v_300 h_298 q_299 => ?_)
            obtain ⟨rfl, rfl⟩ := q_299
            show G h_215 2 32 (mkF m 294 #[.val (.int c), .val (.int k), .val (.int d), .val (.ref a_1), .val (.ref a_103), .val (.int (1 : Int32)), .val (.int (3 : Int32)), .val (.int (97 : Int32)), .val (.int (122 : Int32)), .val (.int ins), .unset] [(.int (b2 (ins.toInt = 58 ∨ (65 ≤ ins.toInt ∧ ins.toInt ≤ 90) ∨ ins.toInt = 95 ∨ (97 ≤ ins.toInt ∧ ins.toInt ≤ 122) ∨ (192 ≤ ins.toInt ∧ ins.toInt ≤ 214) ∨ (216 ≤ ins.toInt ∧ ins.toInt ≤ 246) ∨ (248 ≤ ins.toInt ∧ ins.toInt ≤ 767) ∨ (880 ≤ ins.toInt ∧ ins.toInt ≤ 893) ∨ (895 ≤ ins.toInt ∧ ins.toInt ≤ 8191) ∨ (8204 ≤ ins.toInt ∧ ins.toInt ≤ 8205) ∨ (8304 ≤ ins.toInt ∧ ins.toInt ≤ 8591) ∨ (11264 ≤ ins.toInt ∧ ins.toInt ≤ 12271) ∨ (12289 ≤ ins.toInt ∧ ins.toInt ≤ 55295) ∨ (63744 ≤ ins.toInt ∧ ins.toInt ≤ 64975) ∨ (65008 ≤ ins.toInt ∧ ins.toInt ≤ 65533) ∨ (65536 ≤ ins.toInt ∧ ins.toInt ≤ 983039))))])
            refine K.ifeqB at_294 (pc1 := 297) rfl (by decide) (pc2 := 321) (by decide) (fun c294 => ?_) (fun c294 => ?_)
            · exfalso; omega
            · refine K.iload at_297 (pc' := 299) rfl rfl ?_
              refine K.iconst at_299 (pc' := 300) rfl (z := 1) rfl ?_
              refine K.isub at_300 (pc' := 301) rfl (z := (96 : Int32)) (by decide) ?_
              refine K.calls (argsL := [(.int (96 : Int32))]) (rest := []) at_301 (pc' := 304) rfl (c_ns l Z a0 hw n0 h_215 (p := (96 : Int32)) ) (hw _ (List.mem_of_getElem? (i := 8) rfl)) (hw _ (List.mem_of_getElem? (i := 9) rfl)) (hw _ (List.mem_of_getElem? (i := 10) rfl)) (hw _ (List.mem_of_getElem? (i := 11) rfl)) (by decide) pd_1 rfl rfl (W := 0) (by simp [Value.category]) (by decide) (by decide) (by decide) (by decide) (fun v_304 h_302 q_303 => ?_)
              obtain ⟨rfl, rfl⟩ := q_303
              show G h_215 2 32 (mkF m 304 #[.val (.int c), .val (.int k), .val (.int d), .val (.ref a_1), .val (.ref a_103), .val (.int (1 : Int32)), .val (.int (3 : Int32)), .val (.int (97 : Int32)), .val (.int (122 : Int32)), .val (.int ins), .unset] [(.int (b2 (96 = 58 ∨ (65 ≤ 96 ∧ 96 ≤ 90) ∨ 96 = 95 ∨ (97 ≤ 96 ∧ 96 ≤ 122) ∨ (192 ≤ 96 ∧ 96 ≤ 214) ∨ (216 ≤ 96 ∧ 96 ≤ 246) ∨ (248 ≤ 96 ∧ 96 ≤ 767) ∨ (880 ≤ 96 ∧ 96 ≤ 893) ∨ (895 ≤ 96 ∧ 96 ≤ 8191) ∨ (8204 ≤ 96 ∧ 96 ≤ 8205) ∨ (8304 ≤ 96 ∧ 96 ≤ 8591) ∨ (11264 ≤ 96 ∧ 96 ≤ 12271) ∨ (12289 ≤ 96 ∧ 96 ≤ 55295) ∨ (63744 ≤ 96 ∧ 96 ≤ 64975) ∨ (65008 ≤ 96 ∧ 96 ≤ 65533) ∨ (65536 ≤ 96 ∧ 96 ≤ 983039))))])
              refine K.ifneB at_304 (pc1 := 307) rfl (by decide) (pc2 := 321) (by decide) (fun c304 => ?_) (fun c304 => ?_)
              · exfalso; omega
              · refine K.iload at_307 (pc' := 309) rfl rfl ?_
                refine K.iconst at_309 (pc' := 310) rfl (z := 1) rfl ?_
                refine K.iadd at_310 (pc' := 311) rfl (z := (123 : Int32)) (by decide) ?_
                refine K.calls (argsL := [(.int (123 : Int32))]) (rest := []) at_311 (pc' := 314) rfl (c_ns l Z a0 hw n0 h_215 (p := (123 : Int32)) ) (hw _ (List.mem_of_getElem? (i := 8) rfl)) (hw _ (List.mem_of_getElem? (i := 9) rfl)) (hw _ (List.mem_of_getElem? (i := 10) rfl)) (hw _ (List.mem_of_getElem? (i := 11) rfl)) (by decide) pd_1 rfl rfl (W := 0) (by simp [Value.category]) (by decide) (by decide) (by decide) (by decide) (fun v_308 h_306 q_307 => ?_)
                obtain ⟨rfl, rfl⟩ := q_307
                show G h_215 2 32 (mkF m 314 #[.val (.int c), .val (.int k), .val (.int d), .val (.ref a_1), .val (.ref a_103), .val (.int (1 : Int32)), .val (.int (3 : Int32)), .val (.int (97 : Int32)), .val (.int (122 : Int32)), .val (.int ins), .unset] [(.int (b2 (123 = 58 ∨ (65 ≤ 123 ∧ 123 ≤ 90) ∨ 123 = 95 ∨ (97 ≤ 123 ∧ 123 ≤ 122) ∨ (192 ≤ 123 ∧ 123 ≤ 214) ∨ (216 ≤ 123 ∧ 123 ≤ 246) ∨ (248 ≤ 123 ∧ 123 ≤ 767) ∨ (880 ≤ 123 ∧ 123 ≤ 893) ∨ (895 ≤ 123 ∧ 123 ≤ 8191) ∨ (8204 ≤ 123 ∧ 123 ≤ 8205) ∨ (8304 ≤ 123 ∧ 123 ≤ 8591) ∨ (11264 ≤ 123 ∧ 123 ≤ 12271) ∨ (12289 ≤ 123 ∧ 123 ≤ 55295) ∨ (63744 ≤ 123 ∧ 123 ≤ 64975) ∨ (65008 ≤ 123 ∧ 123 ≤ 65533) ∨ (65536 ≤ 123 ∧ 123 ≤ 983039))))])
                refine K.ifneB at_314 (pc1 := 317) rfl (by decide) (pc2 := 321) (by decide) (fun c314 => ?_) (fun c314 => ?_)
                · exfalso; omega
                · refine K.iconst at_317 (pc' := 318) rfl (z := 1) rfl ?_
                  refine K.goto at_318 (by decide) (pc' := 322) (by decide) ?_
                  refine K.istore at_322 (pc' := 324) rfl (L' := #[.val (.int c), .val (.int k), .val (.int d), .val (.ref a_1), .val (.ref a_103), .val (.int (1 : Int32)), .val (.int (3 : Int32)), .val (.int (97 : Int32)), .val (.int (122 : Int32)), .val (.int ins), .val (.int (1 : Int32))]) rfl ?_
                  refine K.iload at_324 (pc' := 326) rfl rfl ?_
                  refine K.if_eq at_326 (pc1 := 329) rfl (by decide) (pc2 := 338) (by decide) (a := 1) rfl (fun c326 => ?_) (fun c326 => ?_)
                  · exfalso; omega
                  · refine K.iload at_329 (pc' := 331) rfl rfl ?_
                    refine K.if_eq at_331 (pc1 := 334) rfl (by decide) (pc2 := 338) (by decide) (a := 1) rfl (fun c331 => ?_) (fun c331 => ?_)
                    · exfalso; omega
                    · refine K.iconst at_334 (pc' := 335) rfl (z := 1) rfl ?_
                      refine K.goto at_335 (by decide) (pc' := 339) (by decide) ?_
                      exact K.retz at_339 (Or.inr rfl) (by decide) (by decide) rfl
      · refine K.aloadN at_243 (pc' := 244) rfl rfl rfl ?_
        refine K.iload at_244 (pc' := 246) rfl rfl ?_
        refine K.iald at_246 (pc' := 247) rfl f_218 (i := 4) rfl rfl ?_
        refine K.istore at_247 (pc' := 249) rfl (L' := #[.val (.int c), .val (.int k), .val (.int d), .val (.ref a_1), .val (.ref a_103), .val (.int (1 : Int32)), .val (.int (4 : Int32)), .val (.int (192 : Int32)), .unset, .unset, .unset]) rfl ?_
        refine K.aload at_249 (pc' := 251) rfl rfl rfl ?_
        refine K.iload at_251 (pc' := 253) rfl rfl ?_
        refine K.iald at_253 (pc' := 254) rfl A_221 (i := 4) rfl rfl ?_
        refine K.istore at_254 (pc' := 256) rfl (L' := #[.val (.int c), .val (.int k), .val (.int d), .val (.ref a_1), .val (.ref a_103), .val (.int (1 : Int32)), .val (.int (4 : Int32)), .val (.int (192 : Int32)), .val (.int (214 : Int32)), .unset, .unset]) rfl ?_
        refine K.iload at_256 (pc' := 258) rfl rfl ?_
        refine K.iloadN at_258 (pc' := 259) rfl rfl ?_
        refine K.ldcI at_259 (pc' := 261) rfl (hw _ (List.mem_of_getElem? (i := 19) rfl)) ?_
        obtain ⟨z261, e_z261⟩ : ∃ z, d &&& (2147483647 : Int32) = z := ⟨_, rfl⟩
        have r_z261 : z261.toInt = d.toInt % 2147483648 := by have q := c_mask d (2147483647 : Int32) 31 (by decide) (by decide); rw [e_z261] at q; exact q
        refine K.iand at_261 (pc' := 262) rfl e_z261 ?_
        refine K.iload at_262 (pc' := 264) rfl rfl ?_
        refine K.iload at_264 (pc' := 266) rfl rfl ?_
        refine K.isub at_266 (pc' := 267) rfl (z := (22 : Int32)) (by decide) ?_
        refine K.iconst at_267 (pc' := 268) rfl (z := 1) rfl ?_
        refine K.iadd at_268 (pc' := 269) rfl (z := (23 : Int32)) (by decide) ?_
        obtain ⟨z269, e_z269⟩ : ∃ z, z261 % (23 : Int32) = z := ⟨_, rfl⟩
        have r_z269 : (0 ≤ z261.toInt → z269.toInt = z261.toInt % 23) ∧ (z261.toInt < 0 → z269.toInt = -((-z261.toInt) % 23)) := by have q := c_irem z261 (23 : Int32) 23 rfl; rw [e_z269] at q; exact q
        refine K.irem at_269 (pc' := 270) rfl (by decide) e_z269 ?_
        obtain ⟨ins, e_ins⟩ : ∃ z, (192 : Int32) + z269 = z := ⟨_, rfl⟩
        have r_ins : (ins.toInt - (192 + z269.toInt)) % 4294967296 = 0 := by have q := c_iadd (192 : Int32) z269; rw [e_ins] at q; exact q
        have g_ins := rng32 ins
        have t_ins : ins.toInt = 192 + z269.toInt := by omega
        clear r_ins
        clear g_ins
        refine K.iadd at_270 (pc' := 271) rfl e_ins ?_
        refine K.istore at_271 (pc' := 273) rfl (L' := #[.val (.int c), .val (.int k), .val (.int d), .val (.ref a_1), .val (.ref a_103), .val (.int (1 : Int32)), .val (.int (4 : Int32)), .val (.int (192 : Int32)), .val (.int (214 : Int32)), .val (.int ins), .unset]) rfl ?_
        refine K.iload at_273 (pc' := 275) rfl rfl ?_
        refine K.calls (argsL := [(.int (192 : Int32))]) (rest := []) at_275 (pc' := 278) rfl (c_ns l Z a0 hw n0 h_215 (p := (192 : Int32)) ) (hw _ (List.mem_of_getElem? (i := 8) rfl)) (hw _ (List.mem_of_getElem? (i := 9) rfl)) (hw _ (List.mem_of_getElem? (i := 10) rfl)) (hw _ (List.mem_of_getElem? (i := 11) rfl)) (by decide) pd_1 rfl rfl (W := 0) (by simp [Value.category]) (by decide) (by decide) (by decide) (by decide) (fun v_312 h_310 q_311 => ?_)
        obtain ⟨rfl, rfl⟩ := q_311
        show G h_215 2 32 (mkF m 278 #[.val (.int c), .val (.int k), .val (.int d), .val (.ref a_1), .val (.ref a_103), .val (.int (1 : Int32)), .val (.int (4 : Int32)), .val (.int (192 : Int32)), .val (.int (214 : Int32)), .val (.int ins), .unset] [(.int (b2 (192 = 58 ∨ (65 ≤ 192 ∧ 192 ≤ 90) ∨ 192 = 95 ∨ (97 ≤ 192 ∧ 192 ≤ 122) ∨ (192 ≤ 192 ∧ 192 ≤ 214) ∨ (216 ≤ 192 ∧ 192 ≤ 246) ∨ (248 ≤ 192 ∧ 192 ≤ 767) ∨ (880 ≤ 192 ∧ 192 ≤ 893) ∨ (895 ≤ 192 ∧ 192 ≤ 8191) ∨ (8204 ≤ 192 ∧ 192 ≤ 8205) ∨ (8304 ≤ 192 ∧ 192 ≤ 8591) ∨ (11264 ≤ 192 ∧ 192 ≤ 12271) ∨ (12289 ≤ 192 ∧ 192 ≤ 55295) ∨ (63744 ≤ 192 ∧ 192 ≤ 64975) ∨ (65008 ≤ 192 ∧ 192 ≤ 65533) ∨ (65536 ≤ 192 ∧ 192 ≤ 983039))))])
        refine K.ifeqB at_278 (pc1 := 281) rfl (by decide) (pc2 := 321) (by decide) (fun c278 => ?_) (fun c278 => ?_)
        · exfalso; omega
        · refine K.iload at_281 (pc' := 283) rfl rfl ?_
          refine K.calls (argsL := [(.int (214 : Int32))]) (rest := []) at_283 (pc' := 286) rfl (c_ns l Z a0 hw n0 h_215 (p := (214 : Int32)) ) (hw _ (List.mem_of_getElem? (i := 8) rfl)) (hw _ (List.mem_of_getElem? (i := 9) rfl)) (hw _ (List.mem_of_getElem? (i := 10) rfl)) (hw _ (List.mem_of_getElem? (i := 11) rfl)) (by decide) pd_1 rfl rfl (W := 0) (by simp [Value.category]) (by decide) (by decide) (by decide) (by decide) (fun v_316 h_314 q_315 => ?_)
          obtain ⟨rfl, rfl⟩ := q_315
          show G h_215 2 32 (mkF m 286 #[.val (.int c), .val (.int k), .val (.int d), .val (.ref a_1), .val (.ref a_103), .val (.int (1 : Int32)), .val (.int (4 : Int32)), .val (.int (192 : Int32)), .val (.int (214 : Int32)), .val (.int ins), .unset] [(.int (b2 (214 = 58 ∨ (65 ≤ 214 ∧ 214 ≤ 90) ∨ 214 = 95 ∨ (97 ≤ 214 ∧ 214 ≤ 122) ∨ (192 ≤ 214 ∧ 214 ≤ 214) ∨ (216 ≤ 214 ∧ 214 ≤ 246) ∨ (248 ≤ 214 ∧ 214 ≤ 767) ∨ (880 ≤ 214 ∧ 214 ≤ 893) ∨ (895 ≤ 214 ∧ 214 ≤ 8191) ∨ (8204 ≤ 214 ∧ 214 ≤ 8205) ∨ (8304 ≤ 214 ∧ 214 ≤ 8591) ∨ (11264 ≤ 214 ∧ 214 ≤ 12271) ∨ (12289 ≤ 214 ∧ 214 ≤ 55295) ∨ (63744 ≤ 214 ∧ 214 ≤ 64975) ∨ (65008 ≤ 214 ∧ 214 ≤ 65533) ∨ (65536 ≤ 214 ∧ 214 ≤ 983039))))])
          refine K.ifeqB at_286 (pc1 := 289) rfl (by decide) (pc2 := 321) (by decide) (fun c286 => ?_) (fun c286 => ?_)
          · exfalso; omega
          · refine K.iload at_289 (pc' := 291) rfl rfl ?_
            refine K.calls (argsL := [(.int ins)]) (rest := []) at_291 (pc' := 294) rfl (c_ns l Z a0 hw n0 h_215 (p := ins) ) (hw _ (List.mem_of_getElem? (i := 8) rfl)) (hw _ (List.mem_of_getElem? (i := 9) rfl)) (hw _ (List.mem_of_getElem? (i := 10) rfl)) (hw _ (List.mem_of_getElem? (i := 11) rfl)) (by decide) pd_1 rfl rfl (W := 0) (by simp [Value.category]) (by decide) (by decide) (by decide) (by decide) (fun v_320 h_318 q_319 => ?_)
            obtain ⟨rfl, rfl⟩ := q_319
            show G h_215 2 32 (mkF m 294 #[.val (.int c), .val (.int k), .val (.int d), .val (.ref a_1), .val (.ref a_103), .val (.int (1 : Int32)), .val (.int (4 : Int32)), .val (.int (192 : Int32)), .val (.int (214 : Int32)), .val (.int ins), .unset] [(.int (b2 (ins.toInt = 58 ∨ (65 ≤ ins.toInt ∧ ins.toInt ≤ 90) ∨ ins.toInt = 95 ∨ (97 ≤ ins.toInt ∧ ins.toInt ≤ 122) ∨ (192 ≤ ins.toInt ∧ ins.toInt ≤ 214) ∨ (216 ≤ ins.toInt ∧ ins.toInt ≤ 246) ∨ (248 ≤ ins.toInt ∧ ins.toInt ≤ 767) ∨ (880 ≤ ins.toInt ∧ ins.toInt ≤ 893) ∨ (895 ≤ ins.toInt ∧ ins.toInt ≤ 8191) ∨ (8204 ≤ ins.toInt ∧ ins.toInt ≤ 8205) ∨ (8304 ≤ ins.toInt ∧ ins.toInt ≤ 8591) ∨ (11264 ≤ ins.toInt ∧ ins.toInt ≤ 12271) ∨ (12289 ≤ ins.toInt ∧ ins.toInt ≤ 55295) ∨ (63744 ≤ ins.toInt ∧ ins.toInt ≤ 64975) ∨ (65008 ≤ ins.toInt ∧ ins.toInt ≤ 65533) ∨ (65536 ≤ ins.toInt ∧ ins.toInt ≤ 983039))))])
            refine K.ifeqB at_294 (pc1 := 297) rfl (by decide) (pc2 := 321) (by decide) (fun c294 => ?_) (fun c294 => ?_)
            · exfalso; omega
            · refine K.iload at_297 (pc' := 299) rfl rfl ?_
              refine K.iconst at_299 (pc' := 300) rfl (z := 1) rfl ?_
              refine K.isub at_300 (pc' := 301) rfl (z := (191 : Int32)) (by decide) ?_
              refine K.calls (argsL := [(.int (191 : Int32))]) (rest := []) at_301 (pc' := 304) rfl (c_ns l Z a0 hw n0 h_215 (p := (191 : Int32)) ) (hw _ (List.mem_of_getElem? (i := 8) rfl)) (hw _ (List.mem_of_getElem? (i := 9) rfl)) (hw _ (List.mem_of_getElem? (i := 10) rfl)) (hw _ (List.mem_of_getElem? (i := 11) rfl)) (by decide) pd_1 rfl rfl (W := 0) (by simp [Value.category]) (by decide) (by decide) (by decide) (by decide) (fun v_324 h_322 q_323 => ?_)
              obtain ⟨rfl, rfl⟩ := q_323
              show G h_215 2 32 (mkF m 304 #[.val (.int c), .val (.int k), .val (.int d), .val (.ref a_1), .val (.ref a_103), .val (.int (1 : Int32)), .val (.int (4 : Int32)), .val (.int (192 : Int32)), .val (.int (214 : Int32)), .val (.int ins), .unset] [(.int (b2 (191 = 58 ∨ (65 ≤ 191 ∧ 191 ≤ 90) ∨ 191 = 95 ∨ (97 ≤ 191 ∧ 191 ≤ 122) ∨ (192 ≤ 191 ∧ 191 ≤ 214) ∨ (216 ≤ 191 ∧ 191 ≤ 246) ∨ (248 ≤ 191 ∧ 191 ≤ 767) ∨ (880 ≤ 191 ∧ 191 ≤ 893) ∨ (895 ≤ 191 ∧ 191 ≤ 8191) ∨ (8204 ≤ 191 ∧ 191 ≤ 8205) ∨ (8304 ≤ 191 ∧ 191 ≤ 8591) ∨ (11264 ≤ 191 ∧ 191 ≤ 12271) ∨ (12289 ≤ 191 ∧ 191 ≤ 55295) ∨ (63744 ≤ 191 ∧ 191 ≤ 64975) ∨ (65008 ≤ 191 ∧ 191 ≤ 65533) ∨ (65536 ≤ 191 ∧ 191 ≤ 983039))))])
              refine K.ifneB at_304 (pc1 := 307) rfl (by decide) (pc2 := 321) (by decide) (fun c304 => ?_) (fun c304 => ?_)
              · exfalso; omega
              · refine K.iload at_307 (pc' := 309) rfl rfl ?_
                refine K.iconst at_309 (pc' := 310) rfl (z := 1) rfl ?_
                refine K.iadd at_310 (pc' := 311) rfl (z := (215 : Int32)) (by decide) ?_
                refine K.calls (argsL := [(.int (215 : Int32))]) (rest := []) at_311 (pc' := 314) rfl (c_ns l Z a0 hw n0 h_215 (p := (215 : Int32)) ) (hw _ (List.mem_of_getElem? (i := 8) rfl)) (hw _ (List.mem_of_getElem? (i := 9) rfl)) (hw _ (List.mem_of_getElem? (i := 10) rfl)) (hw _ (List.mem_of_getElem? (i := 11) rfl)) (by decide) pd_1 rfl rfl (W := 0) (by simp [Value.category]) (by decide) (by decide) (by decide) (by decide) (fun v_328 h_326 q_327 => ?_)
                obtain ⟨rfl, rfl⟩ := q_327
                show G h_215 2 32 (mkF m 314 #[.val (.int c), .val (.int k), .val (.int d), .val (.ref a_1), .val (.ref a_103), .val (.int (1 : Int32)), .val (.int (4 : Int32)), .val (.int (192 : Int32)), .val (.int (214 : Int32)), .val (.int ins), .unset] [(.int (b2 (215 = 58 ∨ (65 ≤ 215 ∧ 215 ≤ 90) ∨ 215 = 95 ∨ (97 ≤ 215 ∧ 215 ≤ 122) ∨ (192 ≤ 215 ∧ 215 ≤ 214) ∨ (216 ≤ 215 ∧ 215 ≤ 246) ∨ (248 ≤ 215 ∧ 215 ≤ 767) ∨ (880 ≤ 215 ∧ 215 ≤ 893) ∨ (895 ≤ 215 ∧ 215 ≤ 8191) ∨ (8204 ≤ 215 ∧ 215 ≤ 8205) ∨ (8304 ≤ 215 ∧ 215 ≤ 8591) ∨ (11264 ≤ 215 ∧ 215 ≤ 12271) ∨ (12289 ≤ 215 ∧ 215 ≤ 55295) ∨ (63744 ≤ 215 ∧ 215 ≤ 64975) ∨ (65008 ≤ 215 ∧ 215 ≤ 65533) ∨ (65536 ≤ 215 ∧ 215 ≤ 983039))))])
                refine K.ifneB at_314 (pc1 := 317) rfl (by decide) (pc2 := 321) (by decide) (fun c314 => ?_) (fun c314 => ?_)
                · exfalso; omega
                · refine K.iconst at_317 (pc' := 318) rfl (z := 1) rfl ?_
                  refine K.goto at_318 (by decide) (pc' := 322) (by decide) ?_
                  refine K.istore at_322 (pc' := 324) rfl (L' := #[.val (.int c), .val (.int k), .val (.int d), .val (.ref a_1), .val (.ref a_103), .val (.int (1 : Int32)), .val (.int (4 : Int32)), .val (.int (192 : Int32)), .val (.int (214 : Int32)), .val (.int ins), .val (.int (1 : Int32))]) rfl ?_
                  refine K.iload at_324 (pc' := 326) rfl rfl ?_
                  refine K.if_eq at_326 (pc1 := 329) rfl (by decide) (pc2 := 338) (by decide) (a := 1) rfl (fun c326 => ?_) (fun c326 => ?_)
                  · exfalso; omega
                  · refine K.iload at_329 (pc' := 331) rfl rfl ?_
                    refine K.if_eq at_331 (pc1 := 334) rfl (by decide) (pc2 := 338) (by decide) (a := 1) rfl (fun c331 => ?_) (fun c331 => ?_)
                    · exfalso; omega
                    · refine K.iconst at_334 (pc' := 335) rfl (z := 1) rfl ?_
                      refine K.goto at_335 (by decide) (pc' := 339) (by decide) ?_
                      exact K.retz at_339 (Or.inr rfl) (by decide) (by decide) rfl
      · refine K.aloadN at_243 (pc' := 244) rfl rfl rfl ?_
        refine K.iload at_244 (pc' := 246) rfl rfl ?_
        refine K.iald at_246 (pc' := 247) rfl f_218 (i := 5) rfl rfl ?_
        refine K.istore at_247 (pc' := 249) rfl (L' := #[.val (.int c), .val (.int k), .val (.int d), .val (.ref a_1), .val (.ref a_103), .val (.int (1 : Int32)), .val (.int (5 : Int32)), .val (.int (216 : Int32)), .unset, .unset, .unset]) rfl ?_
        refine K.aload at_249 (pc' := 251) rfl rfl rfl ?_
        refine K.iload at_251 (pc' := 253) rfl rfl ?_
        refine K.iald at_253 (pc' := 254) rfl A_221 (i := 5) rfl rfl ?_
        refine K.istore at_254 (pc' := 256) rfl (L' := #[.val (.int c), .val (.int k), .val (.int d), .val (.ref a_1), .val (.ref a_103), .val (.int (1 : Int32)), .val (.int (5 : Int32)), .val (.int (216 : Int32)), .val (.int (246 : Int32)), .unset, .unset]) rfl ?_
        refine K.iload at_256 (pc' := 258) rfl rfl ?_
        refine K.iloadN at_258 (pc' := 259) rfl rfl ?_
        refine K.ldcI at_259 (pc' := 261) rfl (hw _ (List.mem_of_getElem? (i := 19) rfl)) ?_
        obtain ⟨z261, e_z261⟩ : ∃ z, d &&& (2147483647 : Int32) = z := ⟨_, rfl⟩
        have r_z261 : z261.toInt = d.toInt % 2147483648 := by have q := c_mask d (2147483647 : Int32) 31 (by decide) (by decide); rw [e_z261] at q; exact q
        refine K.iand at_261 (pc' := 262) rfl e_z261 ?_
        refine K.iload at_262 (pc' := 264) rfl rfl ?_
        refine K.iload at_264 (pc' := 266) rfl rfl ?_
        refine K.isub at_266 (pc' := 267) rfl (z := (30 : Int32)) (by decide) ?_
        refine K.iconst at_267 (pc' := 268) rfl (z := 1) rfl ?_
        refine K.iadd at_268 (pc' := 269) rfl (z := (31 : Int32)) (by decide) ?_
        obtain ⟨z269, e_z269⟩ : ∃ z, z261 % (31 : Int32) = z := ⟨_, rfl⟩
        have r_z269 : (0 ≤ z261.toInt → z269.toInt = z261.toInt % 31) ∧ (z261.toInt < 0 → z269.toInt = -((-z261.toInt) % 31)) := by have q := c_irem z261 (31 : Int32) 31 rfl; rw [e_z269] at q; exact q
        refine K.irem at_269 (pc' := 270) rfl (by decide) e_z269 ?_
        obtain ⟨ins, e_ins⟩ : ∃ z, (216 : Int32) + z269 = z := ⟨_, rfl⟩
        have r_ins : (ins.toInt - (216 + z269.toInt)) % 4294967296 = 0 := by have q := c_iadd (216 : Int32) z269; rw [e_ins] at q; exact q
        have g_ins := rng32 ins
        have t_ins : ins.toInt = 216 + z269.toInt := by omega
        clear r_ins
        clear g_ins
        refine K.iadd at_270 (pc' := 271) rfl e_ins ?_
        refine K.istore at_271 (pc' := 273) rfl (L' := #[.val (.int c), .val (.int k), .val (.int d), .val (.ref a_1), .val (.ref a_103), .val (.int (1 : Int32)), .val (.int (5 : Int32)), .val (.int (216 : Int32)), .val (.int (246 : Int32)), .val (.int ins), .unset]) rfl ?_
        refine K.iload at_273 (pc' := 275) rfl rfl ?_
        refine K.calls (argsL := [(.int (216 : Int32))]) (rest := []) at_275 (pc' := 278) rfl (c_ns l Z a0 hw n0 h_215 (p := (216 : Int32)) ) (hw _ (List.mem_of_getElem? (i := 8) rfl)) (hw _ (List.mem_of_getElem? (i := 9) rfl)) (hw _ (List.mem_of_getElem? (i := 10) rfl)) (hw _ (List.mem_of_getElem? (i := 11) rfl)) (by decide) pd_1 rfl rfl (W := 0) (by simp [Value.category]) (by decide) (by decide) (by decide) (by decide) (fun v_332 h_330 q_331 => ?_)
        obtain ⟨rfl, rfl⟩ := q_331
        show G h_215 2 32 (mkF m 278 #[.val (.int c), .val (.int k), .val (.int d), .val (.ref a_1), .val (.ref a_103), .val (.int (1 : Int32)), .val (.int (5 : Int32)), .val (.int (216 : Int32)), .val (.int (246 : Int32)), .val (.int ins), .unset] [(.int (b2 (216 = 58 ∨ (65 ≤ 216 ∧ 216 ≤ 90) ∨ 216 = 95 ∨ (97 ≤ 216 ∧ 216 ≤ 122) ∨ (192 ≤ 216 ∧ 216 ≤ 214) ∨ (216 ≤ 216 ∧ 216 ≤ 246) ∨ (248 ≤ 216 ∧ 216 ≤ 767) ∨ (880 ≤ 216 ∧ 216 ≤ 893) ∨ (895 ≤ 216 ∧ 216 ≤ 8191) ∨ (8204 ≤ 216 ∧ 216 ≤ 8205) ∨ (8304 ≤ 216 ∧ 216 ≤ 8591) ∨ (11264 ≤ 216 ∧ 216 ≤ 12271) ∨ (12289 ≤ 216 ∧ 216 ≤ 55295) ∨ (63744 ≤ 216 ∧ 216 ≤ 64975) ∨ (65008 ≤ 216 ∧ 216 ≤ 65533) ∨ (65536 ≤ 216 ∧ 216 ≤ 983039))))])
        refine K.ifeqB at_278 (pc1 := 281) rfl (by decide) (pc2 := 321) (by decide) (fun c278 => ?_) (fun c278 => ?_)
        · exfalso; omega
        · refine K.iload at_281 (pc' := 283) rfl rfl ?_
          refine K.calls (argsL := [(.int (246 : Int32))]) (rest := []) at_283 (pc' := 286) rfl (c_ns l Z a0 hw n0 h_215 (p := (246 : Int32)) ) (hw _ (List.mem_of_getElem? (i := 8) rfl)) (hw _ (List.mem_of_getElem? (i := 9) rfl)) (hw _ (List.mem_of_getElem? (i := 10) rfl)) (hw _ (List.mem_of_getElem? (i := 11) rfl)) (by decide) pd_1 rfl rfl (W := 0) (by simp [Value.category]) (by decide) (by decide) (by decide) (by decide) (fun v_336 h_334 q_335 => ?_)
          obtain ⟨rfl, rfl⟩ := q_335
          show G h_215 2 32 (mkF m 286 #[.val (.int c), .val (.int k), .val (.int d), .val (.ref a_1), .val (.ref a_103), .val (.int (1 : Int32)), .val (.int (5 : Int32)), .val (.int (216 : Int32)), .val (.int (246 : Int32)), .val (.int ins), .unset] [(.int (b2 (246 = 58 ∨ (65 ≤ 246 ∧ 246 ≤ 90) ∨ 246 = 95 ∨ (97 ≤ 246 ∧ 246 ≤ 122) ∨ (192 ≤ 246 ∧ 246 ≤ 214) ∨ (216 ≤ 246 ∧ 246 ≤ 246) ∨ (248 ≤ 246 ∧ 246 ≤ 767) ∨ (880 ≤ 246 ∧ 246 ≤ 893) ∨ (895 ≤ 246 ∧ 246 ≤ 8191) ∨ (8204 ≤ 246 ∧ 246 ≤ 8205) ∨ (8304 ≤ 246 ∧ 246 ≤ 8591) ∨ (11264 ≤ 246 ∧ 246 ≤ 12271) ∨ (12289 ≤ 246 ∧ 246 ≤ 55295) ∨ (63744 ≤ 246 ∧ 246 ≤ 64975) ∨ (65008 ≤ 246 ∧ 246 ≤ 65533) ∨ (65536 ≤ 246 ∧ 246 ≤ 983039))))])
          refine K.ifeqB at_286 (pc1 := 289) rfl (by decide) (pc2 := 321) (by decide) (fun c286 => ?_) (fun c286 => ?_)
          · exfalso; omega
          · refine K.iload at_289 (pc' := 291) rfl rfl ?_
            refine K.calls (argsL := [(.int ins)]) (rest := []) at_291 (pc' := 294) rfl (c_ns l Z a0 hw n0 h_215 (p := ins) ) (hw _ (List.mem_of_getElem? (i := 8) rfl)) (hw _ (List.mem_of_getElem? (i := 9) rfl)) (hw _ (List.mem_of_getElem? (i := 10) rfl)) (hw _ (List.mem_of_getElem? (i := 11) rfl)) (by decide) pd_1 rfl rfl (W := 0) (by simp [Value.category]) (by decide) (by decide) (by decide) (by decide) (fun v_340 h_338 q_339 => ?_)
            obtain ⟨rfl, rfl⟩ := q_339
            show G h_215 2 32 (mkF m 294 #[.val (.int c), .val (.int k), .val (.int d), .val (.ref a_1), .val (.ref a_103), .val (.int (1 : Int32)), .val (.int (5 : Int32)), .val (.int (216 : Int32)), .val (.int (246 : Int32)), .val (.int ins), .unset] [(.int (b2 (ins.toInt = 58 ∨ (65 ≤ ins.toInt ∧ ins.toInt ≤ 90) ∨ ins.toInt = 95 ∨ (97 ≤ ins.toInt ∧ ins.toInt ≤ 122) ∨ (192 ≤ ins.toInt ∧ ins.toInt ≤ 214) ∨ (216 ≤ ins.toInt ∧ ins.toInt ≤ 246) ∨ (248 ≤ ins.toInt ∧ ins.toInt ≤ 767) ∨ (880 ≤ ins.toInt ∧ ins.toInt ≤ 893) ∨ (895 ≤ ins.toInt ∧ ins.toInt ≤ 8191) ∨ (8204 ≤ ins.toInt ∧ ins.toInt ≤ 8205) ∨ (8304 ≤ ins.toInt ∧ ins.toInt ≤ 8591) ∨ (11264 ≤ ins.toInt ∧ ins.toInt ≤ 12271) ∨ (12289 ≤ ins.toInt ∧ ins.toInt ≤ 55295) ∨ (63744 ≤ ins.toInt ∧ ins.toInt ≤ 64975) ∨ (65008 ≤ ins.toInt ∧ ins.toInt ≤ 65533) ∨ (65536 ≤ ins.toInt ∧ ins.toInt ≤ 983039))))])
            refine K.ifeqB at_294 (pc1 := 297) rfl (by decide) (pc2 := 321) (by decide) (fun c294 => ?_) (fun c294 => ?_)
            · exfalso; omega
            · refine K.iload at_297 (pc' := 299) rfl rfl ?_
              refine K.iconst at_299 (pc' := 300) rfl (z := 1) rfl ?_
              refine K.isub at_300 (pc' := 301) rfl (z := (215 : Int32)) (by decide) ?_
              refine K.calls (argsL := [(.int (215 : Int32))]) (rest := []) at_301 (pc' := 304) rfl (c_ns l Z a0 hw n0 h_215 (p := (215 : Int32)) ) (hw _ (List.mem_of_getElem? (i := 8) rfl)) (hw _ (List.mem_of_getElem? (i := 9) rfl)) (hw _ (List.mem_of_getElem? (i := 10) rfl)) (hw _ (List.mem_of_getElem? (i := 11) rfl)) (by decide) pd_1 rfl rfl (W := 0) (by simp [Value.category]) (by decide) (by decide) (by decide) (by decide) (fun v_344 h_342 q_343 => ?_)
              obtain ⟨rfl, rfl⟩ := q_343
              show G h_215 2 32 (mkF m 304 #[.val (.int c), .val (.int k), .val (.int d), .val (.ref a_1), .val (.ref a_103), .val (.int (1 : Int32)), .val (.int (5 : Int32)), .val (.int (216 : Int32)), .val (.int (246 : Int32)), .val (.int ins), .unset] [(.int (b2 (215 = 58 ∨ (65 ≤ 215 ∧ 215 ≤ 90) ∨ 215 = 95 ∨ (97 ≤ 215 ∧ 215 ≤ 122) ∨ (192 ≤ 215 ∧ 215 ≤ 214) ∨ (216 ≤ 215 ∧ 215 ≤ 246) ∨ (248 ≤ 215 ∧ 215 ≤ 767) ∨ (880 ≤ 215 ∧ 215 ≤ 893) ∨ (895 ≤ 215 ∧ 215 ≤ 8191) ∨ (8204 ≤ 215 ∧ 215 ≤ 8205) ∨ (8304 ≤ 215 ∧ 215 ≤ 8591) ∨ (11264 ≤ 215 ∧ 215 ≤ 12271) ∨ (12289 ≤ 215 ∧ 215 ≤ 55295) ∨ (63744 ≤ 215 ∧ 215 ≤ 64975) ∨ (65008 ≤ 215 ∧ 215 ≤ 65533) ∨ (65536 ≤ 215 ∧ 215 ≤ 983039))))])
              refine K.ifneB at_304 (pc1 := 307) rfl (by decide) (pc2 := 321) (by decide) (fun c304 => ?_) (fun c304 => ?_)
              · exfalso; omega
              · refine K.iload at_307 (pc' := 309) rfl rfl ?_
                refine K.iconst at_309 (pc' := 310) rfl (z := 1) rfl ?_
                refine K.iadd at_310 (pc' := 311) rfl (z := (247 : Int32)) (by decide) ?_
                refine K.calls (argsL := [(.int (247 : Int32))]) (rest := []) at_311 (pc' := 314) rfl (c_ns l Z a0 hw n0 h_215 (p := (247 : Int32)) ) (hw _ (List.mem_of_getElem? (i := 8) rfl)) (hw _ (List.mem_of_getElem? (i := 9) rfl)) (hw _ (List.mem_of_getElem? (i := 10) rfl)) (hw _ (List.mem_of_getElem? (i := 11) rfl)) (by decide) pd_1 rfl rfl (W := 0) (by simp [Value.category]) (by decide) (by decide) (by decide) (by decide) (fun v_348 h_346 q_347 => ?_)
                obtain ⟨rfl, rfl⟩ := q_347
                show G h_215 2 32 (mkF m 314 #[.val (.int c), .val (.int k), .val (.int d), .val (.ref a_1), .val (.ref a_103), .val (.int (1 : Int32)), .val (.int (5 : Int32)), .val (.int (216 : Int32)), .val (.int (246 : Int32)), .val (.int ins), .unset] [(.int (b2 (247 = 58 ∨ (65 ≤ 247 ∧ 247 ≤ 90) ∨ 247 = 95 ∨ (97 ≤ 247 ∧ 247 ≤ 122) ∨ (192 ≤ 247 ∧ 247 ≤ 214) ∨ (216 ≤ 247 ∧ 247 ≤ 246) ∨ (248 ≤ 247 ∧ 247 ≤ 767) ∨ (880 ≤ 247 ∧ 247 ≤ 893) ∨ (895 ≤ 247 ∧ 247 ≤ 8191) ∨ (8204 ≤ 247 ∧ 247 ≤ 8205) ∨ (8304 ≤ 247 ∧ 247 ≤ 8591) ∨ (11264 ≤ 247 ∧ 247 ≤ 12271) ∨ (12289 ≤ 247 ∧ 247 ≤ 55295) ∨ (63744 ≤ 247 ∧ 247 ≤ 64975) ∨ (65008 ≤ 247 ∧ 247 ≤ 65533) ∨ (65536 ≤ 247 ∧ 247 ≤ 983039))))])
                refine K.ifneB at_314 (pc1 := 317) rfl (by decide) (pc2 := 321) (by decide) (fun c314 => ?_) (fun c314 => ?_)
                · exfalso; omega
                · refine K.iconst at_317 (pc' := 318) rfl (z := 1) rfl ?_
                  refine K.goto at_318 (by decide) (pc' := 322) (by decide) ?_
                  refine K.istore at_322 (pc' := 324) rfl (L' := #[.val (.int c), .val (.int k), .val (.int d), .val (.ref a_1), .val (.ref a_103), .val (.int (1 : Int32)), .val (.int (5 : Int32)), .val (.int (216 : Int32)), .val (.int (246 : Int32)), .val (.int ins), .val (.int (1 : Int32))]) rfl ?_
                  refine K.iload at_324 (pc' := 326) rfl rfl ?_
                  refine K.if_eq at_326 (pc1 := 329) rfl (by decide) (pc2 := 338) (by decide) (a := 1) rfl (fun c326 => ?_) (fun c326 => ?_)
                  · exfalso; omega
                  · refine K.iload at_329 (pc' := 331) rfl rfl ?_
                    refine K.if_eq at_331 (pc1 := 334) rfl (by decide) (pc2 := 338) (by decide) (a := 1) rfl (fun c331 => ?_) (fun c331 => ?_)
                    · exfalso; omega
                    · refine K.iconst at_334 (pc' := 335) rfl (z := 1) rfl ?_
                      refine K.goto at_335 (by decide) (pc' := 339) (by decide) ?_
                      exact K.retz at_339 (Or.inr rfl) (by decide) (by decide) rfl
      · refine K.aloadN at_243 (pc' := 244) rfl rfl rfl ?_
        refine K.iload at_244 (pc' := 246) rfl rfl ?_
        refine K.iald at_246 (pc' := 247) rfl f_218 (i := 6) rfl rfl ?_
        refine K.istore at_247 (pc' := 249) rfl (L' := #[.val (.int c), .val (.int k), .val (.int d), .val (.ref a_1), .val (.ref a_103), .val (.int (1 : Int32)), .val (.int (6 : Int32)), .val (.int (248 : Int32)), .unset, .unset, .unset]) rfl ?_
        refine K.aload at_249 (pc' := 251) rfl rfl rfl ?_
        refine K.iload at_251 (pc' := 253) rfl rfl ?_
        refine K.iald at_253 (pc' := 254) rfl A_221 (i := 6) rfl rfl ?_
        refine K.istore at_254 (pc' := 256) rfl (L' := #[.val (.int c), .val (.int k), .val (.int d), .val (.ref a_1), .val (.ref a_103), .val (.int (1 : Int32)), .val (.int (6 : Int32)), .val (.int (248 : Int32)), .val (.int (767 : Int32)), .unset, .unset]) rfl ?_
        refine K.iload at_256 (pc' := 258) rfl rfl ?_
        refine K.iloadN at_258 (pc' := 259) rfl rfl ?_
        refine K.ldcI at_259 (pc' := 261) rfl (hw _ (List.mem_of_getElem? (i := 19) rfl)) ?_
        obtain ⟨z261, e_z261⟩ : ∃ z, d &&& (2147483647 : Int32) = z := ⟨_, rfl⟩
        have r_z261 : z261.toInt = d.toInt % 2147483648 := by have q := c_mask d (2147483647 : Int32) 31 (by decide) (by decide); rw [e_z261] at q; exact q
        refine K.iand at_261 (pc' := 262) rfl e_z261 ?_
        refine K.iload at_262 (pc' := 264) rfl rfl ?_
        refine K.iload at_264 (pc' := 266) rfl rfl ?_
        refine K.isub at_266 (pc' := 267) rfl (z := (519 : Int32)) (by decide) ?_
        refine K.iconst at_267 (pc' := 268) rfl (z := 1) rfl ?_
        refine K.iadd at_268 (pc' := 269) rfl (z := (520 : Int32)) (by decide) ?_
        obtain ⟨z269, e_z269⟩ : ∃ z, z261 % (520 : Int32) = z := ⟨_, rfl⟩
        have r_z269 : (0 ≤ z261.toInt → z269.toInt = z261.toInt % 520) ∧ (z261.toInt < 0 → z269.toInt = -((-z261.toInt) % 520)) := by have q := c_irem z261 (520 : Int32) 520 rfl; rw [e_z269] at q; exact q
        refine K.irem at_269 (pc' := 270) rfl (by decide) e_z269 ?_
        obtain ⟨ins, e_ins⟩ : ∃ z, (248 : Int32) + z269 = z := ⟨_, rfl⟩
        have r_ins : (ins.toInt - (248 + z269.toInt)) % 4294967296 = 0 := by have q := c_iadd (248 : Int32) z269; rw [e_ins] at q; exact q
        have g_ins := rng32 ins
        have t_ins : ins.toInt = 248 + z269.toInt := by omega
        clear r_ins
        clear g_ins
        refine K.iadd at_270 (pc' := 271) rfl e_ins ?_
        refine K.istore at_271 (pc' := 273) rfl (L' := #[.val (.int c), .val (.int k), .val (.int d), .val (.ref a_1), .val (.ref a_103), .val (.int (1 : Int32)), .val (.int (6 : Int32)), .val (.int (248 : Int32)), .val (.int (767 : Int32)), .val (.int ins), .unset]) rfl ?_
        refine K.iload at_273 (pc' := 275) rfl rfl ?_
        refine K.calls (argsL := [(.int (248 : Int32))]) (rest := []) at_275 (pc' := 278) rfl (c_ns l Z a0 hw n0 h_215 (p := (248 : Int32)) ) (hw _ (List.mem_of_getElem? (i := 8) rfl)) (hw _ (List.mem_of_getElem? (i := 9) rfl)) (hw _ (List.mem_of_getElem? (i := 10) rfl)) (hw _ (List.mem_of_getElem? (i := 11) rfl)) (by decide) pd_1 rfl rfl (W := 0) (by simp [Value.category]) (by decide) (by decide) (by decide) (by decide) (fun v_352 h_350 q_351 => ?_)
        obtain ⟨rfl, rfl⟩ := q_351
        show G h_215 2 32 (mkF m 278 #[.val (.int c), .val (.int k), .val (.int d), .val (.ref a_1), .val (.ref a_103), .val (.int (1 : Int32)), .val (.int (6 : Int32)), .val (.int (248 : Int32)), .val (.int (767 : Int32)), .val (.int ins), .unset] [(.int (b2 (248 = 58 ∨ (65 ≤ 248 ∧ 248 ≤ 90) ∨ 248 = 95 ∨ (97 ≤ 248 ∧ 248 ≤ 122) ∨ (192 ≤ 248 ∧ 248 ≤ 214) ∨ (216 ≤ 248 ∧ 248 ≤ 246) ∨ (248 ≤ 248 ∧ 248 ≤ 767) ∨ (880 ≤ 248 ∧ 248 ≤ 893) ∨ (895 ≤ 248 ∧ 248 ≤ 8191) ∨ (8204 ≤ 248 ∧ 248 ≤ 8205) ∨ (8304 ≤ 248 ∧ 248 ≤ 8591) ∨ (11264 ≤ 248 ∧ 248 ≤ 12271) ∨ (12289 ≤ 248 ∧ 248 ≤ 55295) ∨ (63744 ≤ 248 ∧ 248 ≤ 64975) ∨ (65008 ≤ 248 ∧ 248 ≤ 65533) ∨ (65536 ≤ 248 ∧ 248 ≤ 983039))))])
        refine K.ifeqB at_278 (pc1 := 281) rfl (by decide) (pc2 := 321) (by decide) (fun c278 => ?_) (fun c278 => ?_)
        · exfalso; omega
        · refine K.iload at_281 (pc' := 283) rfl rfl ?_
          refine K.calls (argsL := [(.int (767 : Int32))]) (rest := []) at_283 (pc' := 286) rfl (c_ns l Z a0 hw n0 h_215 (p := (767 : Int32)) ) (hw _ (List.mem_of_getElem? (i := 8) rfl)) (hw _ (List.mem_of_getElem? (i := 9) rfl)) (hw _ (List.mem_of_getElem? (i := 10) rfl)) (hw _ (List.mem_of_getElem? (i := 11) rfl)) (by decide) pd_1 rfl rfl (W := 0) (by simp [Value.category]) (by decide) (by decide) (by decide) (by decide) (fun v_356 h_354 q_355 => ?_)
          obtain ⟨rfl, rfl⟩ := q_355
          show G h_215 2 32 (mkF m 286 #[.val (.int c), .val (.int k), .val (.int d), .val (.ref a_1), .val (.ref a_103), .val (.int (1 : Int32)), .val (.int (6 : Int32)), .val (.int (248 : Int32)), .val (.int (767 : Int32)), .val (.int ins), .unset] [(.int (b2 (767 = 58 ∨ (65 ≤ 767 ∧ 767 ≤ 90) ∨ 767 = 95 ∨ (97 ≤ 767 ∧ 767 ≤ 122) ∨ (192 ≤ 767 ∧ 767 ≤ 214) ∨ (216 ≤ 767 ∧ 767 ≤ 246) ∨ (248 ≤ 767 ∧ 767 ≤ 767) ∨ (880 ≤ 767 ∧ 767 ≤ 893) ∨ (895 ≤ 767 ∧ 767 ≤ 8191) ∨ (8204 ≤ 767 ∧ 767 ≤ 8205) ∨ (8304 ≤ 767 ∧ 767 ≤ 8591) ∨ (11264 ≤ 767 ∧ 767 ≤ 12271) ∨ (12289 ≤ 767 ∧ 767 ≤ 55295) ∨ (63744 ≤ 767 ∧ 767 ≤ 64975) ∨ (65008 ≤ 767 ∧ 767 ≤ 65533) ∨ (65536 ≤ 767 ∧ 767 ≤ 983039))))])
          refine K.ifeqB at_286 (pc1 := 289) rfl (by decide) (pc2 := 321) (by decide) (fun c286 => ?_) (fun c286 => ?_)
          · exfalso; omega
          · refine K.iload at_289 (pc' := 291) rfl rfl ?_
            refine K.calls (argsL := [(.int ins)]) (rest := []) at_291 (pc' := 294) rfl (c_ns l Z a0 hw n0 h_215 (p := ins) ) (hw _ (List.mem_of_getElem? (i := 8) rfl)) (hw _ (List.mem_of_getElem? (i := 9) rfl)) (hw _ (List.mem_of_getElem? (i := 10) rfl)) (hw _ (List.mem_of_getElem? (i := 11) rfl)) (by decide) pd_1 rfl rfl (W := 0) (by simp [Value.category]) (by decide) (by decide) (by decide) (by decide) (fun v_360 h_358 q_359 => ?_)
            obtain ⟨rfl, rfl⟩ := q_359
            show G h_215 2 32 (mkF m 294 #[.val (.int c), .val (.int k), .val (.int d), .val (.ref a_1), .val (.ref a_103), .val (.int (1 : Int32)), .val (.int (6 : Int32)), .val (.int (248 : Int32)), .val (.int (767 : Int32)), .val (.int ins), .unset] [(.int (b2 (ins.toInt = 58 ∨ (65 ≤ ins.toInt ∧ ins.toInt ≤ 90) ∨ ins.toInt = 95 ∨ (97 ≤ ins.toInt ∧ ins.toInt ≤ 122) ∨ (192 ≤ ins.toInt ∧ ins.toInt ≤ 214) ∨ (216 ≤ ins.toInt ∧ ins.toInt ≤ 246) ∨ (248 ≤ ins.toInt ∧ ins.toInt ≤ 767) ∨ (880 ≤ ins.toInt ∧ ins.toInt ≤ 893) ∨ (895 ≤ ins.toInt ∧ ins.toInt ≤ 8191) ∨ (8204 ≤ ins.toInt ∧ ins.toInt ≤ 8205) ∨ (8304 ≤ ins.toInt ∧ ins.toInt ≤ 8591) ∨ (11264 ≤ ins.toInt ∧ ins.toInt ≤ 12271) ∨ (12289 ≤ ins.toInt ∧ ins.toInt ≤ 55295) ∨ (63744 ≤ ins.toInt ∧ ins.toInt ≤ 64975) ∨ (65008 ≤ ins.toInt ∧ ins.toInt ≤ 65533) ∨ (65536 ≤ ins.toInt ∧ ins.toInt ≤ 983039))))])
            refine K.ifeqB at_294 (pc1 := 297) rfl (by decide) (pc2 := 321) (by decide) (fun c294 => ?_) (fun c294 => ?_)
            · exfalso; omega
            · refine K.iload at_297 (pc' := 299) rfl rfl ?_
              refine K.iconst at_299 (pc' := 300) rfl (z := 1) rfl ?_
              refine K.isub at_300 (pc' := 301) rfl (z := (247 : Int32)) (by decide) ?_
              refine K.calls (argsL := [(.int (247 : Int32))]) (rest := []) at_301 (pc' := 304) rfl (c_ns l Z a0 hw n0 h_215 (p := (247 : Int32)) ) (hw _ (List.mem_of_getElem? (i := 8) rfl)) (hw _ (List.mem_of_getElem? (i := 9) rfl)) (hw _ (List.mem_of_getElem? (i := 10) rfl)) (hw _ (List.mem_of_getElem? (i := 11) rfl)) (by decide) pd_1 rfl rfl (W := 0) (by simp [Value.category]) (by decide) (by decide) (by decide) (by decide) (fun v_364 h_362 q_363 => ?_)
              obtain ⟨rfl, rfl⟩ := q_363
              show G h_215 2 32 (mkF m 304 #[.val (.int c), .val (.int k), .val (.int d), .val (.ref a_1), .val (.ref a_103), .val (.int (1 : Int32)), .val (.int (6 : Int32)), .val (.int (248 : Int32)), .val (.int (767 : Int32)), .val (.int ins), .unset] [(.int (b2 (247 = 58 ∨ (65 ≤ 247 ∧ 247 ≤ 90) ∨ 247 = 95 ∨ (97 ≤ 247 ∧ 247 ≤ 122) ∨ (192 ≤ 247 ∧ 247 ≤ 214) ∨ (216 ≤ 247 ∧ 247 ≤ 246) ∨ (248 ≤ 247 ∧ 247 ≤ 767) ∨ (880 ≤ 247 ∧ 247 ≤ 893) ∨ (895 ≤ 247 ∧ 247 ≤ 8191) ∨ (8204 ≤ 247 ∧ 247 ≤ 8205) ∨ (8304 ≤ 247 ∧ 247 ≤ 8591) ∨ (11264 ≤ 247 ∧ 247 ≤ 12271) ∨ (12289 ≤ 247 ∧ 247 ≤ 55295) ∨ (63744 ≤ 247 ∧ 247 ≤ 64975) ∨ (65008 ≤ 247 ∧ 247 ≤ 65533) ∨ (65536 ≤ 247 ∧ 247 ≤ 983039))))])
              refine K.ifneB at_304 (pc1 := 307) rfl (by decide) (pc2 := 321) (by decide) (fun c304 => ?_) (fun c304 => ?_)
              · exfalso; omega
              · refine K.iload at_307 (pc' := 309) rfl rfl ?_
                refine K.iconst at_309 (pc' := 310) rfl (z := 1) rfl ?_
                refine K.iadd at_310 (pc' := 311) rfl (z := (768 : Int32)) (by decide) ?_
                refine K.calls (argsL := [(.int (768 : Int32))]) (rest := []) at_311 (pc' := 314) rfl (c_ns l Z a0 hw n0 h_215 (p := (768 : Int32)) ) (hw _ (List.mem_of_getElem? (i := 8) rfl)) (hw _ (List.mem_of_getElem? (i := 9) rfl)) (hw _ (List.mem_of_getElem? (i := 10) rfl)) (hw _ (List.mem_of_getElem? (i := 11) rfl)) (by decide) pd_1 rfl rfl (W := 0) (by simp [Value.category]) (by decide) (by decide) (by decide) (by decide) (fun v_368 h_366 q_367 => ?_)
                obtain ⟨rfl, rfl⟩ := q_367
                show G h_215 2 32 (mkF m 314 #[.val (.int c), .val (.int k), .val (.int d), .val (.ref a_1), .val (.ref a_103), .val (.int (1 : Int32)), .val (.int (6 : Int32)), .val (.int (248 : Int32)), .val (.int (767 : Int32)), .val (.int ins), .unset] [(.int (b2 (768 = 58 ∨ (65 ≤ 768 ∧ 768 ≤ 90) ∨ 768 = 95 ∨ (97 ≤ 768 ∧ 768 ≤ 122) ∨ (192 ≤ 768 ∧ 768 ≤ 214) ∨ (216 ≤ 768 ∧ 768 ≤ 246) ∨ (248 ≤ 768 ∧ 768 ≤ 767) ∨ (880 ≤ 768 ∧ 768 ≤ 893) ∨ (895 ≤ 768 ∧ 768 ≤ 8191) ∨ (8204 ≤ 768 ∧ 768 ≤ 8205) ∨ (8304 ≤ 768 ∧ 768 ≤ 8591) ∨ (11264 ≤ 768 ∧ 768 ≤ 12271) ∨ (12289 ≤ 768 ∧ 768 ≤ 55295) ∨ (63744 ≤ 768 ∧ 768 ≤ 64975) ∨ (65008 ≤ 768 ∧ 768 ≤ 65533) ∨ (65536 ≤ 768 ∧ 768 ≤ 983039))))])
                refine K.ifneB at_314 (pc1 := 317) rfl (by decide) (pc2 := 321) (by decide) (fun c314 => ?_) (fun c314 => ?_)
                · exfalso; omega
                · refine K.iconst at_317 (pc' := 318) rfl (z := 1) rfl ?_
                  refine K.goto at_318 (by decide) (pc' := 322) (by decide) ?_
                  refine K.istore at_322 (pc' := 324) rfl (L' := #[.val (.int c), .val (.int k), .val (.int d), .val (.ref a_1), .val (.ref a_103), .val (.int (1 : Int32)), .val (.int (6 : Int32)), .val (.int (248 : Int32)), .val (.int (767 : Int32)), .val (.int ins), .val (.int (1 : Int32))]) rfl ?_
                  refine K.iload at_324 (pc' := 326) rfl rfl ?_
                  refine K.if_eq at_326 (pc1 := 329) rfl (by decide) (pc2 := 338) (by decide) (a := 1) rfl (fun c326 => ?_) (fun c326 => ?_)
                  · exfalso; omega
                  · refine K.iload at_329 (pc' := 331) rfl rfl ?_
                    refine K.if_eq at_331 (pc1 := 334) rfl (by decide) (pc2 := 338) (by decide) (a := 1) rfl (fun c331 => ?_) (fun c331 => ?_)
                    · exfalso; omega
                    · refine K.iconst at_334 (pc' := 335) rfl (z := 1) rfl ?_
                      refine K.goto at_335 (by decide) (pc' := 339) (by decide) ?_
                      exact K.retz at_339 (Or.inr rfl) (by decide) (by decide) rfl
      · refine K.aloadN at_243 (pc' := 244) rfl rfl rfl ?_
        refine K.iload at_244 (pc' := 246) rfl rfl ?_
        refine K.iald at_246 (pc' := 247) rfl f_218 (i := 7) rfl rfl ?_
        refine K.istore at_247 (pc' := 249) rfl (L' := #[.val (.int c), .val (.int k), .val (.int d), .val (.ref a_1), .val (.ref a_103), .val (.int (1 : Int32)), .val (.int (7 : Int32)), .val (.int (880 : Int32)), .unset, .unset, .unset]) rfl ?_
        refine K.aload at_249 (pc' := 251) rfl rfl rfl ?_
        refine K.iload at_251 (pc' := 253) rfl rfl ?_
        refine K.iald at_253 (pc' := 254) rfl A_221 (i := 7) rfl rfl ?_
        refine K.istore at_254 (pc' := 256) rfl (L' := #[.val (.int c), .val (.int k), .val (.int d), .val (.ref a_1), .val (.ref a_103), .val (.int (1 : Int32)), .val (.int (7 : Int32)), .val (.int (880 : Int32)), .val (.int (893 : Int32)), .unset, .unset]) rfl ?_
        refine K.iload at_256 (pc' := 258) rfl rfl ?_
        refine K.iloadN at_258 (pc' := 259) rfl rfl ?_
        refine K.ldcI at_259 (pc' := 261) rfl (hw _ (List.mem_of_getElem? (i := 19) rfl)) ?_
        obtain ⟨z261, e_z261⟩ : ∃ z, d &&& (2147483647 : Int32) = z := ⟨_, rfl⟩
        have r_z261 : z261.toInt = d.toInt % 2147483648 := by have q := c_mask d (2147483647 : Int32) 31 (by decide) (by decide); rw [e_z261] at q; exact q
        refine K.iand at_261 (pc' := 262) rfl e_z261 ?_
        refine K.iload at_262 (pc' := 264) rfl rfl ?_
        refine K.iload at_264 (pc' := 266) rfl rfl ?_
        refine K.isub at_266 (pc' := 267) rfl (z := (13 : Int32)) (by decide) ?_
        refine K.iconst at_267 (pc' := 268) rfl (z := 1) rfl ?_
        refine K.iadd at_268 (pc' := 269) rfl (z := (14 : Int32)) (by decide) ?_
        obtain ⟨z269, e_z269⟩ : ∃ z, z261 % (14 : Int32) = z := ⟨_, rfl⟩
        have r_z269 : (0 ≤ z261.toInt → z269.toInt = z261.toInt % 14) ∧ (z261.toInt < 0 → z269.toInt = -((-z261.toInt) % 14)) := by have q := c_irem z261 (14 : Int32) 14 rfl; rw [e_z269] at q; exact q
        refine K.irem at_269 (pc' := 270) rfl (by decide) e_z269 ?_
        obtain ⟨ins, e_ins⟩ : ∃ z, (880 : Int32) + z269 = z := ⟨_, rfl⟩
        have r_ins : (ins.toInt - (880 + z269.toInt)) % 4294967296 = 0 := by have q := c_iadd (880 : Int32) z269; rw [e_ins] at q; exact q
        have g_ins := rng32 ins
        have t_ins : ins.toInt = 880 + z269.toInt := by omega
        clear r_ins
        clear g_ins
        refine K.iadd at_270 (pc' := 271) rfl e_ins ?_
        refine K.istore at_271 (pc' := 273) rfl (L' := #[.val (.int c), .val (.int k), .val (.int d), .val (.ref a_1), .val (.ref a_103), .val (.int (1 : Int32)), .val (.int (7 : Int32)), .val (.int (880 : Int32)), .val (.int (893 : Int32)), .val (.int ins), .unset]) rfl ?_
        refine K.iload at_273 (pc' := 275) rfl rfl ?_
        refine K.calls (argsL := [(.int (880 : Int32))]) (rest := []) at_275 (pc' := 278) rfl (c_ns l Z a0 hw n0 h_215 (p := (880 : Int32)) ) (hw _ (List.mem_of_getElem? (i := 8) rfl)) (hw _ (List.mem_of_getElem? (i := 9) rfl)) (hw _ (List.mem_of_getElem? (i := 10) rfl)) (hw _ (List.mem_of_getElem? (i := 11) rfl)) (by decide) pd_1 rfl rfl (W := 0) (by simp [Value.category]) (by decide) (by decide) (by decide) (by decide) (fun v_372 h_370 q_371 => ?_)
        obtain ⟨rfl, rfl⟩ := q_371
        show G h_215 2 32 (mkF m 278 #[.val (.int c), .val (.int k), .val (.int d), .val (.ref a_1), .val (.ref a_103), .val (.int (1 : Int32)), .val (.int (7 : Int32)), .val (.int (880 : Int32)), .val (.int (893 : Int32)), .val (.int ins), .unset] [(.int (b2 (880 = 58 ∨ (65 ≤ 880 ∧ 880 ≤ 90) ∨ 880 = 95 ∨ (97 ≤ 880 ∧ 880 ≤ 122) ∨ (192 ≤ 880 ∧ 880 ≤ 214) ∨ (216 ≤ 880 ∧ 880 ≤ 246) ∨ (248 ≤ 880 ∧ 880 ≤ 767) ∨ (880 ≤ 880 ∧ 880 ≤ 893) ∨ (895 ≤ 880 ∧ 880 ≤ 8191) ∨ (8204 ≤ 880 ∧ 880 ≤ 8205) ∨ (8304 ≤ 880 ∧ 880 ≤ 8591) ∨ (11264 ≤ 880 ∧ 880 ≤ 12271) ∨ (12289 ≤ 880 ∧ 880 ≤ 55295) ∨ (63744 ≤ 880 ∧ 880 ≤ 64975) ∨ (65008 ≤ 880 ∧ 880 ≤ 65533) ∨ (65536 ≤ 880 ∧ 880 ≤ 983039))))])
        refine K.ifeqB at_278 (pc1 := 281) rfl (by decide) (pc2 := 321) (by decide) (fun c278 => ?_) (fun c278 => ?_)
        · exfalso; omega
        · refine K.iload at_281 (pc' := 283) rfl rfl ?_
          refine K.calls (argsL := [(.int (893 : Int32))]) (rest := []) at_283 (pc' := 286) rfl (c_ns l Z a0 hw n0 h_215 (p := (893 : Int32)) ) (hw _ (List.mem_of_getElem? (i := 8) rfl)) (hw _ (List.mem_of_getElem? (i := 9) rfl)) (hw _ (List.mem_of_getElem? (i := 10) rfl)) (hw _ (List.mem_of_getElem? (i := 11) rfl)) (by decide) pd_1 rfl rfl (W := 0) (by simp [Value.category]) (by decide) (by decide) (by decide) (by decide) (fun v_376 h_374 q_375 => ?_)
          obtain ⟨rfl, rfl⟩ := q_375
          show G h_215 2 32 (mkF m 286 #[.val (.int c), .val (.int k), .val (.int d), .val (.ref a_1), .val (.ref a_103), .val (.int (1 : Int32)), .val (.int (7 : Int32)), .val (.int (880 : Int32)), .val (.int (893 : Int32)), .val (.int ins), .unset] [(.int (b2 (893 = 58 ∨ (65 ≤ 893 ∧ 893 ≤ 90) ∨ 893 = 95 ∨ (97 ≤ 893 ∧ 893 ≤ 122) ∨ (192 ≤ 893 ∧ 893 ≤ 214) ∨ (216 ≤ 893 ∧ 893 ≤ 246) ∨ (248 ≤ 893 ∧ 893 ≤ 767) ∨ (880 ≤ 893 ∧ 893 ≤ 893) ∨ (895 ≤ 893 ∧ 893 ≤ 8191) ∨ (8204 ≤ 893 ∧ 893 ≤ 8205) ∨ (8304 ≤ 893 ∧ 893 ≤ 8591) ∨ (11264 ≤ 893 ∧ 893 ≤ 12271) ∨ (12289 ≤ 893 ∧ 893 ≤ 55295) ∨ (63744 ≤ 893 ∧ 893 ≤ 64975) ∨ (65008 ≤ 893 ∧ 893 ≤ 65533) ∨ (65536 ≤ 893 ∧ 893 ≤ 983039))))])
          refine K.ifeqB at_286 (pc1 := 289) rfl (by decide) (pc2 := 321) (by decide) (fun c286 => ?_) (fun c286 => ?_)
          · exfalso; omega
          · refine K.iload at_289 (pc' := 291) rfl rfl ?_
            refine K.calls (argsL := [(.int ins)]) (rest := []) at_291 (pc' := 294) rfl (c_ns l Z a0 hw n0 h_215 (p := ins) ) (hw _ (List.mem_of_getElem? (i := 8) rfl)) (hw _ (List.mem_of_getElem? (i := 9) rfl)) (hw _ (List.mem_of_getElem? (i := 10) rfl)) (hw _ (List.mem_of_getElem? (i := 11) rfl)) (by decide) pd_1 rfl rfl (W := 0) (by simp [Value.category]) (by decide) (by decide) (by decide) (by decide) (fun v_380 h_378 q_379 => ?_)
            obtain ⟨rfl, rfl⟩ := q_379
            show G h_215 2 32 (mkF m 294 #[.val (.int c), .val (.int k), .val (.int d), .val (.ref a_1), .val (.ref a_103), .val (.int (1 : Int32)), .val (.int (7 : Int32)), .val (.int (880 : Int32)), .val (.int (893 : Int32)), .val (.int ins), .unset] [(.int (b2 (ins.toInt = 58 ∨ (65 ≤ ins.toInt ∧ ins.toInt ≤ 90) ∨ ins.toInt = 95 ∨ (97 ≤ ins.toInt ∧ ins.toInt ≤ 122) ∨ (192 ≤ ins.toInt ∧ ins.toInt ≤ 214) ∨ (216 ≤ ins.toInt ∧ ins.toInt ≤ 246) ∨ (248 ≤ ins.toInt ∧ ins.toInt ≤ 767) ∨ (880 ≤ ins.toInt ∧ ins.toInt ≤ 893) ∨ (895 ≤ ins.toInt ∧ ins.toInt ≤ 8191) ∨ (8204 ≤ ins.toInt ∧ ins.toInt ≤ 8205) ∨ (8304 ≤ ins.toInt ∧ ins.toInt ≤ 8591) ∨ (11264 ≤ ins.toInt ∧ ins.toInt ≤ 12271) ∨ (12289 ≤ ins.toInt ∧ ins.toInt ≤ 55295) ∨ (63744 ≤ ins.toInt ∧ ins.toInt ≤ 64975) ∨ (65008 ≤ ins.toInt ∧ ins.toInt ≤ 65533) ∨ (65536 ≤ ins.toInt ∧ ins.toInt ≤ 983039))))])
            refine K.ifeqB at_294 (pc1 := 297) rfl (by decide) (pc2 := 321) (by decide) (fun c294 => ?_) (fun c294 => ?_)
            · exfalso; omega
            · refine K.iload at_297 (pc' := 299) rfl rfl ?_
              refine K.iconst at_299 (pc' := 300) rfl (z := 1) rfl ?_
              refine K.isub at_300 (pc' := 301) rfl (z := (879 : Int32)) (by decide) ?_
              refine K.calls (argsL := [(.int (879 : Int32))]) (rest := []) at_301 (pc' := 304) rfl (c_ns l Z a0 hw n0 h_215 (p := (879 : Int32)) ) (hw _ (List.mem_of_getElem? (i := 8) rfl)) (hw _ (List.mem_of_getElem? (i := 9) rfl)) (hw _ (List.mem_of_getElem? (i := 10) rfl)) (hw _ (List.mem_of_getElem? (i := 11) rfl)) (by decide) pd_1 rfl rfl (W := 0) (by simp [Value.category]) (by decide) (by decide) (by decide) (by decide) (fun v_384 h_382 q_383 => ?_)
              obtain ⟨rfl, rfl⟩ := q_383
              show G h_215 2 32 (mkF m 304 #[.val (.int c), .val (.int k), .val (.int d), .val (.ref a_1), .val (.ref a_103), .val (.int (1 : Int32)), .val (.int (7 : Int32)), .val (.int (880 : Int32)), .val (.int (893 : Int32)), .val (.int ins), .unset] [(.int (b2 (879 = 58 ∨ (65 ≤ 879 ∧ 879 ≤ 90) ∨ 879 = 95 ∨ (97 ≤ 879 ∧ 879 ≤ 122) ∨ (192 ≤ 879 ∧ 879 ≤ 214) ∨ (216 ≤ 879 ∧ 879 ≤ 246) ∨ (248 ≤ 879 ∧ 879 ≤ 767) ∨ (880 ≤ 879 ∧ 879 ≤ 893) ∨ (895 ≤ 879 ∧ 879 ≤ 8191) ∨ (8204 ≤ 879 ∧ 879 ≤ 8205) ∨ (8304 ≤ 879 ∧ 879 ≤ 8591) ∨ (11264 ≤ 879 ∧ 879 ≤ 12271) ∨ (12289 ≤ 879 ∧ 879 ≤ 55295) ∨ (63744 ≤ 879 ∧ 879 ≤ 64975) ∨ (65008 ≤ 879 ∧ 879 ≤ 65533) ∨ (65536 ≤ 879 ∧ 879 ≤ 983039))))])
              refine K.ifneB at_304 (pc1 := 307) rfl (by decide) (pc2 := 321) (by decide) (fun c304 => ?_) (fun c304 => ?_)
              · exfalso; omega
              · refine K.iload at_307 (pc' := 309) rfl rfl ?_
                refine K.iconst at_309 (pc' := 310) rfl (z := 1) rfl ?_
                refine K.iadd at_310 (pc' := 311) rfl (z := (894 : Int32)) (by decide) ?_
                refine K.calls (argsL := [(.int (894 : Int32))]) (rest := []) at_311 (pc' := 314) rfl (c_ns l Z a0 hw n0 h_215 (p := (894 : Int32)) ) (hw _ (List.mem_of_getElem? (i := 8) rfl)) (hw _ (List.mem_of_getElem? (i := 9) rfl)) (hw _ (List.mem_of_getElem? (i := 10) rfl)) (hw _ (List.mem_of_getElem? (i := 11) rfl)) (by decide) pd_1 rfl rfl (W := 0) (by simp [Value.category]) (by decide) (by decide) (by decide) (by decide) (fun v_388 h_386 q_387 => ?_)
                obtain ⟨rfl, rfl⟩ := q_387
                show G h_215 2 32 (mkF m 314 #[.val (.int c), .val (.int k), .val (.int d), .val (.ref a_1), .val (.ref a_103), .val (.int (1 : Int32)), .val (.int (7 : Int32)), .val (.int (880 : Int32)), .val (.int (893 : Int32)), .val (.int ins), .unset] [(.int (b2 (894 = 58 ∨ (65 ≤ 894 ∧ 894 ≤ 90) ∨ 894 = 95 ∨ (97 ≤ 894 ∧ 894 ≤ 122) ∨ (192 ≤ 894 ∧ 894 ≤ 214) ∨ (216 ≤ 894 ∧ 894 ≤ 246) ∨ (248 ≤ 894 ∧ 894 ≤ 767) ∨ (880 ≤ 894 ∧ 894 ≤ 893) ∨ (895 ≤ 894 ∧ 894 ≤ 8191) ∨ (8204 ≤ 894 ∧ 894 ≤ 8205) ∨ (8304 ≤ 894 ∧ 894 ≤ 8591) ∨ (11264 ≤ 894 ∧ 894 ≤ 12271) ∨ (12289 ≤ 894 ∧ 894 ≤ 55295) ∨ (63744 ≤ 894 ∧ 894 ≤ 64975) ∨ (65008 ≤ 894 ∧ 894 ≤ 65533) ∨ (65536 ≤ 894 ∧ 894 ≤ 983039))))])
                refine K.ifneB at_314 (pc1 := 317) rfl (by decide) (pc2 := 321) (by decide) (fun c314 => ?_) (fun c314 => ?_)
                · exfalso; omega
                · refine K.iconst at_317 (pc' := 318) rfl (z := 1) rfl ?_
                  refine K.goto at_318 (by decide) (pc' := 322) (by decide) ?_
                  refine K.istore at_322 (pc' := 324) rfl (L' := #[.val (.int c), .val (.int k), .val (.int d), .val (.ref a_1), .val (.ref a_103), .val (.int (1 : Int32)), .val (.int (7 : Int32)), .val (.int (880 : Int32)), .val (.int (893 : Int32)), .val (.int ins), .val (.int (1 : Int32))]) rfl ?_
                  refine K.iload at_324 (pc' := 326) rfl rfl ?_
                  refine K.if_eq at_326 (pc1 := 329) rfl (by decide) (pc2 := 338) (by decide) (a := 1) rfl (fun c326 => ?_) (fun c326 => ?_)
                  · exfalso; omega
                  · refine K.iload at_329 (pc' := 331) rfl rfl ?_
                    refine K.if_eq at_331 (pc1 := 334) rfl (by decide) (pc2 := 338) (by decide) (a := 1) rfl (fun c331 => ?_) (fun c331 => ?_)
                    · exfalso; omega
                    · refine K.iconst at_334 (pc' := 335) rfl (z := 1) rfl ?_
                      refine K.goto at_335 (by decide) (pc' := 339) (by decide) ?_
                      exact K.retz at_339 (Or.inr rfl) (by decide) (by decide) rfl
      · refine K.aloadN at_243 (pc' := 244) rfl rfl rfl ?_
        refine K.iload at_244 (pc' := 246) rfl rfl ?_
        refine K.iald at_246 (pc' := 247) rfl f_218 (i := 8) rfl rfl ?_
        refine K.istore at_247 (pc' := 249) rfl (L' := #[.val (.int c), .val (.int k), .val (.int d), .val (.ref a_1), .val (.ref a_103), .val (.int (1 : Int32)), .val (.int (8 : Int32)), .val (.int (895 : Int32)), .unset, .unset, .unset]) rfl ?_
        refine K.aload at_249 (pc' := 251) rfl rfl rfl ?_
        refine K.iload at_251 (pc' := 253) rfl rfl ?_
        refine K.iald at_253 (pc' := 254) rfl A_221 (i := 8) rfl rfl ?_
        refine K.istore at_254 (pc' := 256) rfl (L' := #[.val (.int c), .val (.int k), .val (.int d), .val (.ref a_1), .val (.ref a_103), .val (.int (1 : Int32)), .val (.int (8 : Int32)), .val (.int (895 : Int32)), .val (.int (8191 : Int32)), .unset, .unset]) rfl ?_
        refine K.iload at_256 (pc' := 258) rfl rfl ?_
        refine K.iloadN at_258 (pc' := 259) rfl rfl ?_
        refine K.ldcI at_259 (pc' := 261) rfl (hw _ (List.mem_of_getElem? (i := 19) rfl)) ?_
        obtain ⟨z261, e_z261⟩ : ∃ z, d &&& (2147483647 : Int32) = z := ⟨_, rfl⟩
        have r_z261 : z261.toInt = d.toInt % 2147483648 := by have q := c_mask d (2147483647 : Int32) 31 (by decide) (by decide); rw [e_z261] at q; exact q
        refine K.iand at_261 (pc' := 262) rfl e_z261 ?_
        refine K.iload at_262 (pc' := 264) rfl rfl ?_
        refine K.iload at_264 (pc' := 266) rfl rfl ?_
        refine K.isub at_266 (pc' := 267) rfl (z := (7296 : Int32)) (by decide) ?_
        refine K.iconst at_267 (pc' := 268) rfl (z := 1) rfl ?_
        refine K.iadd at_268 (pc' := 269) rfl (z := (7297 : Int32)) (by decide) ?_
        obtain ⟨z269, e_z269⟩ : ∃ z, z261 % (7297 : Int32) = z := ⟨_, rfl⟩
        have r_z269 : (0 ≤ z261.toInt → z269.toInt = z261.toInt % 7297) ∧ (z261.toInt < 0 → z269.toInt = -((-z261.toInt) % 7297)) := by have q := c_irem z261 (7297 : Int32) 7297 rfl; rw [e_z269] at q; exact q
        refine K.irem at_269 (pc' := 270) rfl (by decide) e_z269 ?_
        obtain ⟨ins, e_ins⟩ : ∃ z, (895 : Int32) + z269 = z := ⟨_, rfl⟩
        have r_ins : (ins.toInt - (895 + z269.toInt)) % 4294967296 = 0 := by have q := c_iadd (895 : Int32) z269; rw [e_ins] at q; exact q
        have g_ins := rng32 ins
        have t_ins : ins.toInt = 895 + z269.toInt := by omega
        clear r_ins
        clear g_ins
        refine K.iadd at_270 (pc' := 271) rfl e_ins ?_
        refine K.istore at_271 (pc' := 273) rfl (L' := #[.val (.int c), .val (.int k), .val (.int d), .val (.ref a_1), .val (.ref a_103), .val (.int (1 : Int32)), .val (.int (8 : Int32)), .val (.int (895 : Int32)), .val (.int (8191 : Int32)), .val (.int ins), .unset]) rfl ?_
        refine K.iload at_273 (pc' := 275) rfl rfl ?_
        refine K.calls (argsL := [(.int (895 : Int32))]) (rest := []) at_275 (pc' := 278) rfl (c_ns l Z a0 hw n0 h_215 (p := (895 : Int32)) ) (hw _ (List.mem_of_getElem? (i := 8) rfl)) (hw _ (List.mem_of_getElem? (i := 9) rfl)) (hw _ (List.mem_of_getElem? (i := 10) rfl)) (hw _ (List.mem_of_getElem? (i := 11) rfl)) (by decide) pd_1 rfl rfl (W := 0) (by simp [Value.category]) (by decide) (by decide) (by decide) (by decide) (fun v_392 h_390 q_391 => ?_)
        obtain ⟨rfl, rfl⟩ := q_391
        show G h_215 2 32 (mkF m 278 #[.val (.int c), .val (.int k), .val (.int d), .val (.ref a_1), .val (.ref a_103), .val (.int (1 : Int32)), .val (.int (8 : Int32)), .val (.int (895 : Int32)), .val (.int (8191 : Int32)), .val (.int ins), .unset] [(.int (b2 (895 = 58 ∨ (65 ≤ 895 ∧ 895 ≤ 90) ∨ 895 = 95 ∨ (97 ≤ 895 ∧ 895 ≤ 122) ∨ (192 ≤ 895 ∧ 895 ≤ 214) ∨ (216 ≤ 895 ∧ 895 ≤ 246) ∨ (248 ≤ 895 ∧ 895 ≤ 767) ∨ (880 ≤ 895 ∧ 895 ≤ 893) ∨ (895 ≤ 895 ∧ 895 ≤ 8191) ∨ (8204 ≤ 895 ∧ 895 ≤ 8205) ∨ (8304 ≤ 895 ∧ 895 ≤ 8591) ∨ (11264 ≤ 895 ∧ 895 ≤ 12271) ∨ (12289 ≤ 895 ∧ 895 ≤ 55295) ∨ (63744 ≤ 895 ∧ 895 ≤ 64975) ∨ (65008 ≤ 895 ∧ 895 ≤ 65533) ∨ (65536 ≤ 895 ∧ 895 ≤ 983039))))])
        refine K.ifeqB at_278 (pc1 := 281) rfl (by decide) (pc2 := 321) (by decide) (fun c278 => ?_) (fun c278 => ?_)
        · exfalso; omega
        · refine K.iload at_281 (pc' := 283) rfl rfl ?_
          refine K.calls (argsL := [(.int (8191 : Int32))]) (rest := []) at_283 (pc' := 286) rfl (c_ns l Z a0 hw n0 h_215 (p := (8191 : Int32)) ) (hw _ (List.mem_of_getElem? (i := 8) rfl)) (hw _ (List.mem_of_getElem? (i := 9) rfl)) (hw _ (List.mem_of_getElem? (i := 10) rfl)) (hw _ (List.mem_of_getElem? (i := 11) rfl)) (by decide) pd_1 rfl rfl (W := 0) (by simp [Value.category]) (by decide) (by decide) (by decide) (by decide) (fun v_396 h_394 q_395 => ?_)
          obtain ⟨rfl, rfl⟩ := q_395
          show G h_215 2 32 (mkF m 286 #[.val (.int c), .val (.int k), .val (.int d), .val (.ref a_1), .val (.ref a_103), .val (.int (1 : Int32)), .val (.int (8 : Int32)), .val (.int (895 : Int32)), .val (.int (8191 : Int32)), .val (.int ins), .unset] [(.int (b2 (8191 = 58 ∨ (65 ≤ 8191 ∧ 8191 ≤ 90) ∨ 8191 = 95 ∨ (97 ≤ 8191 ∧ 8191 ≤ 122) ∨ (192 ≤ 8191 ∧ 8191 ≤ 214) ∨ (216 ≤ 8191 ∧ 8191 ≤ 246) ∨ (248 ≤ 8191 ∧ 8191 ≤ 767) ∨ (880 ≤ 8191 ∧ 8191 ≤ 893) ∨ (895 ≤ 8191 ∧ 8191 ≤ 8191) ∨ (8204 ≤ 8191 ∧ 8191 ≤ 8205) ∨ (8304 ≤ 8191 ∧ 8191 ≤ 8591) ∨ (11264 ≤ 8191 ∧ 8191 ≤ 12271) ∨ (12289 ≤ 8191 ∧ 8191 ≤ 55295) ∨ (63744 ≤ 8191 ∧ 8191 ≤ 64975) ∨ (65008 ≤ 8191 ∧ 8191 ≤ 65533) ∨ (65536 ≤ 8191 ∧ 8191 ≤ 983039))))])
          refine K.ifeqB at_286 (pc1 := 289) rfl (by decide) (pc2 := 321) (by decide) (fun c286 => ?_) (fun c286 => ?_)
          · exfalso; omega
          · refine K.iload at_289 (pc' := 291) rfl rfl ?_
            refine K.calls (argsL := [(.int ins)]) (rest := []) at_291 (pc' := 294) rfl (c_ns l Z a0 hw n0 h_215 (p := ins) ) (hw _ (List.mem_of_getElem? (i := 8) rfl)) (hw _ (List.mem_of_getElem? (i := 9) rfl)) (hw _ (List.mem_of_getElem? (i := 10) rfl)) (hw _ (List.mem_of_getElem? (i := 11) rfl)) (by decide) pd_1 rfl rfl (W := 0) (by simp [Value.category]) (by decide) (by decide) (by decide) (by decide) (fun v_400 h_398 q_399 => ?_)
            obtain ⟨rfl, rfl⟩ := q_399
            show G h_215 2 32 (mkF m 294 #[.val (.int c), .val (.int k), .val (.int d), .val (.ref a_1), .val (.ref a_103), .val (.int (1 : Int32)), .val (.int (8 : Int32)), .val (.int (895 : Int32)), .val (.int (8191 : Int32)), .val (.int ins), .unset] [(.int (b2 (ins.toInt = 58 ∨ (65 ≤ ins.toInt ∧ ins.toInt ≤ 90) ∨ ins.toInt = 95 ∨ (97 ≤ ins.toInt ∧ ins.toInt ≤ 122) ∨ (192 ≤ ins.toInt ∧ ins.toInt ≤ 214) ∨ (216 ≤ ins.toInt ∧ ins.toInt ≤ 246) ∨ (248 ≤ ins.toInt ∧ ins.toInt ≤ 767) ∨ (880 ≤ ins.toInt ∧ ins.toInt ≤ 893) ∨ (895 ≤ ins.toInt ∧ ins.toInt ≤ 8191) ∨ (8204 ≤ ins.toInt ∧ ins.toInt ≤ 8205) ∨ (8304 ≤ ins.toInt ∧ ins.toInt ≤ 8591) ∨ (11264 ≤ ins.toInt ∧ ins.toInt ≤ 12271) ∨ (12289 ≤ ins.toInt ∧ ins.toInt ≤ 55295) ∨ (63744 ≤ ins.toInt ∧ ins.toInt ≤ 64975) ∨ (65008 ≤ ins.toInt ∧ ins.toInt ≤ 65533) ∨ (65536 ≤ ins.toInt ∧ ins.toInt ≤ 983039))))])
            refine K.ifeqB at_294 (pc1 := 297) rfl (by decide) (pc2 := 321) (by decide) (fun c294 => ?_) (fun c294 => ?_)
            · exfalso; omega
            · refine K.iload at_297 (pc' := 299) rfl rfl ?_
              refine K.iconst at_299 (pc' := 300) rfl (z := 1) rfl ?_
              refine K.isub at_300 (pc' := 301) rfl (z := (894 : Int32)) (by decide) ?_
              refine K.calls (argsL := [(.int (894 : Int32))]) (rest := []) at_301 (pc' := 304) rfl (c_ns l Z a0 hw n0 h_215 (p := (894 : Int32)) ) (hw _ (List.mem_of_getElem? (i := 8) rfl)) (hw _ (List.mem_of_getElem? (i := 9) rfl)) (hw _ (List.mem_of_getElem? (i := 10) rfl)) (hw _ (List.mem_of_getElem? (i := 11) rfl)) (by decide) pd_1 rfl rfl (W := 0) (by simp [Value.category]) (by decide) (by decide) (by decide) (by decide) (fun v_404 h_402 q_403 => ?_)
              obtain ⟨rfl, rfl⟩ := q_403
              show G h_215 2 32 (mkF m 304 #[.val (.int c), .val (.int k), .val (.int d), .val (.ref a_1), .val (.ref a_103), .val (.int (1 : Int32)), .val (.int (8 : Int32)), .val (.int (895 : Int32)), .val (.int (8191 : Int32)), .val (.int ins), .unset] [(.int (b2 (894 = 58 ∨ (65 ≤ 894 ∧ 894 ≤ 90) ∨ 894 = 95 ∨ (97 ≤ 894 ∧ 894 ≤ 122) ∨ (192 ≤ 894 ∧ 894 ≤ 214) ∨ (216 ≤ 894 ∧ 894 ≤ 246) ∨ (248 ≤ 894 ∧ 894 ≤ 767) ∨ (880 ≤ 894 ∧ 894 ≤ 893) ∨ (895 ≤ 894 ∧ 894 ≤ 8191) ∨ (8204 ≤ 894 ∧ 894 ≤ 8205) ∨ (8304 ≤ 894 ∧ 894 ≤ 8591) ∨ (11264 ≤ 894 ∧ 894 ≤ 12271) ∨ (12289 ≤ 894 ∧ 894 ≤ 55295) ∨ (63744 ≤ 894 ∧ 894 ≤ 64975) ∨ (65008 ≤ 894 ∧ 894 ≤ 65533) ∨ (65536 ≤ 894 ∧ 894 ≤ 983039))))])
              refine K.ifneB at_304 (pc1 := 307) rfl (by decide) (pc2 := 321) (by decide) (fun c304 => ?_) (fun c304 => ?_)
              · exfalso; omega
              · refine K.iload at_307 (pc' := 309) rfl rfl ?_
                refine K.iconst at_309 (pc' := 310) rfl (z := 1) rfl ?_
                refine K.iadd at_310 (pc' := 311) rfl (z := (8192 : Int32)) (by decide) ?_
                refine K.calls (argsL := [(.int (8192 : Int32))]) (rest := []) at_311 (pc' := 314) rfl (c_ns l Z a0 hw n0 h_215 (p := (8192 : Int32)) ) (hw _ (List.mem_of_getElem? (i := 8) rfl)) (hw _ (List.mem_of_getElem? (i := 9) rfl)) (hw _ (List.mem_of_getElem? (i := 10) rfl)) (hw _ (List.mem_of_getElem? (i := 11) rfl)) (by decide) pd_1 rfl rfl (W := 0) (by simp [Value.category]) (by decide) (by decide) (by decide) (by decide) (fun v_408 h_406 q_407 => ?_)
                obtain ⟨rfl, rfl⟩ := q_407
                show G h_215 2 32 (mkF m 314 #[.val (.int c), .val (.int k), .val (.int d), .val (.ref a_1), .val (.ref a_103), .val (.int (1 : Int32)), .val (.int (8 : Int32)), .val (.int (895 : Int32)), .val (.int (8191 : Int32)), .val (.int ins), .unset] [(.int (b2 (8192 = 58 ∨ (65 ≤ 8192 ∧ 8192 ≤ 90) ∨ 8192 = 95 ∨ (97 ≤ 8192 ∧ 8192 ≤ 122) ∨ (192 ≤ 8192 ∧ 8192 ≤ 214) ∨ (216 ≤ 8192 ∧ 8192 ≤ 246) ∨ (248 ≤ 8192 ∧ 8192 ≤ 767) ∨ (880 ≤ 8192 ∧ 8192 ≤ 893) ∨ (895 ≤ 8192 ∧ 8192 ≤ 8191) ∨ (8204 ≤ 8192 ∧ 8192 ≤ 8205) ∨ (8304 ≤ 8192 ∧ 8192 ≤ 8591) ∨ (11264 ≤ 8192 ∧ 8192 ≤ 12271) ∨ (12289 ≤ 8192 ∧ 8192 ≤ 55295) ∨ (63744 ≤ 8192 ∧ 8192 ≤ 64975) ∨ (65008 ≤ 8192 ∧ 8192 ≤ 65533) ∨ (65536 ≤ 8192 ∧ 8192 ≤ 983039))))])
                refine K.ifneB at_314 (pc1 := 317) rfl (by decide) (pc2 := 321) (by decide) (fun c314 => ?_) (fun c314 => ?_)
                · exfalso; omega
                · refine K.iconst at_317 (pc' := 318) rfl (z := 1) rfl ?_
                  refine K.goto at_318 (by decide) (pc' := 322) (by decide) ?_
                  refine K.istore at_322 (pc' := 324) rfl (L' := #[.val (.int c), .val (.int k), .val (.int d), .val (.ref a_1), .val (.ref a_103), .val (.int (1 : Int32)), .val (.int (8 : Int32)), .val (.int (895 : Int32)), .val (.int (8191 : Int32)), .val (.int ins), .val (.int (1 : Int32))]) rfl ?_
                  refine K.iload at_324 (pc' := 326) rfl rfl ?_
                  refine K.if_eq at_326 (pc1 := 329) rfl (by decide) (pc2 := 338) (by decide) (a := 1) rfl (fun c326 => ?_) (fun c326 => ?_)
                  · exfalso; omega
                  · refine K.iload at_329 (pc' := 331) rfl rfl ?_
                    refine K.if_eq at_331 (pc1 := 334) rfl (by decide) (pc2 := 338) (by decide) (a := 1) rfl (fun c331 => ?_) (fun c331 => ?_)
                    · exfalso; omega
                    · refine K.iconst at_334 (pc' := 335) rfl (z := 1) rfl ?_
                      refine K.goto at_335 (by decide) (pc' := 339) (by decide) ?_
                      exact K.retz at_339 (Or.inr rfl) (by decide) (by decide) rfl
      · refine K.aloadN at_243 (pc' := 244) rfl rfl rfl ?_
        refine K.iload at_244 (pc' := 246) rfl rfl ?_
        refine K.iald at_246 (pc' := 247) rfl f_218 (i := 9) rfl rfl ?_
        refine K.istore at_247 (pc' := 249) rfl (L' := #[.val (.int c), .val (.int k), .val (.int d), .val (.ref a_1), .val (.ref a_103), .val (.int (1 : Int32)), .val (.int (9 : Int32)), .val (.int (8204 : Int32)), .unset, .unset, .unset]) rfl ?_
        refine K.aload at_249 (pc' := 251) rfl rfl rfl ?_
        refine K.iload at_251 (pc' := 253) rfl rfl ?_
        refine K.iald at_253 (pc' := 254) rfl A_221 (i := 9) rfl rfl ?_
        refine K.istore at_254 (pc' := 256) rfl (L' := #[.val (.int c), .val (.int k), .val (.int d), .val (.ref a_1), .val (.ref a_103), .val (.int (1 : Int32)), .val (.int (9 : Int32)), .val (.int (8204 : Int32)), .val (.int (8205 : Int32)), .unset, .unset]) rfl ?_
        refine K.iload at_256 (pc' := 258) rfl rfl ?_
        refine K.iloadN at_258 (pc' := 259) rfl rfl ?_
        refine K.ldcI at_259 (pc' := 261) rfl (hw _ (List.mem_of_getElem? (i := 19) rfl)) ?_
        obtain ⟨z261, e_z261⟩ : ∃ z, d &&& (2147483647 : Int32) = z := ⟨_, rfl⟩
        have r_z261 : z261.toInt = d.toInt % 2147483648 := by have q := c_mask d (2147483647 : Int32) 31 (by decide) (by decide); rw [e_z261] at q; exact q
        refine K.iand at_261 (pc' := 262) rfl e_z261 ?_
        refine K.iload at_262 (pc' := 264) rfl rfl ?_
        refine K.iload at_264 (pc' := 266) rfl rfl ?_
        refine K.isub at_266 (pc' := 267) rfl (z := (1 : Int32)) (by decide) ?_
        refine K.iconst at_267 (pc' := 268) rfl (z := 1) rfl ?_
        refine K.iadd at_268 (pc' := 269) rfl (z := (2 : Int32)) (by decide) ?_
        obtain ⟨z269, e_z269⟩ : ∃ z, z261 % (2 : Int32) = z := ⟨_, rfl⟩
        have r_z269 : (0 ≤ z261.toInt → z269.toInt = z261.toInt % 2) ∧ (z261.toInt < 0 → z269.toInt = -((-z261.toInt) % 2)) := by have q := c_irem z261 (2 : Int32) 2 rfl; rw [e_z269] at q; exact q
        refine K.irem at_269 (pc' := 270) rfl (by decide) e_z269 ?_
        obtain ⟨ins, e_ins⟩ : ∃ z, (8204 : Int32) + z269 = z := ⟨_, rfl⟩
        have r_ins : (ins.toInt - (8204 + z269.toInt)) % 4294967296 = 0 := by have q := c_iadd (8204 : Int32) z269; rw [e_ins] at q; exact q
        have g_ins := rng32 ins
        have t_ins : ins.toInt = 8204 + z269.toInt := by omega
        clear r_ins
        clear g_ins
        refine K.iadd at_270 (pc' := 271) rfl e_ins ?_
        refine K.istore at_271 (pc' := 273) rfl (L' := #[.val (.int c), .val (.int k), .val (.int d), .val (.ref a_1), .val (.ref a_103), .val (.int (1 : Int32)), .val (.int (9 : Int32)), .val (.int (8204 : Int32)), .val (.int (8205 : Int32)), .val (.int ins), .unset]) rfl ?_
        refine K.iload at_273 (pc' := 275) rfl rfl ?_
        refine K.calls (argsL := [(.int (8204 : Int32))]) (rest := []) at_275 (pc' := 278) rfl (c_ns l Z a0 hw n0 h_215 (p := (8204 : Int32)) ) (hw _ (List.mem_of_getElem? (i := 8) rfl)) (hw _ (List.mem_of_getElem? (i := 9) rfl)) (hw _ (List.mem_of_getElem? (i := 10) rfl)) (hw _ (List.mem_of_getElem? (i := 11) rfl)) (by decide) pd_1 rfl rfl (W := 0) (by simp [Value.category]) (by decide) (by decide) (by decide) (by decide) (fun v_412 h_410 q_411 => ?_)
        obtain ⟨rfl, rfl⟩ := q_411
        show G h_215 2 32 (mkF m 278 #[.val (.int c), .val (.int k), .val (.int d), .val (.ref a_1), .val (.ref a_103), .val (.int (1 : Int32)), .val (.int (9 : Int32)), .val (.int (8204 : Int32)), .val (.int (8205 : Int32)), .val (.int ins), .unset] [(.int (b2 (8204 = 58 ∨ (65 ≤ 8204 ∧ 8204 ≤ 90) ∨ 8204 = 95 ∨ (97 ≤ 8204 ∧ 8204 ≤ 122) ∨ (192 ≤ 8204 ∧ 8204 ≤ 214) ∨ (216 ≤ 8204 ∧ 8204 ≤ 246) ∨ (248 ≤ 8204 ∧ 8204 ≤ 767) ∨ (880 ≤ 8204 ∧ 8204 ≤ 893) ∨ (895 ≤ 8204 ∧ 8204 ≤ 8191) ∨ (8204 ≤ 8204 ∧ 8204 ≤ 8205) ∨ (8304 ≤ 8204 ∧ 8204 ≤ 8591) ∨ (11264 ≤ 8204 ∧ 8204 ≤ 12271) ∨ (12289 ≤ 8204 ∧ 8204 ≤ 55295) ∨ (63744 ≤ 8204 ∧ 8204 ≤ 64975) ∨ (65008 ≤ 8204 ∧ 8204 ≤ 65533) ∨ (65536 ≤ 8204 ∧ 8204 ≤ 983039))))])
        refine K.ifeqB at_278 (pc1 := 281) rfl (by decide) (pc2 := 321) (by decide) (fun c278 => ?_) (fun c278 => ?_)
        · exfalso; omega
        · refine K.iload at_281 (pc' := 283) rfl rfl ?_
          refine K.calls (argsL := [(.int (8205 : Int32))]) (rest := []) at_283 (pc' := 286) rfl (c_ns l Z a0 hw n0 h_215 (p := (8205 : Int32)) ) (hw _ (List.mem_of_getElem? (i := 8) rfl)) (hw _ (List.mem_of_getElem? (i := 9) rfl)) (hw _ (List.mem_of_getElem? (i := 10) rfl)) (hw _ (List.mem_of_getElem? (i := 11) rfl)) (by decide) pd_1 rfl rfl (W := 0) (by simp [Value.category]) (by decide) (by decide) (by decide) (by decide) (fun v_416 h_414 q_415 => ?_)
          obtain ⟨rfl, rfl⟩ := q_415
          show G h_215 2 32 (mkF m 286 #[.val (.int c), .val (.int k), .val (.int d), .val (.ref a_1), .val (.ref a_103), .val (.int (1 : Int32)), .val (.int (9 : Int32)), .val (.int (8204 : Int32)), .val (.int (8205 : Int32)), .val (.int ins), .unset] [(.int (b2 (8205 = 58 ∨ (65 ≤ 8205 ∧ 8205 ≤ 90) ∨ 8205 = 95 ∨ (97 ≤ 8205 ∧ 8205 ≤ 122) ∨ (192 ≤ 8205 ∧ 8205 ≤ 214) ∨ (216 ≤ 8205 ∧ 8205 ≤ 246) ∨ (248 ≤ 8205 ∧ 8205 ≤ 767) ∨ (880 ≤ 8205 ∧ 8205 ≤ 893) ∨ (895 ≤ 8205 ∧ 8205 ≤ 8191) ∨ (8204 ≤ 8205 ∧ 8205 ≤ 8205) ∨ (8304 ≤ 8205 ∧ 8205 ≤ 8591) ∨ (11264 ≤ 8205 ∧ 8205 ≤ 12271) ∨ (12289 ≤ 8205 ∧ 8205 ≤ 55295) ∨ (63744 ≤ 8205 ∧ 8205 ≤ 64975) ∨ (65008 ≤ 8205 ∧ 8205 ≤ 65533) ∨ (65536 ≤ 8205 ∧ 8205 ≤ 983039))))])
          refine K.ifeqB at_286 (pc1 := 289) rfl (by decide) (pc2 := 321) (by decide) (fun c286 => ?_) (fun c286 => ?_)
          · exfalso; omega
          · refine K.iload at_289 (pc' := 291) rfl rfl ?_
            refine K.calls (argsL := [(.int ins)]) (rest := []) at_291 (pc' := 294) rfl (c_ns l Z a0 hw n0 h_215 (p := ins) ) (hw _ (List.mem_of_getElem? (i := 8) rfl)) (hw _ (List.mem_of_getElem? (i := 9) rfl)) (hw _ (List.mem_of_getElem? (i := 10) rfl)) (hw _ (List.mem_of_getElem? (i := 11) rfl)) (by decide) pd_1 rfl rfl (W := 0) (by simp [Value.category]) (by decide) (by decide) (by decide) (by decide) (fun v_420 h_418 q_419 => ?_)
            obtain ⟨rfl, rfl⟩ := q_419
            show G h_215 2 32 (mkF m 294 #[.val (.int c), .val (.int k), .val (.int d), .val (.ref a_1), .val (.ref a_103), .val (.int (1 : Int32)), .val (.int (9 : Int32)), .val (.int (8204 : Int32)), .val (.int (8205 : Int32)), .val (.int ins), .unset] [(.int (b2 (ins.toInt = 58 ∨ (65 ≤ ins.toInt ∧ ins.toInt ≤ 90) ∨ ins.toInt = 95 ∨ (97 ≤ ins.toInt ∧ ins.toInt ≤ 122) ∨ (192 ≤ ins.toInt ∧ ins.toInt ≤ 214) ∨ (216 ≤ ins.toInt ∧ ins.toInt ≤ 246) ∨ (248 ≤ ins.toInt ∧ ins.toInt ≤ 767) ∨ (880 ≤ ins.toInt ∧ ins.toInt ≤ 893) ∨ (895 ≤ ins.toInt ∧ ins.toInt ≤ 8191) ∨ (8204 ≤ ins.toInt ∧ ins.toInt ≤ 8205) ∨ (8304 ≤ ins.toInt ∧ ins.toInt ≤ 8591) ∨ (11264 ≤ ins.toInt ∧ ins.toInt ≤ 12271) ∨ (12289 ≤ ins.toInt ∧ ins.toInt ≤ 55295) ∨ (63744 ≤ ins.toInt ∧ ins.toInt ≤ 64975) ∨ (65008 ≤ ins.toInt ∧ ins.toInt ≤ 65533) ∨ (65536 ≤ ins.toInt ∧ ins.toInt ≤ 983039))))])
            refine K.ifeqB at_294 (pc1 := 297) rfl (by decide) (pc2 := 321) (by decide) (fun c294 => ?_) (fun c294 => ?_)
            · exfalso; omega
            · refine K.iload at_297 (pc' := 299) rfl rfl ?_
              refine K.iconst at_299 (pc' := 300) rfl (z := 1) rfl ?_
              refine K.isub at_300 (pc' := 301) rfl (z := (8203 : Int32)) (by decide) ?_
              refine K.calls (argsL := [(.int (8203 : Int32))]) (rest := []) at_301 (pc' := 304) rfl (c_ns l Z a0 hw n0 h_215 (p := (8203 : Int32)) ) (hw _ (List.mem_of_getElem? (i := 8) rfl)) (hw _ (List.mem_of_getElem? (i := 9) rfl)) (hw _ (List.mem_of_getElem? (i := 10) rfl)) (hw _ (List.mem_of_getElem? (i := 11) rfl)) (by decide) pd_1 rfl rfl (W := 0) (by simp [Value.category]) (by decide) (by decide) (by decide) (by decide) (fun v_424 h_422 q_423 => ?_)
              obtain ⟨rfl, rfl⟩ := q_423
              show G h_215 2 32 (mkF m 304 #[.val (.int c), .val (.int k), .val (.int d), .val (.ref a_1), .val (.ref a_103), .val (.int (1 : Int32)), .val (.int (9 : Int32)), .val (.int (8204 : Int32)), .val (.int (8205 : Int32)), .val (.int ins), .unset] [(.int (b2 (8203 = 58 ∨ (65 ≤ 8203 ∧ 8203 ≤ 90) ∨ 8203 = 95 ∨ (97 ≤ 8203 ∧ 8203 ≤ 122) ∨ (192 ≤ 8203 ∧ 8203 ≤ 214) ∨ (216 ≤ 8203 ∧ 8203 ≤ 246) ∨ (248 ≤ 8203 ∧ 8203 ≤ 767) ∨ (880 ≤ 8203 ∧ 8203 ≤ 893) ∨ (895 ≤ 8203 ∧ 8203 ≤ 8191) ∨ (8204 ≤ 8203 ∧ 8203 ≤ 8205) ∨ (8304 ≤ 8203 ∧ 8203 ≤ 8591) ∨ (11264 ≤ 8203 ∧ 8203 ≤ 12271) ∨ (12289 ≤ 8203 ∧ 8203 ≤ 55295) ∨ (63744 ≤ 8203 ∧ 8203 ≤ 64975) ∨ (65008 ≤ 8203 ∧ 8203 ≤ 65533) ∨ (65536 ≤ 8203 ∧ 8203 ≤ 983039))))])
              refine K.ifneB at_304 (pc1 := 307) rfl (by decide) (pc2 := 321) (by decide) (fun c304 => ?_) (fun c304 => ?_)
              · exfalso; omega
              · refine K.iload at_307 (pc' := 309) rfl rfl ?_
                refine K.iconst at_309 (pc' := 310) rfl (z := 1) rfl ?_
                refine K.iadd at_310 (pc' := 311) rfl (z := (8206 : Int32)) (by decide) ?_
                refine K.calls (argsL := [(.int (8206 : Int32))]) (rest := []) at_311 (pc' := 314) rfl (c_ns l Z a0 hw n0 h_215 (p := (8206 : Int32)) ) (hw _ (List.mem_of_getElem? (i := 8) rfl)) (hw _ (List.mem_of_getElem? (i := 9) rfl)) (hw _ (List.mem_of_getElem? (i := 10) rfl)) (hw _ (List.mem_of_getElem? (i := 11) rfl)) (by decide) pd_1 rfl rfl (W := 0) (by simp [Value.category]) (by decide) (by decide) (by decide) (by decide) (fun v_428 h_426 q_427 => ?_)
                obtain ⟨rfl, rfl⟩ := q_427
                show G h_215 2 32 (mkF m 314 #[.val (.int c), .val (.int k), .val (.int d), .val (.ref a_1), .val (.ref a_103), .val (.int (1 : Int32)), .val (.int (9 : Int32)), .val (.int (8204 : Int32)), .val (.int (8205 : Int32)), .val (.int ins), .unset] [(.int (b2 (8206 = 58 ∨ (65 ≤ 8206 ∧ 8206 ≤ 90) ∨ 8206 = 95 ∨ (97 ≤ 8206 ∧ 8206 ≤ 122) ∨ (192 ≤ 8206 ∧ 8206 ≤ 214) ∨ (216 ≤ 8206 ∧ 8206 ≤ 246) ∨ (248 ≤ 8206 ∧ 8206 ≤ 767) ∨ (880 ≤ 8206 ∧ 8206 ≤ 893) ∨ (895 ≤ 8206 ∧ 8206 ≤ 8191) ∨ (8204 ≤ 8206 ∧ 8206 ≤ 8205) ∨ (8304 ≤ 8206 ∧ 8206 ≤ 8591) ∨ (11264 ≤ 8206 ∧ 8206 ≤ 12271) ∨ (12289 ≤ 8206 ∧ 8206 ≤ 55295) ∨ (63744 ≤ 8206 ∧ 8206 ≤ 64975) ∨ (65008 ≤ 8206 ∧ 8206 ≤ 65533) ∨ (65536 ≤ 8206 ∧ 8206 ≤ 983039))))])
                refine K.ifneB at_314 (pc1 := 317) rfl (by decide) (pc2 := 321) (by decide) (fun c314 => ?_) (fun c314 => ?_)
                · exfalso; omega
                · refine K.iconst at_317 (pc' := 318) rfl (z := 1) rfl ?_
                  refine K.goto at_318 (by decide) (pc' := 322) (by decide) ?_
                  refine K.istore at_322 (pc' := 324) rfl (L' := #[.val (.int c), .val (.int k), .val (.int d), .val (.ref a_1), .val (.ref a_103), .val (.int (1 : Int32)), .val (.int (9 : Int32)), .val (.int (8204 : Int32)), .val (.int (8205 : Int32)), .val (.int ins), .val (.int (1 : Int32))]) rfl ?_
                  refine K.iload at_324 (pc' := 326) rfl rfl ?_
                  refine K.if_eq at_326 (pc1 := 329) rfl (by decide) (pc2 := 338) (by decide) (a := 1) rfl (fun c326 => ?_) (fun c326 => ?_)
                  · exfalso; omega
                  · refine K.iload at_329 (pc' := 331) rfl rfl ?_
                    refine K.if_eq at_331 (pc1 := 334) rfl (by decide) (pc2 := 338) (by decide) (a := 1) rfl (fun c331 => ?_) (fun c331 => ?_)
                    · exfalso; omega
                    · refine K.iconst at_334 (pc' := 335) rfl (z := 1) rfl ?_
                      refine K.goto at_335 (by decide) (pc' := 339) (by decide) ?_
                      exact K.retz at_339 (Or.inr rfl) (by decide) (by decide) rfl
      · refine K.aloadN at_243 (pc' := 244) rfl rfl rfl ?_
        refine K.iload at_244 (pc' := 246) rfl rfl ?_
        refine K.iald at_246 (pc' := 247) rfl f_218 (i := 10) rfl rfl ?_
        refine K.istore at_247 (pc' := 249) rfl (L' := #[.val (.int c), .val (.int k), .val (.int d), .val (.ref a_1), .val (.ref a_103), .val (.int (1 : Int32)), .val (.int (10 : Int32)), .val (.int (8304 : Int32)), .unset, .unset, .unset]) rfl ?_
        refine K.aload at_249 (pc' := 251) rfl rfl rfl ?_
        refine K.iload at_251 (pc' := 253) rfl rfl ?_
        refine K.iald at_253 (pc' := 254) rfl A_221 (i := 10) rfl rfl ?_
        refine K.istore at_254 (pc' := 256) rfl (L' := #[.val (.int c), .val (.int k), .val (.int d), .val (.ref a_1), .val (.ref a_103), .val (.int (1 : Int32)), .val (.int (10 : Int32)), .val (.int (8304 : Int32)), .val (.int (8591 : Int32)), .unset, .unset]) rfl ?_
        refine K.iload at_256 (pc' := 258) rfl rfl ?_
        refine K.iloadN at_258 (pc' := 259) rfl rfl ?_
        refine K.ldcI at_259 (pc' := 261) rfl (hw _ (List.mem_of_getElem? (i := 19) rfl)) ?_
        obtain ⟨z261, e_z261⟩ : ∃ z, d &&& (2147483647 : Int32) = z := ⟨_, rfl⟩
        have r_z261 : z261.toInt = d.toInt % 2147483648 := by have q := c_mask d (2147483647 : Int32) 31 (by decide) (by decide); rw [e_z261] at q; exact q
        refine K.iand at_261 (pc' := 262) rfl e_z261 ?_
        refine K.iload at_262 (pc' := 264) rfl rfl ?_
        refine K.iload at_264 (pc' := 266) rfl rfl ?_
        refine K.isub at_266 (pc' := 267) rfl (z := (287 : Int32)) (by decide) ?_
        refine K.iconst at_267 (pc' := 268) rfl (z := 1) rfl ?_
        refine K.iadd at_268 (pc' := 269) rfl (z := (288 : Int32)) (by decide) ?_
        obtain ⟨z269, e_z269⟩ : ∃ z, z261 % (288 : Int32) = z := ⟨_, rfl⟩
        have r_z269 : (0 ≤ z261.toInt → z269.toInt = z261.toInt % 288) ∧ (z261.toInt < 0 → z269.toInt = -((-z261.toInt) % 288)) := by have q := c_irem z261 (288 : Int32) 288 rfl; rw [e_z269] at q; exact q
        refine K.irem at_269 (pc' := 270) rfl (by decide) e_z269 ?_
        obtain ⟨ins, e_ins⟩ : ∃ z, (8304 : Int32) + z269 = z := ⟨_, rfl⟩
        have r_ins : (ins.toInt - (8304 + z269.toInt)) % 4294967296 = 0 := by have q := c_iadd (8304 : Int32) z269; rw [e_ins] at q; exact q
        have g_ins := rng32 ins
        have t_ins : ins.toInt = 8304 + z269.toInt := by omega
        clear r_ins
        clear g_ins
        refine K.iadd at_270 (pc' := 271) rfl e_ins ?_
        refine K.istore at_271 (pc' := 273) rfl (L' := #[.val (.int c), .val (.int k), .val (.int d), .val (.ref a_1), .val (.ref a_103), .val (.int (1 : Int32)), .val (.int (10 : Int32)), .val (.int (8304 : Int32)), .val (.int (8591 : Int32)), .val (.int ins), .unset]) rfl ?_
        refine K.iload at_273 (pc' := 275) rfl rfl ?_
        refine K.calls (argsL := [(.int (8304 : Int32))]) (rest := []) at_275 (pc' := 278) rfl (c_ns l Z a0 hw n0 h_215 (p := (8304 : Int32)) ) (hw _ (List.mem_of_getElem? (i := 8) rfl)) (hw _ (List.mem_of_getElem? (i := 9) rfl)) (hw _ (List.mem_of_getElem? (i := 10) rfl)) (hw _ (List.mem_of_getElem? (i := 11) rfl)) (by decide) pd_1 rfl rfl (W := 0) (by simp [Value.category]) (by decide) (by decide) (by decide) (by decide) (fun v_432 h_430 q_431 => ?_)
        obtain ⟨rfl, rfl⟩ := q_431
        show G h_215 2 32 (mkF m 278 #[.val (.int c), .val (.int k), .val (.int d), .val (.ref a_1), .val (.ref a_103), .val (.int (1 : Int32)), .val (.int (10 : Int32)), .val (.int (8304 : Int32)), .val (.int (8591 : Int32)), .val (.int ins), .unset] [(.int (b2 (8304 = 58 ∨ (65 ≤ 8304 ∧ 8304 ≤ 90) ∨ 8304 = 95 ∨ (97 ≤ 8304 ∧ 8304 ≤ 122) ∨ (192 ≤ 8304 ∧ 8304 ≤ 214) ∨ (216 ≤ 8304 ∧ 8304 ≤ 246) ∨ (248 ≤ 8304 ∧ 8304 ≤ 767) ∨ (880 ≤ 8304 ∧ 8304 ≤ 893) ∨ (895 ≤ 8304 ∧ 8304 ≤ 8191) ∨ (8204 ≤ 8304 ∧ 8304 ≤ 8205) ∨ (8304 ≤ 8304 ∧ 8304 ≤ 8591) ∨ (11264 ≤ 8304 ∧ 8304 ≤ 12271) ∨ (12289 ≤ 8304 ∧ 8304 ≤ 55295) ∨ (63744 ≤ 8304 ∧ 8304 ≤ 64975) ∨ (65008 ≤ 8304 ∧ 8304 ≤ 65533) ∨ (65536 ≤ 8304 ∧ 8304 ≤ 983039))))])
        refine K.ifeqB at_278 (pc1 := 281) rfl (by decide) (pc2 := 321) (by decide) (fun c278 => ?_) (fun c278 => ?_)
        · exfalso; omega
        · refine K.iload at_281 (pc' := 283) rfl rfl ?_
          refine K.calls (argsL := [(.int (8591 : Int32))]) (rest := []) at_283 (pc' := 286) rfl (c_ns l Z a0 hw n0 h_215 (p := (8591 : Int32)) ) (hw _ (List.mem_of_getElem? (i := 8) rfl)) (hw _ (List.mem_of_getElem? (i := 9) rfl)) (hw _ (List.mem_of_getElem? (i := 10) rfl)) (hw _ (List.mem_of_getElem? (i := 11) rfl)) (by decide) pd_1 rfl rfl (W := 0) (by simp [Value.category]) (by decide) (by decide) (by decide) (by decide) (fun v_436 h_434 q_435 => ?_)
          obtain ⟨rfl, rfl⟩ := q_435
          show G h_215 2 32 (mkF m 286 #[.val (.int c), .val (.int k), .val (.int d), .val (.ref a_1), .val (.ref a_103), .val (.int (1 : Int32)), .val (.int (10 : Int32)), .val (.int (8304 : Int32)), .val (.int (8591 : Int32)), .val (.int ins), .unset] [(.int (b2 (8591 = 58 ∨ (65 ≤ 8591 ∧ 8591 ≤ 90) ∨ 8591 = 95 ∨ (97 ≤ 8591 ∧ 8591 ≤ 122) ∨ (192 ≤ 8591 ∧ 8591 ≤ 214) ∨ (216 ≤ 8591 ∧ 8591 ≤ 246) ∨ (248 ≤ 8591 ∧ 8591 ≤ 767) ∨ (880 ≤ 8591 ∧ 8591 ≤ 893) ∨ (895 ≤ 8591 ∧ 8591 ≤ 8191) ∨ (8204 ≤ 8591 ∧ 8591 ≤ 8205) ∨ (8304 ≤ 8591 ∧ 8591 ≤ 8591) ∨ (11264 ≤ 8591 ∧ 8591 ≤ 12271) ∨ (12289 ≤ 8591 ∧ 8591 ≤ 55295) ∨ (63744 ≤ 8591 ∧ 8591 ≤ 64975) ∨ (65008 ≤ 8591 ∧ 8591 ≤ 65533) ∨ (65536 ≤ 8591 ∧ 8591 ≤ 983039))))])
          refine K.ifeqB at_286 (pc1 := 289) rfl (by decide) (pc2 := 321) (by decide) (fun c286 => ?_) (fun c286 => ?_)
          · exfalso; omega
          · refine K.iload at_289 (pc' := 291) rfl rfl ?_
            refine K.calls (argsL := [(.int ins)]) (rest := []) at_291 (pc' := 294) rfl (c_ns l Z a0 hw n0 h_215 (p := ins) ) (hw _ (List.mem_of_getElem? (i := 8) rfl)) (hw _ (List.mem_of_getElem? (i := 9) rfl)) (hw _ (List.mem_of_getElem? (i := 10) rfl)) (hw _ (List.mem_of_getElem? (i := 11) rfl)) (by decide) pd_1 rfl rfl (W := 0) (by simp [Value.category]) (by decide) (by decide) (by decide) (by decide) (fun v_440 h_438 q_439 => ?_)
            obtain ⟨rfl, rfl⟩ := q_439
            show G h_215 2 32 (mkF m 294 #[.val (.int c), .val (.int k), .val (.int d), .val (.ref a_1), .val (.ref a_103), .val (.int (1 : Int32)), .val (.int (10 : Int32)), .val (.int (8304 : Int32)), .val (.int (8591 : Int32)), .val (.int ins), .unset] [(.int (b2 (ins.toInt = 58 ∨ (65 ≤ ins.toInt ∧ ins.toInt ≤ 90) ∨ ins.toInt = 95 ∨ (97 ≤ ins.toInt ∧ ins.toInt ≤ 122) ∨ (192 ≤ ins.toInt ∧ ins.toInt ≤ 214) ∨ (216 ≤ ins.toInt ∧ ins.toInt ≤ 246) ∨ (248 ≤ ins.toInt ∧ ins.toInt ≤ 767) ∨ (880 ≤ ins.toInt ∧ ins.toInt ≤ 893) ∨ (895 ≤ ins.toInt ∧ ins.toInt ≤ 8191) ∨ (8204 ≤ ins.toInt ∧ ins.toInt ≤ 8205) ∨ (8304 ≤ ins.toInt ∧ ins.toInt ≤ 8591) ∨ (11264 ≤ ins.toInt ∧ ins.toInt ≤ 12271) ∨ (12289 ≤ ins.toInt ∧ ins.toInt ≤ 55295) ∨ (63744 ≤ ins.toInt ∧ ins.toInt ≤ 64975) ∨ (65008 ≤ ins.toInt ∧ ins.toInt ≤ 65533) ∨ (65536 ≤ ins.toInt ∧ ins.toInt ≤ 983039))))])
            refine K.ifeqB at_294 (pc1 := 297) rfl (by decide) (pc2 := 321) (by decide) (fun c294 => ?_) (fun c294 => ?_)
            · exfalso; omega
            · refine K.iload at_297 (pc' := 299) rfl rfl ?_
              refine K.iconst at_299 (pc' := 300) rfl (z := 1) rfl ?_
              refine K.isub at_300 (pc' := 301) rfl (z := (8303 : Int32)) (by decide) ?_
              refine K.calls (argsL := [(.int (8303 : Int32))]) (rest := []) at_301 (pc' := 304) rfl (c_ns l Z a0 hw n0 h_215 (p := (8303 : Int32)) ) (hw _ (List.mem_of_getElem? (i := 8) rfl)) (hw _ (List.mem_of_getElem? (i := 9) rfl)) (hw _ (List.mem_of_getElem? (i := 10) rfl)) (hw _ (List.mem_of_getElem? (i := 11) rfl)) (by decide) pd_1 rfl rfl (W := 0) (by simp [Value.category]) (by decide) (by decide) (by decide) (by decide) (fun v_444 h_442 q_443 => ?_)
              obtain ⟨rfl, rfl⟩ := q_443
              show G h_215 2 32 (mkF m 304 #[.val (.int c), .val (.int k), .val (.int d), .val (.ref a_1), .val (.ref a_103), .val (.int (1 : Int32)), .val (.int (10 : Int32)), .val (.int (8304 : Int32)), .val (.int (8591 : Int32)), .val (.int ins), .unset] [(.int (b2 (8303 = 58 ∨ (65 ≤ 8303 ∧ 8303 ≤ 90) ∨ 8303 = 95 ∨ (97 ≤ 8303 ∧ 8303 ≤ 122) ∨ (192 ≤ 8303 ∧ 8303 ≤ 214) ∨ (216 ≤ 8303 ∧ 8303 ≤ 246) ∨ (248 ≤ 8303 ∧ 8303 ≤ 767) ∨ (880 ≤ 8303 ∧ 8303 ≤ 893) ∨ (895 ≤ 8303 ∧ 8303 ≤ 8191) ∨ (8204 ≤ 8303 ∧ 8303 ≤ 8205) ∨ (8304 ≤ 8303 ∧ 8303 ≤ 8591) ∨ (11264 ≤ 8303 ∧ 8303 ≤ 12271) ∨ (12289 ≤ 8303 ∧ 8303 ≤ 55295) ∨ (63744 ≤ 8303 ∧ 8303 ≤ 64975) ∨ (65008 ≤ 8303 ∧ 8303 ≤ 65533) ∨ (65536 ≤ 8303 ∧ 8303 ≤ 983039))))])
              refine K.ifneB at_304 (pc1 := 307) rfl (by decide) (pc2 := 321) (by decide) (fun c304 => ?_) (fun c304 => ?_)
              · exfalso; omega
              · refine K.iload at_307 (pc' := 309) rfl rfl ?_
                refine K.iconst at_309 (pc' := 310) rfl (z := 1) rfl ?_
                refine K.iadd at_310 (pc' := 311) rfl (z := (8592 : Int32)) (by decide) ?_
                refine K.calls (argsL := [(.int (8592 : Int32))]) (rest := []) at_311 (pc' := 314) rfl (c_ns l Z a0 hw n0 h_215 (p := (8592 : Int32)) ) (hw _ (List.mem_of_getElem? (i := 8) rfl)) (hw _ (List.mem_of_getElem? (i := 9) rfl)) (hw _ (List.mem_of_getElem? (i := 10) rfl)) (hw _ (List.mem_of_getElem? (i := 11) rfl)) (by decide) pd_1 rfl rfl (W := 0) (by simp [Value.category]) (by decide) (by decide) (by decide) (by decide) (fun v_448 h_446 q_447 => ?_)
                obtain ⟨rfl, rfl⟩ := q_447
                show G h_215 2 32 (mkF m 314 #[.val (.int c), .val (.int k), .val (.int d), .val (.ref a_1), .val (.ref a_103), .val (.int (1 : Int32)), .val (.int (10 : Int32)), .val (.int (8304 : Int32)), .val (.int (8591 : Int32)), .val (.int ins), .unset] [(.int (b2 (8592 = 58 ∨ (65 ≤ 8592 ∧ 8592 ≤ 90) ∨ 8592 = 95 ∨ (97 ≤ 8592 ∧ 8592 ≤ 122) ∨ (192 ≤ 8592 ∧ 8592 ≤ 214) ∨ (216 ≤ 8592 ∧ 8592 ≤ 246) ∨ (248 ≤ 8592 ∧ 8592 ≤ 767) ∨ (880 ≤ 8592 ∧ 8592 ≤ 893) ∨ (895 ≤ 8592 ∧ 8592 ≤ 8191) ∨ (8204 ≤ 8592 ∧ 8592 ≤ 8205) ∨ (8304 ≤ 8592 ∧ 8592 ≤ 8591) ∨ (11264 ≤ 8592 ∧ 8592 ≤ 12271) ∨ (12289 ≤ 8592 ∧ 8592 ≤ 55295) ∨ (63744 ≤ 8592 ∧ 8592 ≤ 64975) ∨ (65008 ≤ 8592 ∧ 8592 ≤ 65533) ∨ (65536 ≤ 8592 ∧ 8592 ≤ 983039))))])
                refine K.ifneB at_314 (pc1 := 317) rfl (by decide) (pc2 := 321) (by decide) (fun c314 => ?_) (fun c314 => ?_)
                · exfalso; omega
                · refine K.iconst at_317 (pc' := 318) rfl (z := 1) rfl ?_
                  refine K.goto at_318 (by decide) (pc' := 322) (by decide) ?_
                  refine K.istore at_322 (pc' := 324) rfl (L' := #[.val (.int c), .val (.int k), .val (.int d), .val (.ref a_1), .val (.ref a_103), .val (.int (1 : Int32)), .val (.int (10 : Int32)), .val (.int (8304 : Int32)), .val (.int (8591 : Int32)), .val (.int ins), .val (.int (1 : Int32))]) rfl ?_
                  refine K.iload at_324 (pc' := 326) rfl rfl ?_
                  refine K.if_eq at_326 (pc1 := 329) rfl (by decide) (pc2 := 338) (by decide) (a := 1) rfl (fun c326 => ?_) (fun c326 => ?_)
                  · exfalso; omega
                  · refine K.iload at_329 (pc' := 331) rfl rfl ?_
                    refine K.if_eq at_331 (pc1 := 334) rfl (by decide) (pc2 := 338) (by decide) (a := 1) rfl (fun c331 => ?_) (fun c331 => ?_)
                    · exfalso; omega
                    · refine K.iconst at_334 (pc' := 335) rfl (z := 1) rfl ?_
                      refine K.goto at_335 (by decide) (pc' := 339) (by decide) ?_
                      exact K.retz at_339 (Or.inr rfl) (by decide) (by decide) rfl
      · refine K.aloadN at_243 (pc' := 244) rfl rfl rfl ?_
        refine K.iload at_244 (pc' := 246) rfl rfl ?_
        refine K.iald at_246 (pc' := 247) rfl f_218 (i := 11) rfl rfl ?_
        refine K.istore at_247 (pc' := 249) rfl (L' := #[.val (.int c), .val (.int k), .val (.int d), .val (.ref a_1), .val (.ref a_103), .val (.int (1 : Int32)), .val (.int (11 : Int32)), .val (.int (11264 : Int32)), .unset, .unset, .unset]) rfl ?_
        refine K.aload at_249 (pc' := 251) rfl rfl rfl ?_
        refine K.iload at_251 (pc' := 253) rfl rfl ?_
        refine K.iald at_253 (pc' := 254) rfl A_221 (i := 11) rfl rfl ?_
        refine K.istore at_254 (pc' := 256) rfl (L' := #[.val (.int c), .val (.int k), .val (.int d), .val (.ref a_1), .val (.ref a_103), .val (.int (1 : Int32)), .val (.int (11 : Int32)), .val (.int (11264 : Int32)), .val (.int (12271 : Int32)), .unset, .unset]) rfl ?_
        refine K.iload at_256 (pc' := 258) rfl rfl ?_
        refine K.iloadN at_258 (pc' := 259) rfl rfl ?_
        refine K.ldcI at_259 (pc' := 261) rfl (hw _ (List.mem_of_getElem? (i := 19) rfl)) ?_
        obtain ⟨z261, e_z261⟩ : ∃ z, d &&& (2147483647 : Int32) = z := ⟨_, rfl⟩
        have r_z261 : z261.toInt = d.toInt % 2147483648 := by have q := c_mask d (2147483647 : Int32) 31 (by decide) (by decide); rw [e_z261] at q; exact q
        refine K.iand at_261 (pc' := 262) rfl e_z261 ?_
        refine K.iload at_262 (pc' := 264) rfl rfl ?_
        refine K.iload at_264 (pc' := 266) rfl rfl ?_
        refine K.isub at_266 (pc' := 267) rfl (z := (1007 : Int32)) (by decide) ?_
        refine K.iconst at_267 (pc' := 268) rfl (z := 1) rfl ?_
        refine K.iadd at_268 (pc' := 269) rfl (z := (1008 : Int32)) (by decide) ?_
        obtain ⟨z269, e_z269⟩ : ∃ z, z261 % (1008 : Int32) = z := ⟨_, rfl⟩
        have r_z269 : (0 ≤ z261.toInt → z269.toInt = z261.toInt % 1008) ∧ (z261.toInt < 0 → z269.toInt = -((-z261.toInt) % 1008)) := by have q := c_irem z261 (1008 : Int32) 1008 rfl; rw [e_z269] at q; exact q
        refine K.irem at_269 (pc' := 270) rfl (by decide) e_z269 ?_
        obtain ⟨ins, e_ins⟩ : ∃ z, (11264 : Int32) + z269 = z := ⟨_, rfl⟩
        have r_ins : (ins.toInt - (11264 + z269.toInt)) % 4294967296 = 0 := by have q := c_iadd (11264 : Int32) z269; rw [e_ins] at q; exact q
        have g_ins := rng32 ins
        have t_ins : ins.toInt = 11264 + z269.toInt := by omega
        clear r_ins
        clear g_ins
        refine K.iadd at_270 (pc' := 271) rfl e_ins ?_
        refine K.istore at_271 (pc' := 273) rfl (L' := #[.val (.int c), .val (.int k), .val (.int d), .val (.ref a_1), .val (.ref a_103), .val (.int (1 : Int32)), .val (.int (11 : Int32)), .val (.int (11264 : Int32)), .val (.int (12271 : Int32)), .val (.int ins), .unset]) rfl ?_
        refine K.iload at_273 (pc' := 275) rfl rfl ?_
        refine K.calls (argsL := [(.int (11264 : Int32))]) (rest := []) at_275 (pc' := 278) rfl (c_ns l Z a0 hw n0 h_215 (p := (11264 : Int32)) ) (hw _ (List.mem_of_getElem? (i := 8) rfl)) (hw _ (List.mem_of_getElem? (i := 9) rfl)) (hw _ (List.mem_of_getElem? (i := 10) rfl)) (hw _ (List.mem_of_getElem? (i := 11) rfl)) (by decide) pd_1 rfl rfl (W := 0) (by simp [Value.category]) (by decide) (by decide) (by decide) (by decide) (fun v_452 h_450 q_451 => ?_)
        obtain ⟨rfl, rfl⟩ := q_451
        show G h_215 2 32 (mkF m 278 #[.val (.int c), .val (.int k), .val (.int d), .val (.ref a_1), .val (.ref a_103), .val (.int (1 : Int32)), .val (.int (11 : Int32)), .val (.int (11264 : Int32)), .val (.int (12271 : Int32)), .val (.int ins), .unset] [(.int (b2 (11264 = 58 ∨ (65 ≤ 11264 ∧ 11264 ≤ 90) ∨ 11264 = 95 ∨ (97 ≤ 11264 ∧ 11264 ≤ 122) ∨ (192 ≤ 11264 ∧ 11264 ≤ 214) ∨ (216 ≤ 11264 ∧ 11264 ≤ 246) ∨ (248 ≤ 11264 ∧ 11264 ≤ 767) ∨ (880 ≤ 11264 ∧ 11264 ≤ 893) ∨ (895 ≤ 11264 ∧ 11264 ≤ 8191) ∨ (8204 ≤ 11264 ∧ 11264 ≤ 8205) ∨ (8304 ≤ 11264 ∧ 11264 ≤ 8591) ∨ (11264 ≤ 11264 ∧ 11264 ≤ 12271) ∨ (12289 ≤ 11264 ∧ 11264 ≤ 55295) ∨ (63744 ≤ 11264 ∧ 11264 ≤ 64975) ∨ (65008 ≤ 11264 ∧ 11264 ≤ 65533) ∨ (65536 ≤ 11264 ∧ 11264 ≤ 983039))))])
        refine K.ifeqB at_278 (pc1 := 281) rfl (by decide) (pc2 := 321) (by decide) (fun c278 => ?_) (fun c278 => ?_)
        · exfalso; omega
        · refine K.iload at_281 (pc' := 283) rfl rfl ?_
          refine K.calls (argsL := [(.int (12271 : Int32))]) (rest := []) at_283 (pc' := 286) rfl (c_ns l Z a0 hw n0 h_215 (p := (12271 : Int32)) ) (hw _ (List.mem_of_getElem? (i := 8) rfl)) (hw _ (List.mem_of_getElem? (i := 9) rfl)) (hw _ (List.mem_of_getElem? (i := 10) rfl)) (hw _ (List.mem_of_getElem? (i := 11) rfl)) (by decide) pd_1 rfl rfl (W := 0) (by simp [Value.category]) (by decide) (by decide) (by decide) (by decide) (fun v_456 h_454 q_455 => ?_)
          obtain ⟨rfl, rfl⟩ := q_455
          show G h_215 2 32 (mkF m 286 #[.val (.int c), .val (.int k), .val (.int d), .val (.ref a_1), .val (.ref a_103), .val (.int (1 : Int32)), .val (.int (11 : Int32)), .val (.int (11264 : Int32)), .val (.int (12271 : Int32)), .val (.int ins), .unset] [(.int (b2 (12271 = 58 ∨ (65 ≤ 12271 ∧ 12271 ≤ 90) ∨ 12271 = 95 ∨ (97 ≤ 12271 ∧ 12271 ≤ 122) ∨ (192 ≤ 12271 ∧ 12271 ≤ 214) ∨ (216 ≤ 12271 ∧ 12271 ≤ 246) ∨ (248 ≤ 12271 ∧ 12271 ≤ 767) ∨ (880 ≤ 12271 ∧ 12271 ≤ 893) ∨ (895 ≤ 12271 ∧ 12271 ≤ 8191) ∨ (8204 ≤ 12271 ∧ 12271 ≤ 8205) ∨ (8304 ≤ 12271 ∧ 12271 ≤ 8591) ∨ (11264 ≤ 12271 ∧ 12271 ≤ 12271) ∨ (12289 ≤ 12271 ∧ 12271 ≤ 55295) ∨ (63744 ≤ 12271 ∧ 12271 ≤ 64975) ∨ (65008 ≤ 12271 ∧ 12271 ≤ 65533) ∨ (65536 ≤ 12271 ∧ 12271 ≤ 983039))))])
          refine K.ifeqB at_286 (pc1 := 289) rfl (by decide) (pc2 := 321) (by decide) (fun c286 => ?_) (fun c286 => ?_)
          · exfalso; omega
          · refine K.iload at_289 (pc' := 291) rfl rfl ?_
            refine K.calls (argsL := [(.int ins)]) (rest := []) at_291 (pc' := 294) rfl (c_ns l Z a0 hw n0 h_215 (p := ins) ) (hw _ (List.mem_of_getElem? (i := 8) rfl)) (hw _ (List.mem_of_getElem? (i := 9) rfl)) (hw _ (List.mem_of_getElem? (i := 10) rfl)) (hw _ (List.mem_of_getElem? (i := 11) rfl)) (by decide) pd_1 rfl rfl (W := 0) (by simp [Value.category]) (by decide) (by decide) (by decide) (by decide) (fun v_460 h_458 q_459 => ?_)
            obtain ⟨rfl, rfl⟩ := q_459
            show G h_215 2 32 (mkF m 294 #[.val (.int c), .val (.int k), .val (.int d), .val (.ref a_1), .val (.ref a_103), .val (.int (1 : Int32)), .val (.int (11 : Int32)), .val (.int (11264 : Int32)), .val (.int (12271 : Int32)), .val (.int ins), .unset] [(.int (b2 (ins.toInt = 58 ∨ (65 ≤ ins.toInt ∧ ins.toInt ≤ 90) ∨ ins.toInt = 95 ∨ (97 ≤ ins.toInt ∧ ins.toInt ≤ 122) ∨ (192 ≤ ins.toInt ∧ ins.toInt ≤ 214) ∨ (216 ≤ ins.toInt ∧ ins.toInt ≤ 246) ∨ (248 ≤ ins.toInt ∧ ins.toInt ≤ 767) ∨ (880 ≤ ins.toInt ∧ ins.toInt ≤ 893) ∨ (895 ≤ ins.toInt ∧ ins.toInt ≤ 8191) ∨ (8204 ≤ ins.toInt ∧ ins.toInt ≤ 8205) ∨ (8304 ≤ ins.toInt ∧ ins.toInt ≤ 8591) ∨ (11264 ≤ ins.toInt ∧ ins.toInt ≤ 12271) ∨ (12289 ≤ ins.toInt ∧ ins.toInt ≤ 55295) ∨ (63744 ≤ ins.toInt ∧ ins.toInt ≤ 64975) ∨ (65008 ≤ ins.toInt ∧ ins.toInt ≤ 65533) ∨ (65536 ≤ ins.toInt ∧ ins.toInt ≤ 983039))))])
            refine K.ifeqB at_294 (pc1 := 297) rfl (by decide) (pc2 := 321) (by decide) (fun c294 => ?_) (fun c294 => ?_)
            · exfalso; omega
            · refine K.iload at_297 (pc' := 299) rfl rfl ?_
              refine K.iconst at_299 (pc' := 300) rfl (z := 1) rfl ?_
              refine K.isub at_300 (pc' := 301) rfl (z := (11263 : Int32)) (by decide) ?_
              refine K.calls (argsL := [(.int (11263 : Int32))]) (rest := []) at_301 (pc' := 304) rfl (c_ns l Z a0 hw n0 h_215 (p := (11263 : Int32)) ) (hw _ (List.mem_of_getElem? (i := 8) rfl)) (hw _ (List.mem_of_getElem? (i := 9) rfl)) (hw _ (List.mem_of_getElem? (i := 10) rfl)) (hw _ (List.mem_of_getElem? (i := 11) rfl)) (by decide) pd_1 rfl rfl (W := 0) (by simp [Value.category]) (by decide) (by decide) (by decide) (by decide) (fun v_464 h_462 q_463 => ?_)
              obtain ⟨rfl, rfl⟩ := q_463
              show G h_215 2 32 (mkF m 304 #[.val (.int c), .val (.int k), .val (.int d), .val (.ref a_1), .val (.ref a_103), .val (.int (1 : Int32)), .val (.int (11 : Int32)), .val (.int (11264 : Int32)), .val (.int (12271 : Int32)), .val (.int ins), .unset] [(.int (b2 (11263 = 58 ∨ (65 ≤ 11263 ∧ 11263 ≤ 90) ∨ 11263 = 95 ∨ (97 ≤ 11263 ∧ 11263 ≤ 122) ∨ (192 ≤ 11263 ∧ 11263 ≤ 214) ∨ (216 ≤ 11263 ∧ 11263 ≤ 246) ∨ (248 ≤ 11263 ∧ 11263 ≤ 767) ∨ (880 ≤ 11263 ∧ 11263 ≤ 893) ∨ (895 ≤ 11263 ∧ 11263 ≤ 8191) ∨ (8204 ≤ 11263 ∧ 11263 ≤ 8205) ∨ (8304 ≤ 11263 ∧ 11263 ≤ 8591) ∨ (11264 ≤ 11263 ∧ 11263 ≤ 12271) ∨ (12289 ≤ 11263 ∧ 11263 ≤ 55295) ∨ (63744 ≤ 11263 ∧ 11263 ≤ 64975) ∨ (65008 ≤ 11263 ∧ 11263 ≤ 65533) ∨ (65536 ≤ 11263 ∧ 11263 ≤ 983039))))])
              refine K.ifneB at_304 (pc1 := 307) rfl (by decide) (pc2 := 321) (by decide) (fun c304 => ?_) (fun c304 => ?_)
              · exfalso; omega
              · refine K.iload at_307 (pc' := 309) rfl rfl ?_
                refine K.iconst at_309 (pc' := 310) rfl (z := 1) rfl ?_
                refine K.iadd at_310 (pc' := 311) rfl (z := (12272 : Int32)) (by decide) ?_
                refine K.calls (argsL := [(.int (12272 : Int32))]) (rest := []) at_311 (pc' := 314) rfl (c_ns l Z a0 hw n0 h_215 (p := (12272 : Int32)) ) (hw _ (List.mem_of_getElem? (i := 8) rfl)) (hw _ (List.mem_of_getElem? (i := 9) rfl)) (hw _ (List.mem_of_getElem? (i := 10) rfl)) (hw _ (List.mem_of_getElem? (i := 11) rfl)) (by decide) pd_1 rfl rfl (W := 0) (by simp [Value.category]) (by decide) (by decide) (by decide) (by decide) (fun v_468 h_466 q_467 => ?_)
                obtain ⟨rfl, rfl⟩ := q_467
                show G h_215 2 32 (mkF m 314 #[.val (.int c), .val (.int k), .val (.int d), .val (.ref a_1), .val (.ref a_103), .val (.int (1 : Int32)), .val (.int (11 : Int32)), .val (.int (11264 : Int32)), .val (.int (12271 : Int32)), .val (.int ins), .unset] [(.int (b2 (12272 = 58 ∨ (65 ≤ 12272 ∧ 12272 ≤ 90) ∨ 12272 = 95 ∨ (97 ≤ 12272 ∧ 12272 ≤ 122) ∨ (192 ≤ 12272 ∧ 12272 ≤ 214) ∨ (216 ≤ 12272 ∧ 12272 ≤ 246) ∨ (248 ≤ 12272 ∧ 12272 ≤ 767) ∨ (880 ≤ 12272 ∧ 12272 ≤ 893) ∨ (895 ≤ 12272 ∧ 12272 ≤ 8191) ∨ (8204 ≤ 12272 ∧ 12272 ≤ 8205) ∨ (8304 ≤ 12272 ∧ 12272 ≤ 8591) ∨ (11264 ≤ 12272 ∧ 12272 ≤ 12271) ∨ (12289 ≤ 12272 ∧ 12272 ≤ 55295) ∨ (63744 ≤ 12272 ∧ 12272 ≤ 64975) ∨ (65008 ≤ 12272 ∧ 12272 ≤ 65533) ∨ (65536 ≤ 12272 ∧ 12272 ≤ 983039))))])
                refine K.ifneB at_314 (pc1 := 317) rfl (by decide) (pc2 := 321) (by decide) (fun c314 => ?_) (fun c314 => ?_)
                · exfalso; omega
                · refine K.iconst at_317 (pc' := 318) rfl (z := 1) rfl ?_
                  refine K.goto at_318 (by decide) (pc' := 322) (by decide) ?_
                  refine K.istore at_322 (pc' := 324) rfl (L' := #[.val (.int c), .val (.int k), .val (.int d), .val (.ref a_1), .val (.ref a_103), .val (.int (1 : Int32)), .val (.int (11 : Int32)), .val (.int (11264 : Int32)), .val (.int (12271 : Int32)), .val (.int ins), .val (.int (1 : Int32))]) rfl ?_
                  refine K.iload at_324 (pc' := 326) rfl rfl ?_
                  refine K.if_eq at_326 (pc1 := 329) rfl (by decide) (pc2 := 338) (by decide) (a := 1) rfl (fun c326 => ?_) (fun c326 => ?_)
                  · exfalso; omega
                  · refine K.iload at_329 (pc' := 331) rfl rfl ?_
                    refine K.if_eq at_331 (pc1 := 334) rfl (by decide) (pc2 := 338) (by decide) (a := 1) rfl (fun c331 => ?_) (fun c331 => ?_)
                    · exfalso; omega
                    · refine K.iconst at_334 (pc' := 335) rfl (z := 1) rfl ?_
                      refine K.goto at_335 (by decide) (pc' := 339) (by decide) ?_
                      exact K.retz at_339 (Or.inr rfl) (by decide) (by decide) rfl
      · refine K.aloadN at_243 (pc' := 244) rfl rfl rfl ?_
        refine K.iload at_244 (pc' := 246) rfl rfl ?_
        refine K.iald at_246 (pc' := 247) rfl f_218 (i := 12) rfl rfl ?_
        refine K.istore at_247 (pc' := 249) rfl (L' := #[.val (.int c), .val (.int k), .val (.int d), .val (.ref a_1), .val (.ref a_103), .val (.int (1 : Int32)), .val (.int (12 : Int32)), .val (.int (12289 : Int32)), .unset, .unset, .unset]) rfl ?_
        refine K.aload at_249 (pc' := 251) rfl rfl rfl ?_
        refine K.iload at_251 (pc' := 253) rfl rfl ?_
        refine K.iald at_253 (pc' := 254) rfl A_221 (i := 12) rfl rfl ?_
        refine K.istore at_254 (pc' := 256) rfl (L' := #[.val (.int c), .val (.int k), .val (.int d), .val (.ref a_1), .val (.ref a_103), .val (.int (1 : Int32)), .val (.int (12 : Int32)), .val (.int (12289 : Int32)), .val (.int (55295 : Int32)), .unset, .unset]) rfl ?_
        refine K.iload at_256 (pc' := 258) rfl rfl ?_
        refine K.iloadN at_258 (pc' := 259) rfl rfl ?_
        refine K.ldcI at_259 (pc' := 261) rfl (hw _ (List.mem_of_getElem? (i := 19) rfl)) ?_
        obtain ⟨z261, e_z261⟩ : ∃ z, d &&& (2147483647 : Int32) = z := ⟨_, rfl⟩
        have r_z261 : z261.toInt = d.toInt % 2147483648 := by have q := c_mask d (2147483647 : Int32) 31 (by decide) (by decide); rw [e_z261] at q; exact q
        refine K.iand at_261 (pc' := 262) rfl e_z261 ?_
        refine K.iload at_262 (pc' := 264) rfl rfl ?_
        refine K.iload at_264 (pc' := 266) rfl rfl ?_
        refine K.isub at_266 (pc' := 267) rfl (z := (43006 : Int32)) (by decide) ?_
        refine K.iconst at_267 (pc' := 268) rfl (z := 1) rfl ?_
        refine K.iadd at_268 (pc' := 269) rfl (z := (43007 : Int32)) (by decide) ?_
        obtain ⟨z269, e_z269⟩ : ∃ z, z261 % (43007 : Int32) = z := ⟨_, rfl⟩
        have r_z269 : (0 ≤ z261.toInt → z269.toInt = z261.toInt % 43007) ∧ (z261.toInt < 0 → z269.toInt = -((-z261.toInt) % 43007)) := by have q := c_irem z261 (43007 : Int32) 43007 rfl; rw [e_z269] at q; exact q
        refine K.irem at_269 (pc' := 270) rfl (by decide) e_z269 ?_
        obtain ⟨ins, e_ins⟩ : ∃ z, (12289 : Int32) + z269 = z := ⟨_, rfl⟩
        have r_ins : (ins.toInt - (12289 + z269.toInt)) % 4294967296 = 0 := by have q := c_iadd (12289 : Int32) z269; rw [e_ins] at q; exact q
        have g_ins := rng32 ins
        have t_ins : ins.toInt = 12289 + z269.toInt := by omega
        clear r_ins
        clear g_ins
        refine K.iadd at_270 (pc' := 271) rfl e_ins ?_
        refine K.istore at_271 (pc' := 273) rfl (L' := #[.val (.int c), .val (.int k), .val (.int d), .val (.ref a_1), .val (.ref a_103), .val (.int (1 : Int32)), .val (.int (12 : Int32)), .val (.int (12289 : Int32)), .val (.int (55295 : Int32)), .val (.int ins), .unset]) rfl ?_
        refine K.iload at_273 (pc' := 275) rfl rfl ?_
        refine K.calls (argsL := [(.int (12289 : Int32))]) (rest := []) at_275 (pc' := 278) rfl (c_ns l Z a0 hw n0 h_215 (p := (12289 : Int32)) ) (hw _ (List.mem_of_getElem? (i := 8) rfl)) (hw _ (List.mem_of_getElem? (i := 9) rfl)) (hw _ (List.mem_of_getElem? (i := 10) rfl)) (hw _ (List.mem_of_getElem? (i := 11) rfl)) (by decide) pd_1 rfl rfl (W := 0) (by simp [Value.category]) (by decide) (by decide) (by decide) (by decide) (fun v_472 h_470 q_471 => ?_)
        obtain ⟨rfl, rfl⟩ := q_471
        show G h_215 2 32 (mkF m 278 #[.val (.int c), .val (.int k), .val (.int d), .val (.ref a_1), .val (.ref a_103), .val (.int (1 : Int32)), .val (.int (12 : Int32)), .val (.int (12289 : Int32)), .val (.int (55295 : Int32)), .val (.int ins), .unset] [(.int (b2 (12289 = 58 ∨ (65 ≤ 12289 ∧ 12289 ≤ 90) ∨ 12289 = 95 ∨ (97 ≤ 12289 ∧ 12289 ≤ 122) ∨ (192 ≤ 12289 ∧ 12289 ≤ 214) ∨ (216 ≤ 12289 ∧ 12289 ≤ 246) ∨ (248 ≤ 12289 ∧ 12289 ≤ 767) ∨ (880 ≤ 12289 ∧ 12289 ≤ 893) ∨ (895 ≤ 12289 ∧ 12289 ≤ 8191) ∨ (8204 ≤ 12289 ∧ 12289 ≤ 8205) ∨ (8304 ≤ 12289 ∧ 12289 ≤ 8591) ∨ (11264 ≤ 12289 ∧ 12289 ≤ 12271) ∨ (12289 ≤ 12289 ∧ 12289 ≤ 55295) ∨ (63744 ≤ 12289 ∧ 12289 ≤ 64975) ∨ (65008 ≤ 12289 ∧ 12289 ≤ 65533) ∨ (65536 ≤ 12289 ∧ 12289 ≤ 983039))))])
        refine K.ifeqB at_278 (pc1 := 281) rfl (by decide) (pc2 := 321) (by decide) (fun c278 => ?_) (fun c278 => ?_)
        · exfalso; omega
        · refine K.iload at_281 (pc' := 283) rfl rfl ?_
          refine K.calls (argsL := [(.int (55295 : Int32))]) (rest := []) at_283 (pc' := 286) rfl (c_ns l Z a0 hw n0 h_215 (p := (55295 : Int32)) ) (hw _ (List.mem_of_getElem? (i := 8) rfl)) (hw _ (List.mem_of_getElem? (i := 9) rfl)) (hw _ (List.mem_of_getElem? (i := 10) rfl)) (hw _ (List.mem_of_getElem? (i := 11) rfl)) (by decide) pd_1 rfl rfl (W := 0) (by simp [Value.category]) (by decide) (by decide) (by decide) (by decide) (fun v_476 h_474 q_475 => ?_)
          obtain ⟨rfl, rfl⟩ := q_475
          show G h_215 2 32 (mkF m 286 #[.val (.int c), .val (.int k), .val (.int d), .val (.ref a_1), .val (.ref a_103), .val (.int (1 : Int32)), .val (.int (12 : Int32)), .val (.int (12289 : Int32)), .val (.int (55295 : Int32)), .val (.int ins), .unset] [(.int (b2 (55295 = 58 ∨ (65 ≤ 55295 ∧ 55295 ≤ 90) ∨ 55295 = 95 ∨ (97 ≤ 55295 ∧ 55295 ≤ 122) ∨ (192 ≤ 55295 ∧ 55295 ≤ 214) ∨ (216 ≤ 55295 ∧ 55295 ≤ 246) ∨ (248 ≤ 55295 ∧ 55295 ≤ 767) ∨ (880 ≤ 55295 ∧ 55295 ≤ 893) ∨ (895 ≤ 55295 ∧ 55295 ≤ 8191) ∨ (8204 ≤ 55295 ∧ 55295 ≤ 8205) ∨ (8304 ≤ 55295 ∧ 55295 ≤ 8591) ∨ (11264 ≤ 55295 ∧ 55295 ≤ 12271) ∨ (12289 ≤ 55295 ∧ 55295 ≤ 55295) ∨ (63744 ≤ 55295 ∧ 55295 ≤ 64975) ∨ (65008 ≤ 55295 ∧ 55295 ≤ 65533) ∨ (65536 ≤ 55295 ∧ 55295 ≤ 983039))))])
          refine K.ifeqB at_286 (pc1 := 289) rfl (by decide) (pc2 := 321) (by decide) (fun c286 => ?_) (fun c286 => ?_)
          · exfalso; omega
          · refine K.iload at_289 (pc' := 291) rfl rfl ?_
            refine K.calls (argsL := [(.int ins)]) (rest := []) at_291 (pc' := 294) rfl (c_ns l Z a0 hw n0 h_215 (p := ins) ) (hw _ (List.mem_of_getElem? (i := 8) rfl)) (hw _ (List.mem_of_getElem? (i := 9) rfl)) (hw _ (List.mem_of_getElem? (i := 10) rfl)) (hw _ (List.mem_of_getElem? (i := 11) rfl)) (by decide) pd_1 rfl rfl (W := 0) (by simp [Value.category]) (by decide) (by decide) (by decide) (by decide) (fun v_480 h_478 q_479 => ?_)
            obtain ⟨rfl, rfl⟩ := q_479
            show G h_215 2 32 (mkF m 294 #[.val (.int c), .val (.int k), .val (.int d), .val (.ref a_1), .val (.ref a_103), .val (.int (1 : Int32)), .val (.int (12 : Int32)), .val (.int (12289 : Int32)), .val (.int (55295 : Int32)), .val (.int ins), .unset] [(.int (b2 (ins.toInt = 58 ∨ (65 ≤ ins.toInt ∧ ins.toInt ≤ 90) ∨ ins.toInt = 95 ∨ (97 ≤ ins.toInt ∧ ins.toInt ≤ 122) ∨ (192 ≤ ins.toInt ∧ ins.toInt ≤ 214) ∨ (216 ≤ ins.toInt ∧ ins.toInt ≤ 246) ∨ (248 ≤ ins.toInt ∧ ins.toInt ≤ 767) ∨ (880 ≤ ins.toInt ∧ ins.toInt ≤ 893) ∨ (895 ≤ ins.toInt ∧ ins.toInt ≤ 8191) ∨ (8204 ≤ ins.toInt ∧ ins.toInt ≤ 8205) ∨ (8304 ≤ ins.toInt ∧ ins.toInt ≤ 8591) ∨ (11264 ≤ ins.toInt ∧ ins.toInt ≤ 12271) ∨ (12289 ≤ ins.toInt ∧ ins.toInt ≤ 55295) ∨ (63744 ≤ ins.toInt ∧ ins.toInt ≤ 64975) ∨ (65008 ≤ ins.toInt ∧ ins.toInt ≤ 65533) ∨ (65536 ≤ ins.toInt ∧ ins.toInt ≤ 983039))))])
            refine K.ifeqB at_294 (pc1 := 297) rfl (by decide) (pc2 := 321) (by decide) (fun c294 => ?_) (fun c294 => ?_)
            · exfalso; omega
            · refine K.iload at_297 (pc' := 299) rfl rfl ?_
              refine K.iconst at_299 (pc' := 300) rfl (z := 1) rfl ?_
              refine K.isub at_300 (pc' := 301) rfl (z := (12288 : Int32)) (by decide) ?_
              refine K.calls (argsL := [(.int (12288 : Int32))]) (rest := []) at_301 (pc' := 304) rfl (c_ns l Z a0 hw n0 h_215 (p := (12288 : Int32)) ) (hw _ (List.mem_of_getElem? (i := 8) rfl)) (hw _ (List.mem_of_getElem? (i := 9) rfl)) (hw _ (List.mem_of_getElem? (i := 10) rfl)) (hw _ (List.mem_of_getElem? (i := 11) rfl)) (by decide) pd_1 rfl rfl (W := 0) (by simp [Value.category]) (by decide) (by decide) (by decide) (by decide) (fun v_484 h_482 q_483 => ?_)
              obtain ⟨rfl, rfl⟩ := q_483
              show G h_215 2 32 (mkF m 304 #[.val (.int c), .val (.int k), .val (.int d), .val (.ref a_1), .val (.ref a_103), .val (.int (1 : Int32)), .val (.int (12 : Int32)), .val (.int (12289 : Int32)), .val (.int (55295 : Int32)), .val (.int ins), .unset] [(.int (b2 (12288 = 58 ∨ (65 ≤ 12288 ∧ 12288 ≤ 90) ∨ 12288 = 95 ∨ (97 ≤ 12288 ∧ 12288 ≤ 122) ∨ (192 ≤ 12288 ∧ 12288 ≤ 214) ∨ (216 ≤ 12288 ∧ 12288 ≤ 246) ∨ (248 ≤ 12288 ∧ 12288 ≤ 767) ∨ (880 ≤ 12288 ∧ 12288 ≤ 893) ∨ (895 ≤ 12288 ∧ 12288 ≤ 8191) ∨ (8204 ≤ 12288 ∧ 12288 ≤ 8205) ∨ (8304 ≤ 12288 ∧ 12288 ≤ 8591) ∨ (11264 ≤ 12288 ∧ 12288 ≤ 12271) ∨ (12289 ≤ 12288 ∧ 12288 ≤ 55295) ∨ (63744 ≤ 12288 ∧ 12288 ≤ 64975) ∨ (65008 ≤ 12288 ∧ 12288 ≤ 65533) ∨ (65536 ≤ 12288 ∧ 12288 ≤ 983039))))])
              refine K.ifneB at_304 (pc1 := 307) rfl (by decide) (pc2 := 321) (by decide) (fun c304 => ?_) (fun c304 => ?_)
              · exfalso; omega
              · refine K.iload at_307 (pc' := 309) rfl rfl ?_
                refine K.iconst at_309 (pc' := 310) rfl (z := 1) rfl ?_
                refine K.iadd at_310 (pc' := 311) rfl (z := (55296 : Int32)) (by decide) ?_
                refine K.calls (argsL := [(.int (55296 : Int32))]) (rest := []) at_311 (pc' := 314) rfl (c_ns l Z a0 hw n0 h_215 (p := (55296 : Int32)) ) (hw _ (List.mem_of_getElem? (i := 8) rfl)) (hw _ (List.mem_of_getElem? (i := 9) rfl)) (hw _ (List.mem_of_getElem? (i := 10) rfl)) (hw _ (List.mem_of_getElem? (i := 11) rfl)) (by decide) pd_1 rfl rfl (W := 0) (by simp [Value.category]) (by decide) (by decide) (by decide) (by decide) (fun v_488 h_486 q_487 => ?_)
                obtain ⟨rfl, rfl⟩ := q_487
                show G h_215 2 32 (mkF m 314 #[.val (.int c), .val (.int k), .val (.int d), .val (.ref a_1), .val (.ref a_103), .val (.int (1 : Int32)), .val (.int (12 : Int32)), .val (.int (12289 : Int32)), .val (.int (55295 : Int32)), .val (.int ins), .unset] [(.int (b2 (55296 = 58 ∨ (65 ≤ 55296 ∧ 55296 ≤ 90) ∨ 55296 = 95 ∨ (97 ≤ 55296 ∧ 55296 ≤ 122) ∨ (192 ≤ 55296 ∧ 55296 ≤ 214) ∨ (216 ≤ 55296 ∧ 55296 ≤ 246) ∨ (248 ≤ 55296 ∧ 55296 ≤ 767) ∨ (880 ≤ 55296 ∧ 55296 ≤ 893) ∨ (895 ≤ 55296 ∧ 55296 ≤ 8191) ∨ (8204 ≤ 55296 ∧ 55296 ≤ 8205) ∨ (8304 ≤ 55296 ∧ 55296 ≤ 8591) ∨ (11264 ≤ 55296 ∧ 55296 ≤ 12271) ∨ (12289 ≤ 55296 ∧ 55296 ≤ 55295) ∨ (63744 ≤ 55296 ∧ 55296 ≤ 64975) ∨ (65008 ≤ 55296 ∧ 55296 ≤ 65533) ∨ (65536 ≤ 55296 ∧ 55296 ≤ 983039))))])
                refine K.ifneB at_314 (pc1 := 317) rfl (by decide) (pc2 := 321) (by decide) (fun c314 => ?_) (fun c314 => ?_)
                · exfalso; omega
                · refine K.iconst at_317 (pc' := 318) rfl (z := 1) rfl ?_
                  refine K.goto at_318 (by decide) (pc' := 322) (by decide) ?_
                  refine K.istore at_322 (pc' := 324) rfl (L' := #[.val (.int c), .val (.int k), .val (.int d), .val (.ref a_1), .val (.ref a_103), .val (.int (1 : Int32)), .val (.int (12 : Int32)), .val (.int (12289 : Int32)), .val (.int (55295 : Int32)), .val (.int ins), .val (.int (1 : Int32))]) rfl ?_
                  refine K.iload at_324 (pc' := 326) rfl rfl ?_
                  refine K.if_eq at_326 (pc1 := 329) rfl (by decide) (pc2 := 338) (by decide) (a := 1) rfl (fun c326 => ?_) (fun c326 => ?_)
                  · exfalso; omega
                  · refine K.iload at_329 (pc' := 331) rfl rfl ?_
                    refine K.if_eq at_331 (pc1 := 334) rfl (by decide) (pc2 := 338) (by decide) (a := 1) rfl (fun c331 => ?_) (fun c331 => ?_)
                    · exfalso; omega
                    · refine K.iconst at_334 (pc' := 335) rfl (z := 1) rfl ?_
                      refine K.goto at_335 (by decide) (pc' := 339) (by decide) ?_
                      exact K.retz at_339 (Or.inr rfl) (by decide) (by decide) rfl
      · refine K.aloadN at_243 (pc' := 244) rfl rfl rfl ?_
        refine K.iload at_244 (pc' := 246) rfl rfl ?_
        refine K.iald at_246 (pc' := 247) rfl f_218 (i := 13) rfl rfl ?_
        refine K.istore at_247 (pc' := 249) rfl (L' := #[.val (.int c), .val (.int k), .val (.int d), .val (.ref a_1), .val (.ref a_103), .val (.int (1 : Int32)), .val (.int (13 : Int32)), .val (.int (63744 : Int32)), .unset, .unset, .unset]) rfl ?_
        refine K.aload at_249 (pc' := 251) rfl rfl rfl ?_
        refine K.iload at_251 (pc' := 253) rfl rfl ?_
        refine K.iald at_253 (pc' := 254) rfl A_221 (i := 13) rfl rfl ?_
        refine K.istore at_254 (pc' := 256) rfl (L' := #[.val (.int c), .val (.int k), .val (.int d), .val (.ref a_1), .val (.ref a_103), .val (.int (1 : Int32)), .val (.int (13 : Int32)), .val (.int (63744 : Int32)), .val (.int (64975 : Int32)), .unset, .unset]) rfl ?_
        refine K.iload at_256 (pc' := 258) rfl rfl ?_
        refine K.iloadN at_258 (pc' := 259) rfl rfl ?_
        refine K.ldcI at_259 (pc' := 261) rfl (hw _ (List.mem_of_getElem? (i := 19) rfl)) ?_
        obtain ⟨z261, e_z261⟩ : ∃ z, d &&& (2147483647 : Int32) = z := ⟨_, rfl⟩
        have r_z261 : z261.toInt = d.toInt % 2147483648 := by have q := c_mask d (2147483647 : Int32) 31 (by decide) (by decide); rw [e_z261] at q; exact q
        refine K.iand at_261 (pc' := 262) rfl e_z261 ?_
        refine K.iload at_262 (pc' := 264) rfl rfl ?_
        refine K.iload at_264 (pc' := 266) rfl rfl ?_
        refine K.isub at_266 (pc' := 267) rfl (z := (1231 : Int32)) (by decide) ?_
        refine K.iconst at_267 (pc' := 268) rfl (z := 1) rfl ?_
        refine K.iadd at_268 (pc' := 269) rfl (z := (1232 : Int32)) (by decide) ?_
        obtain ⟨z269, e_z269⟩ : ∃ z, z261 % (1232 : Int32) = z := ⟨_, rfl⟩
        have r_z269 : (0 ≤ z261.toInt → z269.toInt = z261.toInt % 1232) ∧ (z261.toInt < 0 → z269.toInt = -((-z261.toInt) % 1232)) := by have q := c_irem z261 (1232 : Int32) 1232 rfl; rw [e_z269] at q; exact q
        refine K.irem at_269 (pc' := 270) rfl (by decide) e_z269 ?_
        obtain ⟨ins, e_ins⟩ : ∃ z, (63744 : Int32) + z269 = z := ⟨_, rfl⟩
        have r_ins : (ins.toInt - (63744 + z269.toInt)) % 4294967296 = 0 := by have q := c_iadd (63744 : Int32) z269; rw [e_ins] at q; exact q
        have g_ins := rng32 ins
        have t_ins : ins.toInt = 63744 + z269.toInt := by omega
        clear r_ins
        clear g_ins
        refine K.iadd at_270 (pc' := 271) rfl e_ins ?_
        refine K.istore at_271 (pc' := 273) rfl (L' := #[.val (.int c), .val (.int k), .val (.int d), .val (.ref a_1), .val (.ref a_103), .val (.int (1 : Int32)), .val (.int (13 : Int32)), .val (.int (63744 : Int32)), .val (.int (64975 : Int32)), .val (.int ins), .unset]) rfl ?_
        refine K.iload at_273 (pc' := 275) rfl rfl ?_
        refine K.calls (argsL := [(.int (63744 : Int32))]) (rest := []) at_275 (pc' := 278) rfl (c_ns l Z a0 hw n0 h_215 (p := (63744 : Int32)) ) (hw _ (List.mem_of_getElem? (i := 8) rfl)) (hw _ (List.mem_of_getElem? (i := 9) rfl)) (hw _ (List.mem_of_getElem? (i := 10) rfl)) (hw _ (List.mem_of_getElem? (i := 11) rfl)) (by decide) pd_1 rfl rfl (W := 0) (by simp [Value.category]) (by decide) (by decide) (by decide) (by decide) (fun v_492 h_490 q_491 => ?_)
        obtain ⟨rfl, rfl⟩ := q_491
        show G h_215 2 32 (mkF m 278 #[.val (.int c), .val (.int k), .val (.int d), .val (.ref a_1), .val (.ref a_103), .val (.int (1 : Int32)), .val (.int (13 : Int32)), .val (.int (63744 : Int32)), .val (.int (64975 : Int32)), .val (.int ins), .unset] [(.int (b2 (63744 = 58 ∨ (65 ≤ 63744 ∧ 63744 ≤ 90) ∨ 63744 = 95 ∨ (97 ≤ 63744 ∧ 63744 ≤ 122) ∨ (192 ≤ 63744 ∧ 63744 ≤ 214) ∨ (216 ≤ 63744 ∧ 63744 ≤ 246) ∨ (248 ≤ 63744 ∧ 63744 ≤ 767) ∨ (880 ≤ 63744 ∧ 63744 ≤ 893) ∨ (895 ≤ 63744 ∧ 63744 ≤ 8191) ∨ (8204 ≤ 63744 ∧ 63744 ≤ 8205) ∨ (8304 ≤ 63744 ∧ 63744 ≤ 8591) ∨ (11264 ≤ 63744 ∧ 63744 ≤ 12271) ∨ (12289 ≤ 63744 ∧ 63744 ≤ 55295) ∨ (63744 ≤ 63744 ∧ 63744 ≤ 64975) ∨ (65008 ≤ 63744 ∧ 63744 ≤ 65533) ∨ (65536 ≤ 63744 ∧ 63744 ≤ 983039))))])
        refine K.ifeqB at_278 (pc1 := 281) rfl (by decide) (pc2 := 321) (by decide) (fun c278 => ?_) (fun c278 => ?_)
        · exfalso; omega
        · refine K.iload at_281 (pc' := 283) rfl rfl ?_
          refine K.calls (argsL := [(.int (64975 : Int32))]) (rest := []) at_283 (pc' := 286) rfl (c_ns l Z a0 hw n0 h_215 (p := (64975 : Int32)) ) (hw _ (List.mem_of_getElem? (i := 8) rfl)) (hw _ (List.mem_of_getElem? (i := 9) rfl)) (hw _ (List.mem_of_getElem? (i := 10) rfl)) (hw _ (List.mem_of_getElem? (i := 11) rfl)) (by decide) pd_1 rfl rfl (W := 0) (by simp [Value.category]) (by decide) (by decide) (by decide) (by decide) (fun v_496 h_494 q_495 => ?_)
          obtain ⟨rfl, rfl⟩ := q_495
          show G h_215 2 32 (mkF m 286 #[.val (.int c), .val (.int k), .val (.int d), .val (.ref a_1), .val (.ref a_103), .val (.int (1 : Int32)), .val (.int (13 : Int32)), .val (.int (63744 : Int32)), .val (.int (64975 : Int32)), .val (.int ins), .unset] [(.int (b2 (64975 = 58 ∨ (65 ≤ 64975 ∧ 64975 ≤ 90) ∨ 64975 = 95 ∨ (97 ≤ 64975 ∧ 64975 ≤ 122) ∨ (192 ≤ 64975 ∧ 64975 ≤ 214) ∨ (216 ≤ 64975 ∧ 64975 ≤ 246) ∨ (248 ≤ 64975 ∧ 64975 ≤ 767) ∨ (880 ≤ 64975 ∧ 64975 ≤ 893) ∨ (895 ≤ 64975 ∧ 64975 ≤ 8191) ∨ (8204 ≤ 64975 ∧ 64975 ≤ 8205) ∨ (8304 ≤ 64975 ∧ 64975 ≤ 8591) ∨ (11264 ≤ 64975 ∧ 64975 ≤ 12271) ∨ (12289 ≤ 64975 ∧ 64975 ≤ 55295) ∨ (63744 ≤ 64975 ∧ 64975 ≤ 64975) ∨ (65008 ≤ 64975 ∧ 64975 ≤ 65533) ∨ (65536 ≤ 64975 ∧ 64975 ≤ 983039))))])
          refine K.ifeqB at_286 (pc1 := 289) rfl (by decide) (pc2 := 321) (by decide) (fun c286 => ?_) (fun c286 => ?_)
          · exfalso; omega
          · refine K.iload at_289 (pc' := 291) rfl rfl ?_
            refine K.calls (argsL := [(.int ins)]) (rest := []) at_291 (pc' := 294) rfl (c_ns l Z a0 hw n0 h_215 (p := ins) ) (hw _ (List.mem_of_getElem? (i := 8) rfl)) (hw _ (List.mem_of_getElem? (i := 9) rfl)) (hw _ (List.mem_of_getElem? (i := 10) rfl)) (hw _ (List.mem_of_getElem? (i := 11) rfl)) (by decide) pd_1 rfl rfl (W := 0) (by simp [Value.category]) (by decide) (by decide) (by decide) (by decide) (fun v_500 h_498 q_499 => ?_)
            obtain ⟨rfl, rfl⟩ := q_499
            show G h_215 2 32 (mkF m 294 #[.val (.int c), .val (.int k), .val (.int d), .val (.ref a_1), .val (.ref a_103), .val (.int (1 : Int32)), .val (.int (13 : Int32)), .val (.int (63744 : Int32)), .val (.int (64975 : Int32)), .val (.int ins), .unset] [(.int (b2 (ins.toInt = 58 ∨ (65 ≤ ins.toInt ∧ ins.toInt ≤ 90) ∨ ins.toInt = 95 ∨ (97 ≤ ins.toInt ∧ ins.toInt ≤ 122) ∨ (192 ≤ ins.toInt ∧ ins.toInt ≤ 214) ∨ (216 ≤ ins.toInt ∧ ins.toInt ≤ 246) ∨ (248 ≤ ins.toInt ∧ ins.toInt ≤ 767) ∨ (880 ≤ ins.toInt ∧ ins.toInt ≤ 893) ∨ (895 ≤ ins.toInt ∧ ins.toInt ≤ 8191) ∨ (8204 ≤ ins.toInt ∧ ins.toInt ≤ 8205) ∨ (8304 ≤ ins.toInt ∧ ins.toInt ≤ 8591) ∨ (11264 ≤ ins.toInt ∧ ins.toInt ≤ 12271) ∨ (12289 ≤ ins.toInt ∧ ins.toInt ≤ 55295) ∨ (63744 ≤ ins.toInt ∧ ins.toInt ≤ 64975) ∨ (65008 ≤ ins.toInt ∧ ins.toInt ≤ 65533) ∨ (65536 ≤ ins.toInt ∧ ins.toInt ≤ 983039))))])
            refine K.ifeqB at_294 (pc1 := 297) rfl (by decide) (pc2 := 321) (by decide) (fun c294 => ?_) (fun c294 => ?_)
            · exfalso; omega
            · refine K.iload at_297 (pc' := 299) rfl rfl ?_
              refine K.iconst at_299 (pc' := 300) rfl (z := 1) rfl ?_
              refine K.isub at_300 (pc' := 301) rfl (z := (63743 : Int32)) (by decide) ?_
              refine K.calls (argsL := [(.int (63743 : Int32))]) (rest := []) at_301 (pc' := 304) rfl (c_ns l Z a0 hw n0 h_215 (p := (63743 : Int32)) ) (hw _ (List.mem_of_getElem? (i := 8) rfl)) (hw _ (List.mem_of_getElem? (i := 9) rfl)) (hw _ (List.mem_of_getElem? (i := 10) rfl)) (hw _ (List.mem_of_getElem? (i := 11) rfl)) (by decide) pd_1 rfl rfl (W := 0) (by simp [Value.category]) (by decide) (by decide) (by decide) (by decide) (fun v_504 h_502 q_503 => ?_)
              obtain ⟨rfl, rfl⟩ := q_503
              show G h_215 2 32 (mkF m 304 #[.val (.int c), .val (.int k), .val (.int d), .val (.ref a_1), .val (.ref a_103), .val (.int (1 : Int32)), .val (.int (13 : Int32)), .val (.int (63744 : Int32)), .val (.int (64975 : Int32)), .val (.int ins), .unset] [(.int (b2 (63743 = 58 ∨ (65 ≤ 63743 ∧ 63743 ≤ 90) ∨ 63743 = 95 ∨ (97 ≤ 63743 ∧ 63743 ≤ 122) ∨ (192 ≤ 63743 ∧ 63743 ≤ 214) ∨ (216 ≤ 63743 ∧ 63743 ≤ 246) ∨ (248 ≤ 63743 ∧ 63743 ≤ 767) ∨ (880 ≤ 63743 ∧ 63743 ≤ 893) ∨ (895 ≤ 63743 ∧ 63743 ≤ 8191) ∨ (8204 ≤ 63743 ∧ 63743 ≤ 8205) ∨ (8304 ≤ 63743 ∧ 63743 ≤ 8591) ∨ (11264 ≤ 63743 ∧ 63743 ≤ 12271) ∨ (12289 ≤ 63743 ∧ 63743 ≤ 55295) ∨ (63744 ≤ 63743 ∧ 63743 ≤ 64975) ∨ (65008 ≤ 63743 ∧ 63743 ≤ 65533) ∨ (65536 ≤ 63743 ∧ 63743 ≤ 983039))))])
              refine K.ifneB at_304 (pc1 := 307) rfl (by decide) (pc2 := 321) (by decide) (fun c304 => ?_) (fun c304 => ?_)
              · exfalso; omega
              · refine K.iload at_307 (pc' := 309) rfl rfl ?_
                refine K.iconst at_309 (pc' := 310) rfl (z := 1) rfl ?_
                refine K.iadd at_310 (pc' := 311) rfl (z := (64976 : Int32)) (by decide) ?_
                refine K.calls (argsL := [(.int (64976 : Int32))]) (rest := []) at_311 (pc' := 314) rfl (c_ns l Z a0 hw n0 h_215 (p := (64976 : Int32)) ) (hw _ (List.mem_of_getElem? (i := 8) rfl)) (hw _ (List.mem_of_getElem? (i := 9) rfl)) (hw _ (List.mem_of_getElem? (i := 10) rfl)) (hw _ (List.mem_of_getElem? (i := 11) rfl)) (by decide) pd_1 rfl rfl (W := 0) (by simp [Value.category]) (by decide) (by decide) (by decide) (by decide) (fun v_508 h_506 q_507 => ?_)
                obtain ⟨rfl, rfl⟩ := q_507
                show G h_215 2 32 (mkF m 314 #[.val (.int c), .val (.int k), .val (.int d), .val (.ref a_1), .val (.ref a_103), .val (.int (1 : Int32)), .val (.int (13 : Int32)), .val (.int (63744 : Int32)), .val (.int (64975 : Int32)), .val (.int ins), .unset] [(.int (b2 (64976 = 58 ∨ (65 ≤ 64976 ∧ 64976 ≤ 90) ∨ 64976 = 95 ∨ (97 ≤ 64976 ∧ 64976 ≤ 122) ∨ (192 ≤ 64976 ∧ 64976 ≤ 214) ∨ (216 ≤ 64976 ∧ 64976 ≤ 246) ∨ (248 ≤ 64976 ∧ 64976 ≤ 767) ∨ (880 ≤ 64976 ∧ 64976 ≤ 893) ∨ (895 ≤ 64976 ∧ 64976 ≤ 8191) ∨ (8204 ≤ 64976 ∧ 64976 ≤ 8205) ∨ (8304 ≤ 64976 ∧ 64976 ≤ 8591) ∨ (11264 ≤ 64976 ∧ 64976 ≤ 12271) ∨ (12289 ≤ 64976 ∧ 64976 ≤ 55295) ∨ (63744 ≤ 64976 ∧ 64976 ≤ 64975) ∨ (65008 ≤ 64976 ∧ 64976 ≤ 65533) ∨ (65536 ≤ 64976 ∧ 64976 ≤ 983039))))])
                refine K.ifneB at_314 (pc1 := 317) rfl (by decide) (pc2 := 321) (by decide) (fun c314 => ?_) (fun c314 => ?_)
                · exfalso; omega
                · refine K.iconst at_317 (pc' := 318) rfl (z := 1) rfl ?_
                  refine K.goto at_318 (by decide) (pc' := 322) (by decide) ?_
                  refine K.istore at_322 (pc' := 324) rfl (L' := #[.val (.int c), .val (.int k), .val (.int d), .val (.ref a_1), .val (.ref a_103), .val (.int (1 : Int32)), .val (.int (13 : Int32)), .val (.int (63744 : Int32)), .val (.int (64975 : Int32)), .val (.int ins), .val (.int (1 : Int32))]) rfl ?_
                  refine K.iload at_324 (pc' := 326) rfl rfl ?_
                  refine K.if_eq at_326 (pc1 := 329) rfl (by decide) (pc2 := 338) (by decide) (a := 1) rfl (fun c326 => ?_) (fun c326 => ?_)
                  · exfalso; omega
                  · refine K.iload at_329 (pc' := 331) rfl rfl ?_
                    refine K.if_eq at_331 (pc1 := 334) rfl (by decide) (pc2 := 338) (by decide) (a := 1) rfl (fun c331 => ?_) (fun c331 => ?_)
                    · exfalso; omega
                    · refine K.iconst at_334 (pc' := 335) rfl (z := 1) rfl ?_
                      refine K.goto at_335 (by decide) (pc' := 339) (by decide) ?_
                      exact K.retz at_339 (Or.inr rfl) (by decide) (by decide) rfl
      · refine K.aloadN at_243 (pc' := 244) rfl rfl rfl ?_
        refine K.iload at_244 (pc' := 246) rfl rfl ?_
        refine K.iald at_246 (pc' := 247) rfl f_218 (i := 14) rfl rfl ?_
        refine K.istore at_247 (pc' := 249) rfl (L' := #[.val (.int c), .val (.int k), .val (.int d), .val (.ref a_1), .val (.ref a_103), .val (.int (1 : Int32)), .val (.int (14 : Int32)), .val (.int (65008 : Int32)), .unset, .unset, .unset]) rfl ?_
        refine K.aload at_249 (pc' := 251) rfl rfl rfl ?_
        refine K.iload at_251 (pc' := 253) rfl rfl ?_
        refine K.iald at_253 (pc' := 254) rfl A_221 (i := 14) rfl rfl ?_
        refine K.istore at_254 (pc' := 256) rfl (L' := #[.val (.int c), .val (.int k), .val (.int d), .val (.ref a_1), .val (.ref a_103), .val (.int (1 : Int32)), .val (.int (14 : Int32)), .val (.int (65008 : Int32)), .val (.int (65533 : Int32)), .unset, .unset]) rfl ?_
        refine K.iload at_256 (pc' := 258) rfl rfl ?_
        refine K.iloadN at_258 (pc' := 259) rfl rfl ?_
        refine K.ldcI at_259 (pc' := 261) rfl (hw _ (List.mem_of_getElem? (i := 19) rfl)) ?_
        obtain ⟨z261, e_z261⟩ : ∃ z, d &&& (2147483647 : Int32) = z := ⟨_, rfl⟩
        have r_z261 : z261.toInt = d.toInt % 2147483648 := by have q := c_mask d (2147483647 : Int32) 31 (by decide) (by decide); rw [e_z261] at q; exact q
        refine K.iand at_261 (pc' := 262) rfl e_z261 ?_
        refine K.iload at_262 (pc' := 264) rfl rfl ?_
        refine K.iload at_264 (pc' := 266) rfl rfl ?_
        refine K.isub at_266 (pc' := 267) rfl (z := (525 : Int32)) (by decide) ?_
        refine K.iconst at_267 (pc' := 268) rfl (z := 1) rfl ?_
        refine K.iadd at_268 (pc' := 269) rfl (z := (526 : Int32)) (by decide) ?_
        obtain ⟨z269, e_z269⟩ : ∃ z, z261 % (526 : Int32) = z := ⟨_, rfl⟩
        have r_z269 : (0 ≤ z261.toInt → z269.toInt = z261.toInt % 526) ∧ (z261.toInt < 0 → z269.toInt = -((-z261.toInt) % 526)) := by have q := c_irem z261 (526 : Int32) 526 rfl; rw [e_z269] at q; exact q
        refine K.irem at_269 (pc' := 270) rfl (by decide) e_z269 ?_
        obtain ⟨ins, e_ins⟩ : ∃ z, (65008 : Int32) + z269 = z := ⟨_, rfl⟩
        have r_ins : (ins.toInt - (65008 + z269.toInt)) % 4294967296 = 0 := by have q := c_iadd (65008 : Int32) z269; rw [e_ins] at q; exact q
        have g_ins := rng32 ins
        have t_ins : ins.toInt = 65008 + z269.toInt := by omega
        clear r_ins
        clear g_ins
        refine K.iadd at_270 (pc' := 271) rfl e_ins ?_
        refine K.istore at_271 (pc' := 273) rfl (L' := #[.val (.int c), .val (.int k), .val (.int d), .val (.ref a_1), .val (.ref a_103), .val (.int (1 : Int32)), .val (.int (14 : Int32)), .val (.int (65008 : Int32)), .val (.int (65533 : Int32)), .val (.int ins), .unset]) rfl ?_
        refine K.iload at_273 (pc' := 275) rfl rfl ?_
        refine K.calls (argsL := [(.int (65008 : Int32))]) (rest := []) at_275 (pc' := 278) rfl (c_ns l Z a0 hw n0 h_215 (p := (65008 : Int32)) ) (hw _ (List.mem_of_getElem? (i := 8) rfl)) (hw _ (List.mem_of_getElem? (i := 9) rfl)) (hw _ (List.mem_of_getElem? (i := 10) rfl)) (hw _ (List.mem_of_getElem? (i := 11) rfl)) (by decide) pd_1 rfl rfl (W := 0) (by simp [Value.category]) (by decide) (by decide) (by decide) (by decide) (fun v_512 h_510 q_511 => ?_)
        obtain ⟨rfl, rfl⟩ := q_511
        show G h_215 2 32 (mkF m 278 #[.val (.int c), .val (.int k), .val (.int d), .val (.ref a_1), .val (.ref a_103), .val (.int (1 : Int32)), .val (.int (14 : Int32)), .val (.int (65008 : Int32)), .val (.int (65533 : Int32)), .val (.int ins), .unset] [(.int (b2 (65008 = 58 ∨ (65 ≤ 65008 ∧ 65008 ≤ 90) ∨ 65008 = 95 ∨ (97 ≤ 65008 ∧ 65008 ≤ 122) ∨ (192 ≤ 65008 ∧ 65008 ≤ 214) ∨ (216 ≤ 65008 ∧ 65008 ≤ 246) ∨ (248 ≤ 65008 ∧ 65008 ≤ 767) ∨ (880 ≤ 65008 ∧ 65008 ≤ 893) ∨ (895 ≤ 65008 ∧ 65008 ≤ 8191) ∨ (8204 ≤ 65008 ∧ 65008 ≤ 8205) ∨ (8304 ≤ 65008 ∧ 65008 ≤ 8591) ∨ (11264 ≤ 65008 ∧ 65008 ≤ 12271) ∨ (12289 ≤ 65008 ∧ 65008 ≤ 55295) ∨ (63744 ≤ 65008 ∧ 65008 ≤ 64975) ∨ (65008 ≤ 65008 ∧ 65008 ≤ 65533) ∨ (65536 ≤ 65008 ∧ 65008 ≤ 983039))))])
        refine K.ifeqB at_278 (pc1 := 281) rfl (by decide) (pc2 := 321) (by decide) (fun c278 => ?_) (fun c278 => ?_)
        · exfalso; omega
        · refine K.iload at_281 (pc' := 283) rfl rfl ?_
          refine K.calls (argsL := [(.int (65533 : Int32))]) (rest := []) at_283 (pc' := 286) rfl (c_ns l Z a0 hw n0 h_215 (p := (65533 : Int32)) ) (hw _ (List.mem_of_getElem? (i := 8) rfl)) (hw _ (List.mem_of_getElem? (i := 9) rfl)) (hw _ (List.mem_of_getElem? (i := 10) rfl)) (hw _ (List.mem_of_getElem? (i := 11) rfl)) (by decide) pd_1 rfl rfl (W := 0) (by simp [Value.category]) (by decide) (by decide) (by decide) (by decide) (fun v_516 h_514 q_515 => ?_)
          obtain ⟨rfl, rfl⟩ := q_515
          show G h_215 2 32 (mkF m 286 #[.val (.int c), .val (.int k), .val (.int d), .val (.ref a_1), .val (.ref a_103), .val (.int (1 : Int32)), .val (.int (14 : Int32)), .val (.int (65008 : Int32)), .val (.int (65533 : Int32)), .val (.int ins), .unset] [(.int (b2 (65533 = 58 ∨ (65 ≤ 65533 ∧ 65533 ≤ 90) ∨ 65533 = 95 ∨ (97 ≤ 65533 ∧ 65533 ≤ 122) ∨ (192 ≤ 65533 ∧ 65533 ≤ 214) ∨ (216 ≤ 65533 ∧ 65533 ≤ 246) ∨ (248 ≤ 65533 ∧ 65533 ≤ 767) ∨ (880 ≤ 65533 ∧ 65533 ≤ 893) ∨ (895 ≤ 65533 ∧ 65533 ≤ 8191) ∨ (8204 ≤ 65533 ∧ 65533 ≤ 8205) ∨ (8304 ≤ 65533 ∧ 65533 ≤ 8591) ∨ (11264 ≤ 65533 ∧ 65533 ≤ 12271) ∨ (12289 ≤ 65533 ∧ 65533 ≤ 55295) ∨ (63744 ≤ 65533 ∧ 65533 ≤ 64975) ∨ (65008 ≤ 65533 ∧ 65533 ≤ 65533) ∨ (65536 ≤ 65533 ∧ 65533 ≤ 983039))))])
          refine K.ifeqB at_286 (pc1 := 289) rfl (by decide) (pc2 := 321) (by decide) (fun c286 => ?_) (fun c286 => ?_)
          · exfalso; omega
          · refine K.iload at_289 (pc' := 291) rfl rfl ?_
            refine K.calls (argsL := [(.int ins)]) (rest := []) at_291 (pc' := 294) rfl (c_ns l Z a0 hw n0 h_215 (p := ins) ) (hw _ (List.mem_of_getElem? (i := 8) rfl)) (hw _ (List.mem_of_getElem? (i := 9) rfl)) (hw _ (List.mem_of_getElem? (i := 10) rfl)) (hw _ (List.mem_of_getElem? (i := 11) rfl)) (by decide) pd_1 rfl rfl (W := 0) (by simp [Value.category]) (by decide) (by decide) (by decide) (by decide) (fun v_520 h_518 q_519 => ?_)
            obtain ⟨rfl, rfl⟩ := q_519
            show G h_215 2 32 (mkF m 294 #[.val (.int c), .val (.int k), .val (.int d), .val (.ref a_1), .val (.ref a_103), .val (.int (1 : Int32)), .val (.int (14 : Int32)), .val (.int (65008 : Int32)), .val (.int (65533 : Int32)), .val (.int ins), .unset] [(.int (b2 (ins.toInt = 58 ∨ (65 ≤ ins.toInt ∧ ins.toInt ≤ 90) ∨ ins.toInt = 95 ∨ (97 ≤ ins.toInt ∧ ins.toInt ≤ 122) ∨ (192 ≤ ins.toInt ∧ ins.toInt ≤ 214) ∨ (216 ≤ ins.toInt ∧ ins.toInt ≤ 246) ∨ (248 ≤ ins.toInt ∧ ins.toInt ≤ 767) ∨ (880 ≤ ins.toInt ∧ ins.toInt ≤ 893) ∨ (895 ≤ ins.toInt ∧ ins.toInt ≤ 8191) ∨ (8204 ≤ ins.toInt ∧ ins.toInt ≤ 8205) ∨ (8304 ≤ ins.toInt ∧ ins.toInt ≤ 8591) ∨ (11264 ≤ ins.toInt ∧ ins.toInt ≤ 12271) ∨ (12289 ≤ ins.toInt ∧ ins.toInt ≤ 55295) ∨ (63744 ≤ ins.toInt ∧ ins.toInt ≤ 64975) ∨ (65008 ≤ ins.toInt ∧ ins.toInt ≤ 65533) ∨ (65536 ≤ ins.toInt ∧ ins.toInt ≤ 983039))))])
            refine K.ifeqB at_294 (pc1 := 297) rfl (by decide) (pc2 := 321) (by decide) (fun c294 => ?_) (fun c294 => ?_)
            · exfalso; omega
            · refine K.iload at_297 (pc' := 299) rfl rfl ?_
              refine K.iconst at_299 (pc' := 300) rfl (z := 1) rfl ?_
              refine K.isub at_300 (pc' := 301) rfl (z := (65007 : Int32)) (by decide) ?_
              refine K.calls (argsL := [(.int (65007 : Int32))]) (rest := []) at_301 (pc' := 304) rfl (c_ns l Z a0 hw n0 h_215 (p := (65007 : Int32)) ) (hw _ (List.mem_of_getElem? (i := 8) rfl)) (hw _ (List.mem_of_getElem? (i := 9) rfl)) (hw _ (List.mem_of_getElem? (i := 10) rfl)) (hw _ (List.mem_of_getElem? (i := 11) rfl)) (by decide) pd_1 rfl rfl (W := 0) (by simp [Value.category]) (by decide) (by decide) (by decide) (by decide) (fun v_524 h_522 q_523 => ?_)
              obtain ⟨rfl, rfl⟩ := q_523
              show G h_215 2 32 (mkF m 304 #[.val (.int c), .val (.int k), .val (.int d), .val (.ref a_1), .val (.ref a_103), .val (.int (1 : Int32)), .val (.int (14 : Int32)), .val (.int (65008 : Int32)), .val (.int (65533 : Int32)), .val (.int ins), .unset] [(.int (b2 (65007 = 58 ∨ (65 ≤ 65007 ∧ 65007 ≤ 90) ∨ 65007 = 95 ∨ (97 ≤ 65007 ∧ 65007 ≤ 122) ∨ (192 ≤ 65007 ∧ 65007 ≤ 214) ∨ (216 ≤ 65007 ∧ 65007 ≤ 246) ∨ (248 ≤ 65007 ∧ 65007 ≤ 767) ∨ (880 ≤ 65007 ∧ 65007 ≤ 893) ∨ (895 ≤ 65007 ∧ 65007 ≤ 8191) ∨ (8204 ≤ 65007 ∧ 65007 ≤ 8205) ∨ (8304 ≤ 65007 ∧ 65007 ≤ 8591) ∨ (11264 ≤ 65007 ∧ 65007 ≤ 12271) ∨ (12289 ≤ 65007 ∧ 65007 ≤ 55295) ∨ (63744 ≤ 65007 ∧ 65007 ≤ 64975) ∨ (65008 ≤ 65007 ∧ 65007 ≤ 65533) ∨ (65536 ≤ 65007 ∧ 65007 ≤ 983039))))])
              refine K.ifneB at_304 (pc1 := 307) rfl (by decide) (pc2 := 321) (by decide) (fun c304 => ?_) (fun c304 => ?_)
              · exfalso; omega
              · refine K.iload at_307 (pc' := 309) rfl rfl ?_
                refine K.iconst at_309 (pc' := 310) rfl (z := 1) rfl ?_
                refine K.iadd at_310 (pc' := 311) rfl (z := (65534 : Int32)) (by decide) ?_
                refine K.calls (argsL := [(.int (65534 : Int32))]) (rest := []) at_311 (pc' := 314) rfl (c_ns l Z a0 hw n0 h_215 (p := (65534 : Int32)) ) (hw _ (List.mem_of_getElem? (i := 8) rfl)) (hw _ (List.mem_of_getElem? (i := 9) rfl)) (hw _ (List.mem_of_getElem? (i := 10) rfl)) (hw _ (List.mem_of_getElem? (i := 11) rfl)) (by decide) pd_1 rfl rfl (W := 0) (by simp [Value.category]) (by decide) (by decide) (by decide) (by decide) (fun v_528 h_526 q_527 => ?_)
                obtain ⟨rfl, rfl⟩ := q_527
                show G h_215 2 32 (mkF m 314 #[.val (.int c), .val (.int k), .val (.int d), .val (.ref a_1), .val (.ref a_103), .val (.int (1 : Int32)), .val (.int (14 : Int32)), .val (.int (65008 : Int32)), .val (.int (65533 : Int32)), .val (.int ins), .unset] [(.int (b2 (65534 = 58 ∨ (65 ≤ 65534 ∧ 65534 ≤ 90) ∨ 65534 = 95 ∨ (97 ≤ 65534 ∧ 65534 ≤ 122) ∨ (192 ≤ 65534 ∧ 65534 ≤ 214) ∨ (216 ≤ 65534 ∧ 65534 ≤ 246) ∨ (248 ≤ 65534 ∧ 65534 ≤ 767) ∨ (880 ≤ 65534 ∧ 65534 ≤ 893) ∨ (895 ≤ 65534 ∧ 65534 ≤ 8191) ∨ (8204 ≤ 65534 ∧ 65534 ≤ 8205) ∨ (8304 ≤ 65534 ∧ 65534 ≤ 8591) ∨ (11264 ≤ 65534 ∧ 65534 ≤ 12271) ∨ (12289 ≤ 65534 ∧ 65534 ≤ 55295) ∨ (63744 ≤ 65534 ∧ 65534 ≤ 64975) ∨ (65008 ≤ 65534 ∧ 65534 ≤ 65533) ∨ (65536 ≤ 65534 ∧ 65534 ≤ 983039))))])
                refine K.ifneB at_314 (pc1 := 317) rfl (by decide) (pc2 := 321) (by decide) (fun c314 => ?_) (fun c314 => ?_)
                · exfalso; omega
                · refine K.iconst at_317 (pc' := 318) rfl (z := 1) rfl ?_
                  refine K.goto at_318 (by decide) (pc' := 322) (by decide) ?_
                  refine K.istore at_322 (pc' := 324) rfl (L' := #[.val (.int c), .val (.int k), .val (.int d), .val (.ref a_1), .val (.ref a_103), .val (.int (1 : Int32)), .val (.int (14 : Int32)), .val (.int (65008 : Int32)), .val (.int (65533 : Int32)), .val (.int ins), .val (.int (1 : Int32))]) rfl ?_
                  refine K.iload at_324 (pc' := 326) rfl rfl ?_
                  refine K.if_eq at_326 (pc1 := 329) rfl (by decide) (pc2 := 338) (by decide) (a := 1) rfl (fun c326 => ?_) (fun c326 => ?_)
                  · exfalso; omega
                  · refine K.iload at_329 (pc' := 331) rfl rfl ?_
                    refine K.if_eq at_331 (pc1 := 334) rfl (by decide) (pc2 := 338) (by decide) (a := 1) rfl (fun c331 => ?_) (fun c331 => ?_)
                    · exfalso; omega
                    · refine K.iconst at_334 (pc' := 335) rfl (z := 1) rfl ?_
                      refine K.goto at_335 (by decide) (pc' := 339) (by decide) ?_
                      exact K.retz at_339 (Or.inr rfl) (by decide) (by decide) rfl
      · refine K.aloadN at_243 (pc' := 244) rfl rfl rfl ?_
        refine K.iload at_244 (pc' := 246) rfl rfl ?_
        refine K.iald at_246 (pc' := 247) rfl f_218 (i := 15) rfl rfl ?_
        refine K.istore at_247 (pc' := 249) rfl (L' := #[.val (.int c), .val (.int k), .val (.int d), .val (.ref a_1), .val (.ref a_103), .val (.int (1 : Int32)), .val (.int (15 : Int32)), .val (.int (65536 : Int32)), .unset, .unset, .unset]) rfl ?_
        refine K.aload at_249 (pc' := 251) rfl rfl rfl ?_
        refine K.iload at_251 (pc' := 253) rfl rfl ?_
        refine K.iald at_253 (pc' := 254) rfl A_221 (i := 15) rfl rfl ?_
        refine K.istore at_254 (pc' := 256) rfl (L' := #[.val (.int c), .val (.int k), .val (.int d), .val (.ref a_1), .val (.ref a_103), .val (.int (1 : Int32)), .val (.int (15 : Int32)), .val (.int (65536 : Int32)), .val (.int (983039 : Int32)), .unset, .unset]) rfl ?_
        refine K.iload at_256 (pc' := 258) rfl rfl ?_
        refine K.iloadN at_258 (pc' := 259) rfl rfl ?_
        refine K.ldcI at_259 (pc' := 261) rfl (hw _ (List.mem_of_getElem? (i := 19) rfl)) ?_
        obtain ⟨z261, e_z261⟩ : ∃ z, d &&& (2147483647 : Int32) = z := ⟨_, rfl⟩
        have r_z261 : z261.toInt = d.toInt % 2147483648 := by have q := c_mask d (2147483647 : Int32) 31 (by decide) (by decide); rw [e_z261] at q; exact q
        refine K.iand at_261 (pc' := 262) rfl e_z261 ?_
        refine K.iload at_262 (pc' := 264) rfl rfl ?_
        refine K.iload at_264 (pc' := 266) rfl rfl ?_
        refine K.isub at_266 (pc' := 267) rfl (z := (917503 : Int32)) (by decide) ?_
        refine K.iconst at_267 (pc' := 268) rfl (z := 1) rfl ?_
        refine K.iadd at_268 (pc' := 269) rfl (z := (917504 : Int32)) (by decide) ?_
        obtain ⟨z269, e_z269⟩ : ∃ z, z261 % (917504 : Int32) = z := ⟨_, rfl⟩
        have r_z269 : (0 ≤ z261.toInt → z269.toInt = z261.toInt % 917504) ∧ (z261.toInt < 0 → z269.toInt = -((-z261.toInt) % 917504)) := by have q := c_irem z261 (917504 : Int32) 917504 rfl; rw [e_z269] at q; exact q
        refine K.irem at_269 (pc' := 270) rfl (by decide) e_z269 ?_
        obtain ⟨ins, e_ins⟩ : ∃ z, (65536 : Int32) + z269 = z := ⟨_, rfl⟩
        have r_ins : (ins.toInt - (65536 + z269.toInt)) % 4294967296 = 0 := by have q := c_iadd (65536 : Int32) z269; rw [e_ins] at q; exact q
        have g_ins := rng32 ins
        have t_ins : ins.toInt = 65536 + z269.toInt := by omega
        clear r_ins
        clear g_ins
        refine K.iadd at_270 (pc' := 271) rfl e_ins ?_
        refine K.istore at_271 (pc' := 273) rfl (L' := #[.val (.int c), .val (.int k), .val (.int d), .val (.ref a_1), .val (.ref a_103), .val (.int (1 : Int32)), .val (.int (15 : Int32)), .val (.int (65536 : Int32)), .val (.int (983039 : Int32)), .val (.int ins), .unset]) rfl ?_
        refine K.iload at_273 (pc' := 275) rfl rfl ?_
        refine K.calls (argsL := [(.int (65536 : Int32))]) (rest := []) at_275 (pc' := 278) rfl (c_ns l Z a0 hw n0 h_215 (p := (65536 : Int32)) ) (hw _ (List.mem_of_getElem? (i := 8) rfl)) (hw _ (List.mem_of_getElem? (i := 9) rfl)) (hw _ (List.mem_of_getElem? (i := 10) rfl)) (hw _ (List.mem_of_getElem? (i := 11) rfl)) (by decide) pd_1 rfl rfl (W := 0) (by simp [Value.category]) (by decide) (by decide) (by decide) (by decide) (fun v_532 h_530 q_531 => ?_)
        obtain ⟨rfl, rfl⟩ := q_531
        show G h_215 2 32 (mkF m 278 #[.val (.int c), .val (.int k), .val (.int d), .val (.ref a_1), .val (.ref a_103), .val (.int (1 : Int32)), .val (.int (15 : Int32)), .val (.int (65536 : Int32)), .val (.int (983039 : Int32)), .val (.int ins), .unset] [(.int (b2 (65536 = 58 ∨ (65 ≤ 65536 ∧ 65536 ≤ 90) ∨ 65536 = 95 ∨ (97 ≤ 65536 ∧ 65536 ≤ 122) ∨ (192 ≤ 65536 ∧ 65536 ≤ 214) ∨ (216 ≤ 65536 ∧ 65536 ≤ 246) ∨ (248 ≤ 65536 ∧ 65536 ≤ 767) ∨ (880 ≤ 65536 ∧ 65536 ≤ 893) ∨ (895 ≤ 65536 ∧ 65536 ≤ 8191) ∨ (8204 ≤ 65536 ∧ 65536 ≤ 8205) ∨ (8304 ≤ 65536 ∧ 65536 ≤ 8591) ∨ (11264 ≤ 65536 ∧ 65536 ≤ 12271) ∨ (12289 ≤ 65536 ∧ 65536 ≤ 55295) ∨ (63744 ≤ 65536 ∧ 65536 ≤ 64975) ∨ (65008 ≤ 65536 ∧ 65536 ≤ 65533) ∨ (65536 ≤ 65536 ∧ 65536 ≤ 983039))))])
        refine K.ifeqB at_278 (pc1 := 281) rfl (by decide) (pc2 := 321) (by decide) (fun c278 => ?_) (fun c278 => ?_)
        · exfalso; omega
        · refine K.iload at_281 (pc' := 283) rfl rfl ?_
          refine K.calls (argsL := [(.int (983039 : Int32))]) (rest := []) at_283 (pc' := 286) rfl (c_ns l Z a0 hw n0 h_215 (p := (983039 : Int32)) ) (hw _ (List.mem_of_getElem? (i := 8) rfl)) (hw _ (List.mem_of_getElem? (i := 9) rfl)) (hw _ (List.mem_of_getElem? (i := 10) rfl)) (hw _ (List.mem_of_getElem? (i := 11) rfl)) (by decide) pd_1 rfl rfl (W := 0) (by simp [Value.category]) (by decide) (by decide) (by decide) (by decide) (fun v_536 h_534 q_535 => ?_)
          obtain ⟨rfl, rfl⟩ := q_535
          show G h_215 2 32 (mkF m 286 #[.val (.int c), .val (.int k), .val (.int d), .val (.ref a_1), .val (.ref a_103), .val (.int (1 : Int32)), .val (.int (15 : Int32)), .val (.int (65536 : Int32)), .val (.int (983039 : Int32)), .val (.int ins), .unset] [(.int (b2 (983039 = 58 ∨ (65 ≤ 983039 ∧ 983039 ≤ 90) ∨ 983039 = 95 ∨ (97 ≤ 983039 ∧ 983039 ≤ 122) ∨ (192 ≤ 983039 ∧ 983039 ≤ 214) ∨ (216 ≤ 983039 ∧ 983039 ≤ 246) ∨ (248 ≤ 983039 ∧ 983039 ≤ 767) ∨ (880 ≤ 983039 ∧ 983039 ≤ 893) ∨ (895 ≤ 983039 ∧ 983039 ≤ 8191) ∨ (8204 ≤ 983039 ∧ 983039 ≤ 8205) ∨ (8304 ≤ 983039 ∧ 983039 ≤ 8591) ∨ (11264 ≤ 983039 ∧ 983039 ≤ 12271) ∨ (12289 ≤ 983039 ∧ 983039 ≤ 55295) ∨ (63744 ≤ 983039 ∧ 983039 ≤ 64975) ∨ (65008 ≤ 983039 ∧ 983039 ≤ 65533) ∨ (65536 ≤ 983039 ∧ 983039 ≤ 983039))))])
          refine K.ifeqB at_286 (pc1 := 289) rfl (by decide) (pc2 := 321) (by decide) (fun c286 => ?_) (fun c286 => ?_)
          · exfalso; omega
          · refine K.iload at_289 (pc' := 291) rfl rfl ?_
            refine K.calls (argsL := [(.int ins)]) (rest := []) at_291 (pc' := 294) rfl (c_ns l Z a0 hw n0 h_215 (p := ins) ) (hw _ (List.mem_of_getElem? (i := 8) rfl)) (hw _ (List.mem_of_getElem? (i := 9) rfl)) (hw _ (List.mem_of_getElem? (i := 10) rfl)) (hw _ (List.mem_of_getElem? (i := 11) rfl)) (by decide) pd_1 rfl rfl (W := 0) (by simp [Value.category]) (by decide) (by decide) (by decide) (by decide) (fun v_540 h_538 q_539 => ?_)
            obtain ⟨rfl, rfl⟩ := q_539
            show G h_215 2 32 (mkF m 294 #[.val (.int c), .val (.int k), .val (.int d), .val (.ref a_1), .val (.ref a_103), .val (.int (1 : Int32)), .val (.int (15 : Int32)), .val (.int (65536 : Int32)), .val (.int (983039 : Int32)), .val (.int ins), .unset] [(.int (b2 (ins.toInt = 58 ∨ (65 ≤ ins.toInt ∧ ins.toInt ≤ 90) ∨ ins.toInt = 95 ∨ (97 ≤ ins.toInt ∧ ins.toInt ≤ 122) ∨ (192 ≤ ins.toInt ∧ ins.toInt ≤ 214) ∨ (216 ≤ ins.toInt ∧ ins.toInt ≤ 246) ∨ (248 ≤ ins.toInt ∧ ins.toInt ≤ 767) ∨ (880 ≤ ins.toInt ∧ ins.toInt ≤ 893) ∨ (895 ≤ ins.toInt ∧ ins.toInt ≤ 8191) ∨ (8204 ≤ ins.toInt ∧ ins.toInt ≤ 8205) ∨ (8304 ≤ ins.toInt ∧ ins.toInt ≤ 8591) ∨ (11264 ≤ ins.toInt ∧ ins.toInt ≤ 12271) ∨ (12289 ≤ ins.toInt ∧ ins.toInt ≤ 55295) ∨ (63744 ≤ ins.toInt ∧ ins.toInt ≤ 64975) ∨ (65008 ≤ ins.toInt ∧ ins.toInt ≤ 65533) ∨ (65536 ≤ ins.toInt ∧ ins.toInt ≤ 983039))))])
            refine K.ifeqB at_294 (pc1 := 297) rfl (by decide) (pc2 := 321) (by decide) (fun c294 => ?_) (fun c294 => ?_)
            · exfalso; omega
            · refine K.iload at_297 (pc' := 299) rfl rfl ?_
              refine K.iconst at_299 (pc' := 300) rfl (z := 1) rfl ?_
              refine K.isub at_300 (pc' := 301) rfl (z := (65535 : Int32)) (by decide) ?_
              refine K.calls (argsL := [(.int (65535 : Int32))]) (rest := []) at_301 (pc' := 304) rfl (c_ns l Z a0 hw n0 h_215 (p := (65535 : Int32)) ) (hw _ (List.mem_of_getElem? (i := 8) rfl)) (hw _ (List.mem_of_getElem? (i := 9) rfl)) (hw _ (List.mem_of_getElem? (i := 10) rfl)) (hw _ (List.mem_of_getElem? (i := 11) rfl)) (by decide) pd_1 rfl rfl (W := 0) (by simp [Value.category]) (by decide) (by decide) (by decide) (by decide) (fun v_544 h_542 q_543 => ?_)
              obtain ⟨rfl, rfl⟩ := q_543
              show G h_215 2 32 (mkF m 304 #[.val (.int c), .val (.int k), .val (.int d), .val (.ref a_1), .val (.ref a_103), .val (.int (1 : Int32)), .val (.int (15 : Int32)), .val (.int (65536 : Int32)), .val (.int (983039 : Int32)), .val (.int ins), .unset] [(.int (b2 (65535 = 58 ∨ (65 ≤ 65535 ∧ 65535 ≤ 90) ∨ 65535 = 95 ∨ (97 ≤ 65535 ∧ 65535 ≤ 122) ∨ (192 ≤ 65535 ∧ 65535 ≤ 214) ∨ (216 ≤ 65535 ∧ 65535 ≤ 246) ∨ (248 ≤ 65535 ∧ 65535 ≤ 767) ∨ (880 ≤ 65535 ∧ 65535 ≤ 893) ∨ (895 ≤ 65535 ∧ 65535 ≤ 8191) ∨ (8204 ≤ 65535 ∧ 65535 ≤ 8205) ∨ (8304 ≤ 65535 ∧ 65535 ≤ 8591) ∨ (11264 ≤ 65535 ∧ 65535 ≤ 12271) ∨ (12289 ≤ 65535 ∧ 65535 ≤ 55295) ∨ (63744 ≤ 65535 ∧ 65535 ≤ 64975) ∨ (65008 ≤ 65535 ∧ 65535 ≤ 65533) ∨ (65536 ≤ 65535 ∧ 65535 ≤ 983039))))])
              refine K.ifneB at_304 (pc1 := 307) rfl (by decide) (pc2 := 321) (by decide) (fun c304 => ?_) (fun c304 => ?_)
              · exfalso; omega
              · refine K.iload at_307 (pc' := 309) rfl rfl ?_
                refine K.iconst at_309 (pc' := 310) rfl (z := 1) rfl ?_
                refine K.iadd at_310 (pc' := 311) rfl (z := (983040 : Int32)) (by decide) ?_
                refine K.calls (argsL := [(.int (983040 : Int32))]) (rest := []) at_311 (pc' := 314) rfl (c_ns l Z a0 hw n0 h_215 (p := (983040 : Int32)) ) (hw _ (List.mem_of_getElem? (i := 8) rfl)) (hw _ (List.mem_of_getElem? (i := 9) rfl)) (hw _ (List.mem_of_getElem? (i := 10) rfl)) (hw _ (List.mem_of_getElem? (i := 11) rfl)) (by decide) pd_1 rfl rfl (W := 0) (by simp [Value.category]) (by decide) (by decide) (by decide) (by decide) (fun v_548 h_546 q_547 => ?_)
                obtain ⟨rfl, rfl⟩ := q_547
                show G h_215 2 32 (mkF m 314 #[.val (.int c), .val (.int k), .val (.int d), .val (.ref a_1), .val (.ref a_103), .val (.int (1 : Int32)), .val (.int (15 : Int32)), .val (.int (65536 : Int32)), .val (.int (983039 : Int32)), .val (.int ins), .unset] [(.int (b2 (983040 = 58 ∨ (65 ≤ 983040 ∧ 983040 ≤ 90) ∨ 983040 = 95 ∨ (97 ≤ 983040 ∧ 983040 ≤ 122) ∨ (192 ≤ 983040 ∧ 983040 ≤ 214) ∨ (216 ≤ 983040 ∧ 983040 ≤ 246) ∨ (248 ≤ 983040 ∧ 983040 ≤ 767) ∨ (880 ≤ 983040 ∧ 983040 ≤ 893) ∨ (895 ≤ 983040 ∧ 983040 ≤ 8191) ∨ (8204 ≤ 983040 ∧ 983040 ≤ 8205) ∨ (8304 ≤ 983040 ∧ 983040 ≤ 8591) ∨ (11264 ≤ 983040 ∧ 983040 ≤ 12271) ∨ (12289 ≤ 983040 ∧ 983040 ≤ 55295) ∨ (63744 ≤ 983040 ∧ 983040 ≤ 64975) ∨ (65008 ≤ 983040 ∧ 983040 ≤ 65533) ∨ (65536 ≤ 983040 ∧ 983040 ≤ 983039))))])
                refine K.ifneB at_314 (pc1 := 317) rfl (by decide) (pc2 := 321) (by decide) (fun c314 => ?_) (fun c314 => ?_)
                · exfalso; omega
                · refine K.iconst at_317 (pc' := 318) rfl (z := 1) rfl ?_
                  refine K.goto at_318 (by decide) (pc' := 322) (by decide) ?_
                  refine K.istore at_322 (pc' := 324) rfl (L' := #[.val (.int c), .val (.int k), .val (.int d), .val (.ref a_1), .val (.ref a_103), .val (.int (1 : Int32)), .val (.int (15 : Int32)), .val (.int (65536 : Int32)), .val (.int (983039 : Int32)), .val (.int ins), .val (.int (1 : Int32))]) rfl ?_
                  refine K.iload at_324 (pc' := 326) rfl rfl ?_
                  refine K.if_eq at_326 (pc1 := 329) rfl (by decide) (pc2 := 338) (by decide) (a := 1) rfl (fun c326 => ?_) (fun c326 => ?_)
                  · exfalso; omega
                  · refine K.iload at_329 (pc' := 331) rfl rfl ?_
                    refine K.if_eq at_331 (pc1 := 334) rfl (by decide) (pc2 := 338) (by decide) (a := 1) rfl (fun c331 => ?_) (fun c331 => ?_)
                    · exfalso; omega
                    · refine K.iconst at_334 (pc' := 335) rfl (z := 1) rfl ?_
                      refine K.goto at_335 (by decide) (pc' := 339) (by decide) ?_
                      exact K.retz at_339 (Or.inr rfl) (by decide) (by decide) rfl
  refine K.ifneB at_216 (pc1 := 219) rfl (by decide) (pc2 := 223) (by decide) (fun c216 => ?_) (fun c216 => ?_)
  · refine K.iconst at_223 (pc' := 224) rfl (z := 0) rfl ?_
    exact J224 _ (b2_f (by first | exact c216 | exact Classical.not_not.mp c216 | omega)).symm
  · refine K.iconst at_219 (pc' := 220) rfl (z := 1) rfl ?_
    refine K.goto at_220 (by decide) (pc' := 224) (by decide) ?_
    exact J224 _ (b2_t (by first | exact c216 | exact Classical.not_not.mp c216 | omega)).symm
set_option maxRecDepth 65536 in
set_option maxHeartbeats 40000000 in
theorem comes_1 {Post : Tables → Env → Array Value → State → Outcome → State → Prop} (hpost : ∀ tb e args s v u, (limb_1_1.after args s (.returned v) u = true ∧ limb_1_2.after args s (.returned v) u = true ∧ True) → FrameEnd s (.returned v) u (Jvm.fieldLocs frame_1_writes args s ++ Jvm.arrayLocs frame_1_arrays args s ++ Jvm.staticLocs frame_1_statics s) 16 128 → Post tb e args s (.returned v) u) :
    ArmFor flags0 classFile x code maxLocals ret World_1 tables_1 room_1 Calls_1 rest_1 Pre_1 Post := by
  intro l hfl _ _ p e ha hc hk s m args below hf hA hF happ hP
  obtain ⟨hcalls, hrest, hpre⟩ := hP
  obtain ⟨-, -, -, hnamed, -, -, -, hat⟩ := (Spec.applies_iff hf).mp happ
  obtain ⟨hg, hn⟩ := and_e (Cond.before_iff.mp (show (Jvm.Cond.and given_1 narrow_1).before args s = true from hpre))
  obtain ⟨k0, j0⟩ := and_e hg
  obtain ⟨k1, j1⟩ := and_e j0
  obtain ⟨k2, j2⟩ := and_e j1
  obtain ⟨w0, w1, w2, rfl⟩ : ∃ w0 w1 w2 : Value, args = #[w0, w1, w2] := by
    have hs : args.size = 3 := by simpa [Cond.value, given_1] using k0
    obtain ⟨L⟩ := args
    match L, hs with
    | [w0, w1, w2], _ => exact ⟨w0, w1, w2, rfl⟩
  have hw := fun d (hd : d ∈ tables_1) => atoms_spec (ws := Jvm.Cond.code x code maxLocals ret :: tables_1) hat d (List.mem_cons_of_mem _ hd)
  have hfit : Fit s := fun {y c} hc i hi => by
    obtain ⟨ha, rfl⟩ := Array.getElem?_eq_some_iff.mp hc
    have q := List.all_eq_true.mp ((Array.all_eq_true_iff_forall_mem.mp hF) _ (Array.getElem_mem ha)) i (List.mem_range.mpr hi)
    simpa [Array.getElem?_eq_getElem hi] using q
  obtain ⟨i0, ei0⟩ := is_v k1
  obtain rfl : w0 = (.int i0) := Option.some.inj ei0
  obtain ⟨i1, ei1⟩ := is_v k2
  obtain rfl : w1 = (.int i1) := Option.some.inj ei1
  obtain ⟨i2, ei2⟩ := is_v j2
  obtain rfl : w2 = (.int i2) := Option.some.inj ei2
  obtain ⟨n, o, h1, h2, h3, _, L, rfl, ⟨rfl, N⟩, hq⟩ := c_law l s _ hw s.heap.size s.heap i0 i1 i2 (Nat.le_refl _)  tables_1 p e ha hc hk s m _ below hf ((Spec.applies_iff_loose hf).mp happ).1 ⟨rfl, State.Warmed39.refl s, rfl⟩ trivial
  refine ⟨n, _, h1, h2, h3, hpost _ _ _ _ _ _ ⟨Cond.after_iff.mpr rfl, Cond.after_iff.mpr (eq_i res_at (Term.int_eval (1)) rfl), trivial⟩ ⟨hq.1, hq.2.1, (hq.2.2.sift fun y hy => Or.inr (N y hy)).mono (by decide) (by decide)⟩⟩
theorem main_1_1 : Claimed_1_1 := comes_1 fun _ _ _ _ _ _ h hF => ⟨h.1, hF⟩
theorem main_1_2 : Claimed_1_2 := comes_1 fun _ _ _ _ _ _ h hF => ⟨h.2.1, hF⟩
end Jvm.Pilot.@@N@@
namespace Jvm.Pilot.@@N@@
open Jvm Jvm.ClassFile Sem Op Lib Jvm.Free Jvm.Stand Jvm.Pilot.@@N@@.Jvm.D
/-! MADE BY PROGRAM (witnessworld.py) out of the Statement's table words and the real class files: 9 classes; the members and pool entries that the words name. The judged class is class 1, her method 3. -/
namespace start1
open Jvm.ClassFile
def u (s : String) : CpInfo := .utf8 (stringToUtf16 s)
/-- a pool by its gaps: so many unusable entries, then the entry; so many at the end -/
def gap : Nat → List CpInfo → List CpInfo
  | 0, r => r
  | n + 1, r => .unusable :: gap n r
def poolList (es : List (Nat × CpInfo)) (last : Nat) : List CpInfo := es.foldr (fun e r => gap e.1 (e.2 :: r)) (gap last [])
def pool (es : List (Nat × CpInfo)) (last : Nat) : Array CpInfo := ⟨poolList es last⟩
def fileOf (pool : Array CpInfo) (this : Nat) (attrs : Array Attribute := #[]) (ms : Array MethodInfo := #[]) (fl : Nat := 33) (sup : Nat := 0) (ifs : Array Nat := #[]) (fds : Array FieldInfo := #[]) : ClassFile where
  minorVersion := 0
  majorVersion := 65
  constantPool := pool
  accessFlags := fl
  thisClass := this
  superClass := sup
  interfaces := ifs
  fields := fds
  methods := ms
  attributes := attrs
def plain (name : String) (sup : Option ClassId) : Class where
  name := name
  kind := .ordinary
  loader := none
  accessFlags := 33
  super := sup
  interfaces := #[]
  cf := none
  fields := #[]
  methods := #[]
  instanceTypes := #[]
  staticTypes := #[]
  resolved := #[]
  callSites := []
  init := .initialized
  statics := none
  mirror := none

def pool0 : Array CpInfo := pool [(5, u "<init>"), (0, u "()V"), (1, .class_ 10), (1, u "java/lang/Object")] 113

def k0m0 : Method := { name := "<init>", desc := "()V", sig := { parameters := [], returnType := none }, accessFlags := 1, code := none }
/-- java/lang/Object -/
def k0 : Class := { plain "java/lang/Object" none with
  accessFlags := 33
  interfaces := #[]
  cf := some (fileOf pool0 8 #[] #[{ accessFlags := 1, nameIndex := 5, descriptorIndex := 6, attributes := #[] }] 33 0 #[] #[])
  fields := #[]
  methods := #[k0m0]
  instanceTypes := #[]
  staticTypes := #[]
  resolved := Array.replicate 124 none
  statics := none }

def pool1 : Array CpInfo := pool [(2, .class_ 4), (1, u "java/lang/Object"), (0, u "<init>"), (0, u "()V"), (0, .integer 983039), (0, .methodref 9 10), (0, .class_ 11), (0, .nameAndType 12 13), (0, u "com/example/quadrille/quadrille/formats/NameCharactersIsXmlNameStartPinLaw"), (0, u "in"), (0, u "(III)Z"), (0, .integer 55296), (0, .integer 63743), (0, .integer 64976), (0, .integer 65007), (0, .integer 65534), (0, .integer 65535), (0, .integer 63744), (0, .integer 65008), (0, .integer 65536), (0, .integer 55295), (0, .integer 64975), (0, .integer 65533), (0, .methodref 27 28), (0, .class_ 29), (0, .nameAndType 30 31), (0, u "com/example/quadrille/quadrille/formats/NameCharacters"), (0, u "isXmlNameStart"), (0, u "(I)Z"), (0, .methodref 9 33), (0, .nameAndType 34 31), (0, u "isGap"), (0, .integer 2147483647), (3, u "law")] 4

def k1m0 : Method := { name := "<init>", desc := "()V", sig := { parameters := [], returnType := none }, accessFlags := 2, code := none }
def k1c1 : Code := { maxStack := 2, maxLocals := 3, code := method_2_code, exceptionTable := #[], attributes := #[] }
def k1m1 : Method := { name := "in", desc := "(III)Z", sig := { parameters := [.int, .int, .int], returnType := some .boolean }, accessFlags := 10, code := some k1c1 }
def k1c2 : Code := { maxStack := 3, maxLocals := 1, code := method_3_code, exceptionTable := #[], attributes := #[] }
def k1m2 : Method := { name := "isGap", desc := "(I)Z", sig := { parameters := [.int], returnType := some .boolean }, accessFlags := 10, code := some k1c2 }
def k1c3 : Code := { maxStack := 4, maxLocals := 11, code := code, exceptionTable := #[], attributes := #[] }
def k1m3 : Method := { name := "law", desc := "(III)Z", sig := { parameters := [.int, .int, .int], returnType := some .boolean }, accessFlags := 9, code := some k1c3 }
/-- com/example/quadrille/quadrille/formats/NameCharactersIsXmlNameStartPinLaw -/
def k1 : Class := { plain "com/example/quadrille/quadrille/formats/NameCharactersIsXmlNameStartPinLaw" (some 0) with
  accessFlags := 49
  interfaces := #[]
  cf := some (fileOf pool1 9 #[] #[{ accessFlags := 2, nameIndex := 5, descriptorIndex := 6, attributes := #[] }, { accessFlags := 10, nameIndex := 12, descriptorIndex := 13, attributes := #[] }, { accessFlags := 10, nameIndex := 34, descriptorIndex := 31, attributes := #[] }, { accessFlags := 9, nameIndex := 39, descriptorIndex := 13, attributes := #[] }] 49 2 #[] #[])
  fields := #[]
  methods := #[k1m0, k1m1, k1m2, k1m3]
  instanceTypes := #[]
  staticTypes := #[]
  resolved := Array.replicate 44 none
  statics := none }

def pool2 : Array CpInfo := pool [(2, .class_ 4), (1, u "java/lang/Object"), (0, u "<init>"), (0, u "()V"), (0, .integer 55295), (0, .integer 63744), (0, .integer 64975), (0, .integer 65008), (0, .integer 65533), (0, .integer 65536), (0, .integer 983039), (1, .class_ 17), (1, u "com/example/quadrille/quadrille/formats/NameCharacters"), (0, u "isXmlNameStart"), (0, u "(I)Z")] 11

def k2m0 : Method := { name := "<init>", desc := "()V", sig := { parameters := [], returnType := none }, accessFlags := 2, code := none }
def k2c1 : Code := { maxStack := 2, maxLocals := 1, code := prog_73_method_2_code, exceptionTable := #[], attributes := #[] }
def k2m1 : Method := { name := "isXmlNameStart", desc := "(I)Z", sig := { parameters := [.int], returnType := some .boolean }, accessFlags := 8, code := some k2c1 }
/-- com/example/quadrille/quadrille/formats/NameCharacters -/
def k2 : Class := { plain "com/example/quadrille/quadrille/formats/NameCharacters" (some 0) with
  accessFlags := 48
  interfaces := #[]
  cf := some (fileOf pool2 15 #[] #[{ accessFlags := 2, nameIndex := 5, descriptorIndex := 6, attributes := #[] }, { accessFlags := 8, nameIndex := 18, descriptorIndex := 19, attributes := #[] }] 48 2 #[] #[])
  fields := #[]
  methods := #[k2m0, k2m1]
  instanceTypes := #[]
  staticTypes := #[]
  resolved := Array.replicate 31 none
  statics := none }

def pool3 : Array CpInfo := pool [(1, u "java/lang/Cloneable"), (0, .class_ 1), (0, u "java/lang/Object"), (0, .class_ 3)] 3

/-- java/lang/Cloneable -/
def k3 : Class := { plain "java/lang/Cloneable" (some 0) with
  accessFlags := 1537
  interfaces := #[]
  cf := some (fileOf pool3 2 #[] #[] 1537 4 #[] #[])
  fields := #[]
  methods := #[]
  instanceTypes := #[]
  staticTypes := #[]
  resolved := Array.replicate 8 none
  statics := none }

def pool4 : Array CpInfo := pool [(1, u "java/io/Serializable"), (0, .class_ 1), (0, u "java/lang/Object"), (0, .class_ 3)] 3

/-- java/io/Serializable -/
def k4 : Class := { plain "java/io/Serializable" (some 0) with
  accessFlags := 1537
  interfaces := #[]
  cf := some (fileOf pool4 2 #[] #[] 1537 4 #[] #[])
  fields := #[]
  methods := #[]
  instanceTypes := #[]
  staticTypes := #[]
  resolved := Array.replicate 8 none
  statics := none }

/-- the primitive byte -/
def k5 : Class := { plain "byte" none with kind := .primitive 'B', accessFlags := 0x411 }
/-- [B -/
def k6 : Class := { plain "[B" (some 0) with kind := .array 5 .byte, interfaces := #[3, 4], accessFlags := 1041 }

/-- the primitive int -/
def k7 : Class := { plain "int" none with kind := .primitive 'I', accessFlags := 0x411 }
/-- [I -/
def k8 : Class := { plain "[I" (some 0) with kind := .array 7 .int, interfaces := #[3, 4], accessFlags := 1041 }

def heap : Heap := #[]
def classes : Array Class := #[k0, k1, k2, k3, k4, k5, k6, k7, k8]
def interned : List (Array UInt16 × Addr) := []
def slotsUsed : Nat := 0
def theMethod : MethodId := ⟨1, 3⟩
def args0 : Array Value := #[.int 5, .int 7, .int 9]
def aboutOver (below : List Frame) : State where
  vm := { classes := classes, interned := interned.toArray }
  heap := heap
  slotsUsed := slotsUsed
  threads := #[{ frames := .invoking theMethod args0 :: below }]
def below0 : List Frame := [.native { method := ⟨0, 0⟩, args := #[] }]
def about1 : State := aboutOver below0
def p0 : Program := .bare "" "" ""
def e0 : Env := launch0.env 0 0 0
theorem w_frames : about1.frames = Frame.invoking theMethod args0 :: below0 := rfl
set_option maxRecDepth 65536 in
theorem w_args : argsFit about1.vm theMethod args0 = true := by decide +kernel
set_option maxRecDepth 65536 in
theorem w_heap : heapFits about1 = true := by decide +kernel
set_option maxRecDepth 65536 in
theorem w_runnable : about1.curStatus? = some .runnable := by decide +kernel
set_option maxRecDepth 65536 in
theorem w_alone : about1.alone = true := by decide +kernel
set_option maxRecDepth 65536 in
theorem w_named : about1.methodNamed? x = some theMethod := by decide +kernel
set_option maxRecDepth 65536 in
theorem w_hears : about1.hears theMethod below0 = true := by decide +kernel
set_option maxRecDepth 65536 in
theorem w_ripe : about1.ripe theMethod args0 below0 = true := by decide +kernel
theorem w_running : about1.status = .running := rfl
set_option maxRecDepth 65536 in
theorem w_room : about1.hasRoom e0.platform room_1 = true :=
  launch0.hasRoom_least _ room_1 (by decide +kernel) (by decide +kernel) (by decide +kernel) (by decide +kernel) (by decide +kernel) (by decide +kernel)
theorem allAtoms_all (ts : List Jvm.Cond) (a : Array Jvm.Value) (st : Jvm.State) : (allAtoms ts).before a st = ts.all (fun c => c.before a st) := by
  induction ts with
  | nil => rfl
  | cons c t ih =>
    show (Jvm.Cond.and c (allAtoms t)).before a st = _
    rw [Jvm.Cond.before_and, ih, List.all_cons]
def words1 : List Jvm.Cond := Jvm.Cond.code x code maxLocals ret :: tables_1
/-- a 'code' word, met by the world's own term for the bytes: nothing is compared byte by byte -/
theorem code_word {y : MethodName} {bytes : ByteArray} {mx : Nat} {rt : Option FieldType} {a : Array Value} {s : State} {m : MethodId} {meth : Method} {c : Code} (h1 : s.methodNamed? y = some m) (h2 : s.vm.method? m = some meth) (h3 : meth.code = some c) (h4 : c.code = bytes)
    (h5 : (c.maxLocals == mx && c.exceptionTable.isEmpty && decide (c.maxStack ≤ mostOperands) && decide (meth.sig.returnType = rt) && !meth.locks && decide (parseMethodDescriptor y.desc = some meth.sig)) = true) : (Jvm.Cond.code y bytes mx rt).before a s = true := by
  simp only [Bool.and_eq_true, beq_iff_eq, Bool.not_eq_true', decide_eq_true_eq] at h5
  obtain ⟨⟨⟨⟨⟨g1, g2⟩, g3⟩, g4⟩, g5⟩, g6⟩ := h5
  simp [Cond.before, Cond.holds, Cond.value, h1, h2, h3, h4, g1, g2, g3, g4, g5, g6]
def isCode : Jvm.Cond → Bool
  | .code _ _ _ _ => true
  | _ => false
theorem all_split {L : List Jvm.Cond} {P : Jvm.Cond → Bool} (h1 : L.all (fun c => isCode c || P c) = true) (h2 : ∀ c ∈ L.filter isCode, P c = true) : L.all P = true := by
  refine List.all_eq_true.mpr fun c hc => ?_
  have h := List.all_eq_true.mp h1 c hc
  rcases Bool.eq_false_or_eq_true (isCode c) with hi | hi
  · exact h2 c (List.mem_filter.mpr ⟨hc, hi⟩)
  · simpa [hi] using h
set_option maxRecDepth 65536 in
theorem w_c0 : (Jvm.Cond.code x code maxLocals ret).before args0 about1 = true := code_word (m := ⟨1, 3⟩) (meth := k1m3) (c := k1c3) (by decide +kernel) rfl rfl rfl (by decide +kernel)
set_option maxRecDepth 65536 in
theorem w_c1 : (Jvm.Cond.code ({ cls := "com/example/quadrille/quadrille/formats/NameCharacters", name := "isXmlNameStart", desc := "(I)Z" } : Jvm.MethodName) prog_73_method_2_code (1 : Nat) (Option.some Jvm.ClassFile.FieldType.boolean)).before args0 about1 = true := code_word (m := ⟨2, 1⟩) (meth := k2m1) (c := k2c1) (by decide +kernel) rfl rfl rfl (by decide +kernel)
set_option maxRecDepth 65536 in
theorem w_c2 : (Jvm.Cond.code ({ cls := "com/example/quadrille/quadrille/formats/NameCharactersIsXmlNameStartPinLaw", name := "isGap", desc := "(I)Z" } : Jvm.MethodName) method_3_code (1 : Nat) (Option.some Jvm.ClassFile.FieldType.boolean)).before args0 about1 = true := code_word (m := ⟨1, 2⟩) (meth := k1m2) (c := k1c2) (by decide +kernel) rfl rfl rfl (by decide +kernel)
set_option maxRecDepth 65536 in
theorem w_c3 : (Jvm.Cond.code ({ cls := "com/example/quadrille/quadrille/formats/NameCharactersIsXmlNameStartPinLaw", name := "in", desc := "(III)Z" } : Jvm.MethodName) method_2_code (3 : Nat) (Option.some Jvm.ClassFile.FieldType.boolean)).before args0 about1 = true := code_word (m := ⟨1, 1⟩) (meth := k1m1) (c := k1c1) (by decide +kernel) rfl rfl rfl (by decide +kernel)
def codes1 : List Jvm.Cond := [Jvm.Cond.code x code maxLocals ret, Jvm.Cond.code ({ cls := "com/example/quadrille/quadrille/formats/NameCharacters", name := "isXmlNameStart", desc := "(I)Z" } : Jvm.MethodName) prog_73_method_2_code (1 : Nat) (Option.some Jvm.ClassFile.FieldType.boolean), Jvm.Cond.code ({ cls := "com/example/quadrille/quadrille/formats/NameCharactersIsXmlNameStartPinLaw", name := "isGap", desc := "(I)Z" } : Jvm.MethodName) method_3_code (1 : Nat) (Option.some Jvm.ClassFile.FieldType.boolean), Jvm.Cond.code ({ cls := "com/example/quadrille/quadrille/formats/NameCharactersIsXmlNameStartPinLaw", name := "in", desc := "(III)Z" } : Jvm.MethodName) method_2_code (3 : Nat) (Option.some Jvm.ClassFile.FieldType.boolean)]
set_option maxRecDepth 65536 in
theorem codes_eq : words1.filter isCode = codes1 := rfl
theorem w_codes : ∀ c ∈ words1.filter isCode, c.before args0 about1 = true := by
  rw [codes_eq]
  intro c hc
  simp only [codes1, List.mem_cons, List.not_mem_nil, or_false] at hc
  rcases hc with rfl | rfl | rfl | rfl
  · exact w_c0
  · exact w_c1
  · exact w_c2
  · exact w_c3
set_option maxRecDepth 65536 in
theorem w_t1 : (words1.take 24).all (fun c => isCode c || c.before args0 about1) = true := by decide +kernel
set_option maxRecDepth 65536 in
theorem w_t2 : (words1.drop 24).all (fun c => isCode c || c.before args0 about1) = true := by decide +kernel
theorem w_tables : (allAtoms (Jvm.Cond.code x code maxLocals ret :: tables_1)).before args0 about1 = true := by
  rw [allAtoms_all]
  show words1.all (fun c => c.before args0 about1) = true
  refine all_split ?_ w_codes
  rw [← List.take_append_drop 24 words1, List.all_append, w_t1, w_t2]
  rfl
set_option maxRecDepth 65536 in
theorem w_case : (Jvm.Cond.and given_1 narrow_1).before args0 about1 = true := by decide +kernel
theorem w_applies : (headSpec (Jvm.Cond.code x code maxLocals ret :: tables_1) room_1).applies x e0.platform about1 = true :=
  (Spec.applies_iff w_frames).mpr ⟨w_running, w_runnable, w_alone, w_named, w_hears, w_ripe, w_room, w_tables⟩
theorem atStart : AtStart classFile x code maxLocals ret World_1 tables_1 room_1 Calls_1 rest_1 Pre_1 launch0 p0 e0 about1 theMethod args0 below0 :=
  ⟨lists_1, trivial, launch0.admits_env _ _ _, launch0.least_env, fairChoices_fair.cas, fairChoices_fair.clock, w_frames, w_args, w_heap, w_applies, trivial, trivial, w_case⟩
end start1
theorem witness_1 : WitnessClaimed_1 := ⟨start1.p0, start1.e0, start1.about1, start1.theMethod, start1.args0, start1.below0, start1.atStart⟩
end Jvm.Pilot.@@N@@
