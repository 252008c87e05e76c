import JvmDerived
import JvmDerived.Pilot.@@N@@Statement
import JvmDerived.Pilot.@@N@@Code
set_option linter.unusedVariables false
set_option linter.unusedSimpArgs false
namespace Jvm.Wk
open Sem ClassFile Op Lib Jvm.Stand Jvm.Free Jvm.LawKit Jvm.RoadKit
/-- a boolean as an int -/
def b2 (P : Prop) [Decidable P] : Int32 := if P then 1 else 0
theorem b2_t {P : Prop} [Decidable P] (h : P) : b2 P = 1 := if_pos h
theorem b2_f {P : Prop} [Decidable P] (h : ¬ P) : b2 P = 0 := if_neg h
theorem b2_01 (P : Prop) [Decidable P] : b2 P = 0 ∨ b2 P = 1 := by by_cases h : P <;> simp [b2, h]
theorem b2_congr {P P' : Prop} [Decidable P] [Decidable P'] (h : P ↔ P') : b2 P = b2 P' := by simp only [b2, h]
theorem b2_int (P : Prop) [Decidable P] : (b2 P).toInt = if P then 1 else 0 := by by_cases h : P <;> simp [b2, h]
theorem b2_ne0 (P : Prop) [Decidable P] : (b2 P).toInt ≠ 0 ↔ P := by by_cases h : P <;> simp [b2, h]
theorem b2_eq0 (P : Prop) [Decidable P] : (b2 P).toInt = 0 ↔ ¬ P := by by_cases h : P <;> simp [b2, h]
theorem b2_inj (P P' : Prop) [Decidable P] [Decidable P'] : (b2 P).toInt = (b2 P').toInt ↔ (P ↔ P') := by by_cases h : P <;> by_cases h' : P' <;> simp [b2, h, h']
theorem eqI {x y : Int32} (h : x.toInt = y.toInt) : x = y := Int32.toInt_inj.mp h
theorem eqL {x y : Int64} (h : x.toInt = y.toInt) : x = y := Int64.toInt_inj.mp h
/-- from the frame f, with the heap h and so many cells and slots made, the body ends as Q says -/
def Go (p : Program) (l : Launch) (e : Env) (R : Room) (s : State) (m : MethodId) (args : Array Value) (below : List Frame) (meth : Method) (c : Code) (n0 : Nat) (Q : Option Value → Heap → Prop) (h : Heap) (kc ks : Nat) (f : JFrame) : Prop :=
  ∀ (T : State) (locs : List Loc), Stand p l e R s m args below meth c T locs kc ks → T.heap = h → Fr n0 locs →
    ∃ s₂ o, Steps p.tables e below (T.setTop f) s₂ ∧ s₂.status = .running ∧ Ended s₂ below o ∧ ∃ v L, o = .returned v ∧ (Q v s₂.heap ∧ Fr n0 L) ∧ FrameEnd s o s₂ L R.cells R.slots
/-- the ambient of a body's walk, hidden behind G -/
def Cx (l : Launch) (R : Room) (Z : State) (n0 : Nat) (Q : Option Value → Heap → Prop) (own nm : String) (bytes : ByteArray) (maxL : Nat) (ret : Option FieldType) (m : MethodId) (G : Heap → Nat → Nat → JFrame → Prop) : Prop :=
  ∃ (p : Program) (e : Env) (s : State) (args : Array Value) (below : List Frame) (meth : Method) (c : Code), G = Go p l e R s m args below meth c n0 Q ∧ p.tables.exec = Jvm.exec ∧ c.code = bytes ∧ c.maxLocals = maxL ∧ s.vm.findClass own = some m.cls ∧ Z.Warmed39 s.vm ∧ meth.sig.returnType = ret ∧ meth.locks = false ∧ meth.name = nm
/-- the contract of a body, asked with these arguments at this heap -/
def MeetsW (l : Launch) (Z : State) (n0 : Nat) (y : MethodName) (bytes : ByteArray) (maxL : Nat) (ret : Option FieldType) (rm : Room) (as' : Array Value) (h0 : Heap) (Q : Option Value → Heap → Prop) : Prop :=
  ∀ ws : List Cond, MetFree l y (head1 (Cond.code y bytes maxL ret :: ws) rm) (fun a U => a = as' ∧ Z.Warmed39 U.vm ∧ U.heap = h0) (fun _ _ _ _ _ => True) (fun _ U o U' => ∃ v L, o = .returned v ∧ (Q v U'.heap ∧ Fr n0 L) ∧ FrameEnd U o U' L rm.cells rm.slots)
/-- an array with just these values -/
def Ary (Z : State) (h : Heap) (a : Addr) (ty : FieldType) (vs : List Value) : Prop := ∃ c : Cell, Arr Z h a c ty ∧ c.slots.toList = vs ∧ vs.length < 2 ^ 31
section Facts
variable {Z : State} {h h' : Heap} {a b : Addr} {ty : FieldType} {vs : List Value} {v : Value} {sl : Nat} {ws : List Addr}
theorem Ary.lt (A : Ary Z h a ty vs) : a < h.size := by obtain ⟨c, A, -⟩ := A; exact A.lt
theorem Ary.ext (A : Ary Z h a ty vs) (E : Ext h h') : Ary Z h' a ty vs := by obtain ⟨c, A, r⟩ := A; exact ⟨c, A.ext E, r⟩
theorem Ary.other (A : Ary Z h b ty vs) (W : Wr h h' a sl v) (q : b ≠ a) : Ary Z h' b ty vs := by obtain ⟨c, A, r⟩ := A; exact ⟨c, A.other W q, r⟩
theorem Ary.keep (A : Ary Z h a ty vs) (K : Keep h h' ws) (q : a ∉ ws) : Ary Z h' a ty vs := by obtain ⟨c, A, r⟩ := A; exact ⟨c, ⟨K.2.1 a c A.1 q, A.2⟩, r⟩
theorem Ary.same (A : Ary Z h a ty vs) (W : Wr h h' a sl v) : Ary Z h' a ty (vs.set sl v) := by
  obtain ⟨c, A, r, r'⟩ := A
  refine ⟨_, A.same W, ?_, by rw [List.length_set]; exact r'⟩
  show (c.slots.setIfInBounds sl v).toList = _
  rw [Array.toList_setIfInBounds, r]
theorem clamp_of {j : Int32} {i : Nat} (hj : j.toInt = i) : j.toNatClampNeg = i := by simp only [Int32.toNatClampNeg, hj]; rfl
theorem in_of {c : Cell} {j : Int32} {i : Nat} (hj : j.toInt = i) (hi : i < c.slots.toList.length) : ¬ (j < 0 ∨ c.slots.size ≤ j.toNatClampNeg) := by
  rw [clamp_of hj]
  have h0 : ¬ j < 0 := by rw [Int32.lt_iff_toInt_lt, hj, show (0 : Int32).toInt = 0 from rfl]; omega
  rw [Array.length_toList] at hi
  intro q; rcases q with q | q
  · exact h0 q
  · omega
theorem at_of {c : Cell} {j : Int32} {i : Nat} {v : Value} (hj : j.toInt = i) (hv : c.slots.toList[i]? = some v) : c.slots[j.toNatClampNeg]? = some v := by
  rw [clamp_of hj, ← Array.getElem?_toList]; exact hv
theorem len_int {n : Nat} (h : n < 2 ^ 31) : n.toInt32.toInt = n := len_toInt h
theorem nar_byte_of {x : Int32} (h : -128 ≤ x.toInt ∧ x.toInt < 128) : nar .byte x = x := by
  apply Int32.toInt_inj.mp
  have q := c_i2b x
  show x.toInt8.toInt32.toInt = _
  omega
theorem nar_char_of {x : Int32} (h : 0 ≤ x.toInt ∧ x.toInt < 65536) : nar .char x = x := by
  apply Int32.toInt_inj.mp
  have q := c_i2c x
  show x.toUInt32.toUInt16.toUInt32.toInt32.toInt = _
  omega
theorem Ary.toArv {d : Value} (A : Ary Z h a ty vs) (hf : ∀ v ∈ vs, fits ty v = true) (hd : fits ty d = true) : ∃ (k : ClassId) (z : Int32), z.toInt = ((vs.length : Nat) : Int) ∧ Arv Z h a k ty z vs d := by
  obtain ⟨c, Ar, rfl, hlt⟩ := A
  have hl : c.slots.size < 2 ^ 31 := by rwa [Array.length_toList] at hlt
  refine ⟨c.cls, c.slots.size.toInt32, by rw [Array.length_toList]; exact len_int hl, c, Ar, rfl, by rw [clamp_of (len_int hl)], ?_, ?_, ?_⟩
  · rw [Int32.lt_iff_toInt_lt, len_int hl, show (0 : Int32).toInt = 0 from rfl]; omega
  · intro k hk; simp [List.getD_eq_getElem?_getD, hk]
  · intro i hi
    have q : c.slots.toList.getD i d = c.slots[i] := by simp [List.getD_eq_getElem?_getD, hi]
    rw [q]; exact hf _ (by simp)
theorem Arv.toAry {d : Value} {k : ClassId} {z : Int32} (F : Arv Z h a k ty z vs d) (hz : z.toInt = (vs.length : Nat)) : Ary Z h a ty vs := by
  obtain ⟨c, Ar, -, S, -, H, -⟩ := F
  rw [clamp_of hz] at S
  refine ⟨c, Ar, ?_, by have := z.toInt_lt; omega⟩
  apply List.ext_getElem?
  intro i
  by_cases hi : i < c.slots.size
  · rw [Array.getElem?_toList, H i hi, List.getD_eq_getElem?_getD]
    have hi' : i < vs.length := by omega
    simp [hi']
  · rw [List.getElem?_eq_none (by rw [Array.length_toList]; omega), List.getElem?_eq_none (by omega)]
theorem Fld.keepO {C n d : String} (F : Fld Z h a C n d v) (K : Keep h h' ws) (q : a ∉ ws) : Fld Z h' a C n d v := F.keep K q
theorem Keep.of_ext (E : Ext h h') : Keep h h' ws := (Keep.refl h ws).ext E
end Facts
section Steps
variable {l : Launch} {R : Room} {Z : State} {n0 : Nat} {Q : Option Value → Heap → Prop} {own nm : String} {bytes : ByteArray} {maxL : Nat} {ret : Option FieldType} {m : MethodId} {G : Heap → Nat → Nat → JFrame → Prop} {h : Heap} {kc ks pc pc' pc1 pc2 : Nat} {L L' : Array Slot} {S : List Value} {a0 : Array Value}
theorem MeetsW.intro {y : MethodName} {rm : Room} {as' : Array Value} {h0 : Heap} (hpl : plainFor y = true) {L0 : Array Slot} (hef : ∀ m, entryFrame m as' maxL = mkF m 0 L0 [])
    (body : ∀ m G, Cx l rm Z n0 Q y.cls y.name bytes maxL ret m G → G h0 0 0 (mkF m 0 L0 [])) : MeetsW l Z n0 y bytes maxL ret rm as' h0 Q := by
  intro ws
  refine MetFree.of_bodySF hpl hisR ?_
  intro p e s m args below meth c s₁ Bd hml0 hP hK
  obtain ⟨rfl, hZ, hh⟩ := hP
  have hnm := (name_of_methodNamed Bd.named Bd.method).1
  have X0 : Stand p l e rm s m args below meth c s₁ [] 0 0 := Stand.of_body Bd
  have e0 : s₁.heap = h0 := by rw [← hh, Bd.state]; rfl
  have q := body m _ ⟨p, e, s, args, below, meth, c, rfl, Bd.exec, Bd.bytes, hml0, findClass_of_methodNamed Bd.named, hZ, Bd.returns, Bd.notSynchronized, hnm⟩ s₁ [] X0 e0 (Fr.nil n0)
  rw [hef]; exact q
theorem Cx.step (K : Cx l R Z n0 Q own nm bytes maxL ret m G) {f f' : JFrame}
    (hs : ∀ (p : Program) (e : Env) (below : List Frame) (T : State) (c : Code), At T m c below → p.tables.exec = Jvm.exec → c.code = bytes → ∀ t, Steps p.tables e below (T.setTop f') t → Steps p.tables e below (T.setTop f) t)
    (hr : G h kc ks f') : G h kc ks f := by
  obtain ⟨p, e, s, args, below, meth, c, rfl, hx, hby, hml, hown, hZ, hret, hlk, hn⟩ := K
  intro T locs X eT N
  obtain ⟨s₂, o, h1, h2⟩ := hr T locs X eT N
  exact ⟨s₂, o, hs p e below T c X.here hx hby _ h1, h2⟩
theorem Cx.stepX (K : Cx l R Z n0 Q own nm bytes maxL ret m G) {f f' : JFrame} {h' : Heap}
    (hs : ∀ (p : Program) (e : Env) (s : State) (args : Array Value) (below : List Frame) (meth : Method) (c : Code) (T : State) (locs : List Loc), Stand p l e R s m args below meth c T locs kc ks → T.heap = h → p.tables.exec = Jvm.exec → c.code = bytes → s.vm.findClass own = some m.cls → Z.Warmed39 s.vm → ∃ T', Stand p l e R s m args below meth c T' locs kc ks ∧ T'.heap = h ∧ ∀ t, Steps p.tables e below (T'.setTop f') t → Steps p.tables e below (T.setTop f) t)
    (hr : G h kc ks f') : G h kc ks f := by
  obtain ⟨p, e, s, args, below, meth, c, rfl, hx, hby, hml, hown, hZ, hret, hlk, hn⟩ := K
  intro T locs X eT N
  obtain ⟨T', X', e', st⟩ := hs p e s args below meth c T locs X eT hx hby hown hZ
  obtain ⟨s₂, o, h1, h2⟩ := hr T' locs X' e' N
  exact ⟨s₂, o, st _ h1, h2⟩
theorem Cx.cast (K : Cx l R Z n0 Q own nm bytes maxL ret m G) {f f' : JFrame} (q : f = f') (hr : G h kc ks f') : G h kc ks f := q ▸ hr
theorem Cx.iloadN (K : Cx l R Z n0 Q own nm bytes maxL ret m G) {k : Fin 4} {v : Int32} (hd : decode bytes pc = .ok (.iload_n k, 1)) (hp : pc + 1 = pc') (hl : L[k.val]? = some (.val (.int v))) (hr : G h kc ks (mkF m pc' L (.int v :: S))) : G h kc ks (mkF m pc L (S)) := by
  subst hp
  exact K.step (fun p e below T c h hx hb0 t hr => XS.iloadN h hx rfl (hb hb0 hd) hl hr) hr
theorem Cx.iload (K : Cx l R Z n0 Q own nm bytes maxL ret m G) {k : Nat} {v : Int32} (hd : decode bytes pc = .ok (.iload k, 2)) (hp : pc + 2 = pc') (hl : L[k]? = some (.val (.int v))) (hr : G h kc ks (mkF m pc' L (.int v :: S))) : G h kc ks (mkF m pc L (S)) := by
  subst hp
  exact K.step (fun p e below T c h hx hb0 t hr => XS.iload h hx rfl (hb hb0 hd) hl hr) hr
theorem Cx.istoreN (K : Cx l R Z n0 Q own nm bytes maxL ret m G) {k : Fin 4} {x : Int32} (hd : decode bytes pc = .ok (.istore_n k, 1)) (hp : pc + 1 = pc') (hl : storeLocals L k.val (.int x) = some L') (hr : G h kc ks (mkF m pc' L' (S))) : G h kc ks (mkF m pc L (.int x :: S)) := by
  subst hp
  exact K.step (fun p e below T c h hx hb0 t hr => XS.istoreN h hx rfl (hb hb0 hd) rfl hl hr) hr
theorem Cx.istore (K : Cx l R Z n0 Q own nm bytes maxL ret m G) {k : Nat} {x : Int32} (hd : decode bytes pc = .ok (.istore k, 2)) (hp : pc + 2 = pc') (hl : storeLocals L k (.int x) = some L') (hr : G h kc ks (mkF m pc' L' (S))) : G h kc ks (mkF m pc L (.int x :: S)) := by
  subst hp
  exact K.step (fun p e below T c h hx hb0 t hr => XS.istore h hx rfl (hb hb0 hd) rfl hl hr) hr
theorem Cx.lloadN (K : Cx l R Z n0 Q own nm bytes maxL ret m G) {k : Fin 4} {v : Int64} (hd : decode bytes pc = .ok (.lload_n k, 1)) (hp : pc + 1 = pc') (hl : L[k.val]? = some (.val (.long v))) (hr : G h kc ks (mkF m pc' L (.long v :: S))) : G h kc ks (mkF m pc L (S)) := by
  subst hp
  exact K.step (fun p e below T c h hx hb0 t hr => XS.lloadN h hx rfl (hb hb0 hd) hl hr) hr
theorem Cx.lload (K : Cx l R Z n0 Q own nm bytes maxL ret m G) {k : Nat} {v : Int64} (hd : decode bytes pc = .ok (.lload k, 2)) (hp : pc + 2 = pc') (hl : L[k]? = some (.val (.long v))) (hr : G h kc ks (mkF m pc' L (.long v :: S))) : G h kc ks (mkF m pc L (S)) := by
  subst hp
  exact K.step (fun p e below T c h hx hb0 t hr => XS.lload h hx rfl (hb hb0 hd) hl hr) hr
theorem Cx.lstoreN (K : Cx l R Z n0 Q own nm bytes maxL ret m G) {k : Fin 4} {x : Int64} (hd : decode bytes pc = .ok (.lstore_n k, 1)) (hp : pc + 1 = pc') (hl : storeLocals L k.val (.long x) = some L') (hr : G h kc ks (mkF m pc' L' (S))) : G h kc ks (mkF m pc L (.long x :: S)) := by
  subst hp
  exact K.step (fun p e below T c h hx hb0 t hr => XS.lstoreN h hx rfl (hb hb0 hd) rfl hl hr) hr
theorem Cx.lstore (K : Cx l R Z n0 Q own nm bytes maxL ret m G) {k : Nat} {x : Int64} (hd : decode bytes pc = .ok (.lstore k, 2)) (hp : pc + 2 = pc') (hl : storeLocals L k (.long x) = some L') (hr : G h kc ks (mkF m pc' L' (S))) : G h kc ks (mkF m pc L (.long x :: S)) := by
  subst hp
  exact K.step (fun p e below T c h hx hb0 t hr => XS.lstore h hx rfl (hb hb0 hd) rfl hl hr) hr
theorem Cx.aloadN (K : Cx l R Z n0 Q own nm bytes maxL ret m G) {k : Fin 4} {v : Value} (hd : decode bytes pc = .ok (.aload_n k, 1)) (hp : pc + 1 = pc') (hl : L[k.val]? = some (.val v)) (hv : v.isRef = true) (hr : G h kc ks (mkF m pc' L (v :: S))) : G h kc ks (mkF m pc L (S)) := by
  subst hp
  exact K.step (fun p e below T c h hx hb0 t hr => XS.aloadN h hx rfl (hb hb0 hd) hl hv hr) hr
theorem Cx.aload (K : Cx l R Z n0 Q own nm bytes maxL ret m G) {k : Nat} {v : Value} (hd : decode bytes pc = .ok (.aload k, 2)) (hp : pc + 2 = pc') (hl : L[k]? = some (.val v)) (hv : v.isRef = true) (hr : G h kc ks (mkF m pc' L (v :: S))) : G h kc ks (mkF m pc L (S)) := by
  subst hp
  exact K.step (fun p e below T c h hx hb0 t hr => XS.aload h hx rfl (hb hb0 hd) hl hv hr) hr
theorem Cx.astoreN (K : Cx l R Z n0 Q own nm bytes maxL ret m G) {k : Fin 4} {x : Value} (hd : decode bytes pc = .ok (.astore_n k, 1)) (hp : pc + 1 = pc') (hv : x.isRef = true) (hl : storeLocals L k.val x = some L') (hr : G h kc ks (mkF m pc' L' (S))) : G h kc ks (mkF m pc L (x :: S)) := by
  subst hp
  exact K.step (fun p e below T c h hx hb0 t hr => XS.astoreN h hx rfl (hb hb0 hd) rfl hv hl hr) hr
theorem Cx.astore (K : Cx l R Z n0 Q own nm bytes maxL ret m G) {k : Nat} {x : Value} (hd : decode bytes pc = .ok (.astore k, 2)) (hp : pc + 2 = pc') (hv : x.isRef = true) (hl : storeLocals L k x = some L') (hr : G h kc ks (mkF m pc' L' (S))) : G h kc ks (mkF m pc L (x :: S)) := by
  subst hp
  exact K.step (fun p e below T c h hx hb0 t hr => XS.astore h hx rfl (hb hb0 hd) rfl hv hl hr) hr
theorem Cx.dloadN (K : Cx l R Z n0 Q own nm bytes maxL ret m G) {k : Fin 4} {v : UInt64} (hd : decode bytes pc = .ok (.dload_n k, 1)) (hp : pc + 1 = pc') (hl : L[k.val]? = some (.val (.double v))) (hr : G h kc ks (mkF m pc' L (.double v :: S))) : G h kc ks (mkF m pc L (S)) := by
  subst hp
  exact K.step (fun p e below T c h hx hb0 t hr => XS.dloadN h hx rfl (hb hb0 hd) hl hr) hr
theorem Cx.dload (K : Cx l R Z n0 Q own nm bytes maxL ret m G) {k : Nat} {v : UInt64} (hd : decode bytes pc = .ok (.dload k, 2)) (hp : pc + 2 = pc') (hl : L[k]? = some (.val (.double v))) (hr : G h kc ks (mkF m pc' L (.double v :: S))) : G h kc ks (mkF m pc L (S)) := by
  subst hp
  exact K.step (fun p e below T c h hx hb0 t hr => XS.dload h hx rfl (hb hb0 hd) hl hr) hr
theorem Cx.dstoreN (K : Cx l R Z n0 Q own nm bytes maxL ret m G) {k : Fin 4} {x : UInt64} (hd : decode bytes pc = .ok (.dstore_n k, 1)) (hp : pc + 1 = pc') (hl : storeLocals L k.val (.double x) = some L') (hr : G h kc ks (mkF m pc' L' (S))) : G h kc ks (mkF m pc L (.double x :: S)) := by
  subst hp
  exact K.step (fun p e below T c h hx hb0 t hr => XS.dstoreN h hx rfl (hb hb0 hd) rfl hl hr) hr
theorem Cx.dstore (K : Cx l R Z n0 Q own nm bytes maxL ret m G) {k : Nat} {x : UInt64} (hd : decode bytes pc = .ok (.dstore k, 2)) (hp : pc + 2 = pc') (hl : storeLocals L k (.double x) = some L') (hr : G h kc ks (mkF m pc' L' (S))) : G h kc ks (mkF m pc L (.double x :: S)) := by
  subst hp
  exact K.step (fun p e below T c h hx hb0 t hr => XS.dstore h hx rfl (hb hb0 hd) rfl hl hr) hr
theorem Cx.dconst0 (K : Cx l R Z n0 Q own nm bytes maxL ret m G) {z : UInt64} (hd : decode bytes pc = .ok (.dconst 0, 1)) (hp : pc + 1 = pc') (hz : FP.dconst0 = z) (hr : G h kc ks (mkF m pc' L (.double z :: S))) : G h kc ks (mkF m pc L (S)) := by
  subst hp hz
  exact K.step (fun p e below T c h hx hb0 t hr => XS.dconst0 h hx rfl (hb hb0 hd) rfl hr) hr
theorem Cx.dconst1 (K : Cx l R Z n0 Q own nm bytes maxL ret m G) {z : UInt64} (hd : decode bytes pc = .ok (.dconst 1, 1)) (hp : pc + 1 = pc') (hz : FP.dconst1 = z) (hr : G h kc ks (mkF m pc' L (.double z :: S))) : G h kc ks (mkF m pc L (S)) := by
  subst hp hz
  exact K.step (fun p e below T c h hx hb0 t hr => XS.dconst1 h hx rfl (hb hb0 hd) rfl hr) hr
theorem Cx.i2d (K : Cx l R Z n0 Q own nm bytes maxL ret m G) {x : Int32} {z : UInt64} (hd : decode bytes pc = .ok (.i2d, 1)) (hp : pc + 1 = pc') (hz : FP.i2d x = z) (hr : G h kc ks (mkF m pc' L (.double z :: S))) : G h kc ks (mkF m pc L (.int x :: S)) := by
  subst hp hz
  exact K.step (fun p e below T c h hx hb0 t hr => XS.i2dS h hx rfl (hb hb0 hd) rfl rfl hr) hr
theorem Cx.l2d (K : Cx l R Z n0 Q own nm bytes maxL ret m G) {x : Int64} {z : UInt64} (hd : decode bytes pc = .ok (.l2d, 1)) (hp : pc + 1 = pc') (hz : FP.l2d x = z) (hr : G h kc ks (mkF m pc' L (.double z :: S))) : G h kc ks (mkF m pc L (.long x :: S)) := by
  subst hp hz
  exact K.step (fun p e below T c h hx hb0 t hr => XS.l2dS h hx rfl (hb hb0 hd) rfl rfl hr) hr
theorem Cx.d2l (K : Cx l R Z n0 Q own nm bytes maxL ret m G) {x : UInt64} {z : Int64} (hd : decode bytes pc = .ok (.d2l, 1)) (hp : pc + 1 = pc') (hz : FP.d2l x = z) (hr : G h kc ks (mkF m pc' L (.long z :: S))) : G h kc ks (mkF m pc L (.double x :: S)) := by
  subst hp hz
  exact K.step (fun p e below T c h hx hb0 t hr => XS.d2lS h hx rfl (hb hb0 hd) rfl rfl hr) hr
theorem Cx.dadd (K : Cx l R Z n0 Q own nm bytes maxL ret m G) {x y z : UInt64} (hd : decode bytes pc = .ok (.dadd, 1)) (hp : pc + 1 = pc') (hn : Jvm.Free.Fl.NoNaN64 (FP.dadd x y)) (hz : FP.dadd x y = z) (hr : G h kc ks (mkF m pc' L (.double z :: S))) : G h kc ks (mkF m pc L (.double y :: .double x :: S)) := by
  subst hp hz
  exact K.step (fun p e below T c h hx hb0 t hr => XS.daddS h hx rfl (hb hb0 hd) rfl hn rfl hr) hr
theorem Cx.dmul (K : Cx l R Z n0 Q own nm bytes maxL ret m G) {x y z : UInt64} (hd : decode bytes pc = .ok (.dmul, 1)) (hp : pc + 1 = pc') (hn : Jvm.Free.Fl.NoNaN64 (FP.dmul x y)) (hz : FP.dmul x y = z) (hr : G h kc ks (mkF m pc' L (.double z :: S))) : G h kc ks (mkF m pc L (.double y :: .double x :: S)) := by
  subst hp hz
  exact K.step (fun p e below T c h hx hb0 t hr => XS.dmulS h hx rfl (hb hb0 hd) rfl hn rfl hr) hr
theorem Cx.ddiv (K : Cx l R Z n0 Q own nm bytes maxL ret m G) {x y z : UInt64} (hd : decode bytes pc = .ok (.ddiv, 1)) (hp : pc + 1 = pc') (hn : Jvm.Free.Fl.NoNaN64 (FP.ddiv x y)) (hz : FP.ddiv x y = z) (hr : G h kc ks (mkF m pc' L (.double z :: S))) : G h kc ks (mkF m pc L (.double y :: .double x :: S)) := by
  subst hp hz
  exact K.step (fun p e below T c h hx hb0 t hr => XS.ddivS h hx rfl (hb hb0 hd) rfl hn rfl hr) hr
theorem Cx.dsub (K : Cx l R Z n0 Q own nm bytes maxL ret m G) {x y z : UInt64} (hd : decode bytes pc = .ok (.dsub, 1)) (hp : pc + 1 = pc') (hn : Jvm.Free.Fl.NoNaN64 (FP.dsub x y)) (hz : FP.dsub x y = z) (hr : G h kc ks (mkF m pc' L (.double z :: S))) : G h kc ks (mkF m pc L (.double y :: .double x :: S)) := by
  subst hp hz
  exact K.step (fun p e below T c h hx hb0 t hr => XS.dsubS h hx rfl (hb hb0 hd) rfl hn rfl hr) hr
theorem Cx.dcmp (K : Cx l R Z n0 Q own nm bytes maxL ret m G) {o : CmpOp} {x y : UInt64} {z : Int32} (hd : decode bytes pc = .ok (.dcmp o, 1)) (hp : pc + 1 = pc') (hz : cmpValue (FP.dcmp x y) o = z) (hr : G h kc ks (mkF m pc' L (.int z :: S))) : G h kc ks (mkF m pc L (.double y :: .double x :: S)) := by
  subst hp hz
  exact K.step (fun p e below T c h hx hb0 t hr => XS.dcmpS h hx rfl (hb hb0 hd) rfl rfl hr) hr
theorem Cx.iconst (K : Cx l R Z n0 Q own nm bytes maxL ret m G) {i : Int} {z : Int32} (hd : decode bytes pc = .ok (.iconst i, 1)) (hp : pc + 1 = pc') (hz : Int32.ofInt i = z) (hr : G h kc ks (mkF m pc' L (.int z :: S))) : G h kc ks (mkF m pc L (S)) := by
  subst hp hz
  exact K.step (fun p e below T c h hx hb0 t hr => XS.iconst h hx rfl (hb hb0 hd) hr) hr
theorem Cx.bipush (K : Cx l R Z n0 Q own nm bytes maxL ret m G) {i : Int} {z : Int32} (hd : decode bytes pc = .ok (.bipush i, 2)) (hp : pc + 2 = pc') (hz : (Int8.ofInt i).toInt32 = z) (hr : G h kc ks (mkF m pc' L (.int z :: S))) : G h kc ks (mkF m pc L (S)) := by
  subst hp hz
  exact K.step (fun p e below T c h hx hb0 t hr => XS.bipush h hx rfl (hb hb0 hd) hr) hr
theorem Cx.sipush (K : Cx l R Z n0 Q own nm bytes maxL ret m G) {i : Int} {z : Int32} (hd : decode bytes pc = .ok (.sipush i, 3)) (hp : pc + 3 = pc') (hz : (Int16.ofInt i).toInt32 = z) (hr : G h kc ks (mkF m pc' L (.int z :: S))) : G h kc ks (mkF m pc L (S)) := by
  subst hp hz
  exact K.step (fun p e below T c h hx hb0 t hr => XS.sipush h hx rfl (hb hb0 hd) hr) hr
theorem Cx.lconst (K : Cx l R Z n0 Q own nm bytes maxL ret m G) {k : Fin 2} {z : Int64} (hd : decode bytes pc = .ok (.lconst k, 1)) (hp : pc + 1 = pc') (hz : Int64.ofNat k = z) (hr : G h kc ks (mkF m pc' L (.long z :: S))) : G h kc ks (mkF m pc L (S)) := by
  subst hp hz
  exact K.step (fun p e below T c h hx hb0 t hr => XS.lconst h hx rfl (hb hb0 hd) hr) hr
theorem Cx.anull (K : Cx l R Z n0 Q own nm bytes maxL ret m G) (hd : decode bytes pc = .ok (.aconst_null, 1)) (hp : pc + 1 = pc')  (hr : G h kc ks (mkF m pc' L (.null :: S))) : G h kc ks (mkF m pc L (S)) := by
  subst hp
  exact K.step (fun p e below T c h hx hb0 t hr => XS.aconstNull h hx rfl (hb hb0 hd) hr) hr
theorem Cx.iadd (K : Cx l R Z n0 Q own nm bytes maxL ret m G) {x y z : Int32} (hd : decode bytes pc = .ok (.iadd, 1)) (hp : pc + 1 = pc') (hz : x + y = z) (hr : G h kc ks (mkF m pc' L (.int z :: S))) : G h kc ks (mkF m pc L (.int y :: .int x :: S)) := by
  subst hp hz
  exact K.step (fun p e below T c h hx hb0 t hr => XS.iadd h hx rfl (hb hb0 hd) rfl hr) hr
theorem Cx.ladd (K : Cx l R Z n0 Q own nm bytes maxL ret m G) {x y z : Int64} (hd : decode bytes pc = .ok (.ladd, 1)) (hp : pc + 1 = pc') (hz : x + y = z) (hr : G h kc ks (mkF m pc' L (.long z :: S))) : G h kc ks (mkF m pc L (.long y :: .long x :: S)) := by
  subst hp hz
  exact K.step (fun p e below T c h hx hb0 t hr => XS.ladd h hx rfl (hb hb0 hd) rfl hr) hr
theorem Cx.isub (K : Cx l R Z n0 Q own nm bytes maxL ret m G) {x y z : Int32} (hd : decode bytes pc = .ok (.isub, 1)) (hp : pc + 1 = pc') (hz : x - y = z) (hr : G h kc ks (mkF m pc' L (.int z :: S))) : G h kc ks (mkF m pc L (.int y :: .int x :: S)) := by
  subst hp hz
  exact K.step (fun p e below T c h hx hb0 t hr => XS.isub h hx rfl (hb hb0 hd) rfl hr) hr
theorem Cx.lsub (K : Cx l R Z n0 Q own nm bytes maxL ret m G) {x y z : Int64} (hd : decode bytes pc = .ok (.lsub, 1)) (hp : pc + 1 = pc') (hz : x - y = z) (hr : G h kc ks (mkF m pc' L (.long z :: S))) : G h kc ks (mkF m pc L (.long y :: .long x :: S)) := by
  subst hp hz
  exact K.step (fun p e below T c h hx hb0 t hr => XS.lsub h hx rfl (hb hb0 hd) rfl hr) hr
theorem Cx.imul (K : Cx l R Z n0 Q own nm bytes maxL ret m G) {x y z : Int32} (hd : decode bytes pc = .ok (.imul, 1)) (hp : pc + 1 = pc') (hz : x * y = z) (hr : G h kc ks (mkF m pc' L (.int z :: S))) : G h kc ks (mkF m pc L (.int y :: .int x :: S)) := by
  subst hp hz
  exact K.step (fun p e below T c h hx hb0 t hr => XS.imul h hx rfl (hb hb0 hd) rfl hr) hr
theorem Cx.lmul (K : Cx l R Z n0 Q own nm bytes maxL ret m G) {x y z : Int64} (hd : decode bytes pc = .ok (.lmul, 1)) (hp : pc + 1 = pc') (hz : x * y = z) (hr : G h kc ks (mkF m pc' L (.long z :: S))) : G h kc ks (mkF m pc L (.long y :: .long x :: S)) := by
  subst hp hz
  exact K.step (fun p e below T c h hx hb0 t hr => XS.lmul h hx rfl (hb hb0 hd) rfl hr) hr
theorem Cx.iand (K : Cx l R Z n0 Q own nm bytes maxL ret m G) {x y z : Int32} (hd : decode bytes pc = .ok (.iand, 1)) (hp : pc + 1 = pc') (hz : x &&& y = z) (hr : G h kc ks (mkF m pc' L (.int z :: S))) : G h kc ks (mkF m pc L (.int y :: .int x :: S)) := by
  subst hp hz
  exact K.step (fun p e below T c h hx hb0 t hr => XS.iand h hx rfl (hb hb0 hd) rfl hr) hr
theorem Cx.land (K : Cx l R Z n0 Q own nm bytes maxL ret m G) {x y z : Int64} (hd : decode bytes pc = .ok (.land, 1)) (hp : pc + 1 = pc') (hz : x &&& y = z) (hr : G h kc ks (mkF m pc' L (.long z :: S))) : G h kc ks (mkF m pc L (.long y :: .long x :: S)) := by
  subst hp hz
  exact K.step (fun p e below T c h hx hb0 t hr => XS.land h hx rfl (hb hb0 hd) rfl hr) hr
theorem Cx.ior (K : Cx l R Z n0 Q own nm bytes maxL ret m G) {x y z : Int32} (hd : decode bytes pc = .ok (.ior, 1)) (hp : pc + 1 = pc') (hz : x ||| y = z) (hr : G h kc ks (mkF m pc' L (.int z :: S))) : G h kc ks (mkF m pc L (.int y :: .int x :: S)) := by
  subst hp hz
  exact K.step (fun p e below T c h hx hb0 t hr => XS.ior h hx rfl (hb hb0 hd) rfl hr) hr
theorem Cx.lor (K : Cx l R Z n0 Q own nm bytes maxL ret m G) {x y z : Int64} (hd : decode bytes pc = .ok (.lor, 1)) (hp : pc + 1 = pc') (hz : x ||| y = z) (hr : G h kc ks (mkF m pc' L (.long z :: S))) : G h kc ks (mkF m pc L (.long y :: .long x :: S)) := by
  subst hp hz
  exact K.step (fun p e below T c h hx hb0 t hr => XS.lor h hx rfl (hb hb0 hd) rfl hr) hr
theorem Cx.ixor (K : Cx l R Z n0 Q own nm bytes maxL ret m G) {x y z : Int32} (hd : decode bytes pc = .ok (.ixor, 1)) (hp : pc + 1 = pc') (hz : x ^^^ y = z) (hr : G h kc ks (mkF m pc' L (.int z :: S))) : G h kc ks (mkF m pc L (.int y :: .int x :: S)) := by
  subst hp hz
  exact K.step (fun p e below T c h hx hb0 t hr => XS.ixor h hx rfl (hb hb0 hd) rfl hr) hr
theorem Cx.lxor (K : Cx l R Z n0 Q own nm bytes maxL ret m G) {x y z : Int64} (hd : decode bytes pc = .ok (.lxor, 1)) (hp : pc + 1 = pc') (hz : x ^^^ y = z) (hr : G h kc ks (mkF m pc' L (.long z :: S))) : G h kc ks (mkF m pc L (.long y :: .long x :: S)) := by
  subst hp hz
  exact K.step (fun p e below T c h hx hb0 t hr => XS.lxor h hx rfl (hb hb0 hd) rfl hr) hr
theorem Cx.ishl (K : Cx l R Z n0 Q own nm bytes maxL ret m G) {x y z : Int32} (hd : decode bytes pc = .ok (.ishl, 1)) (hp : pc + 1 = pc') (hz : x <<< (y &&& 31) = z) (hr : G h kc ks (mkF m pc' L (.int z :: S))) : G h kc ks (mkF m pc L (.int y :: .int x :: S)) := by
  subst hp hz
  exact K.step (fun p e below T c h hx hb0 t hr => XS.ishl h hx rfl (hb hb0 hd) rfl hr) hr
theorem Cx.ishr (K : Cx l R Z n0 Q own nm bytes maxL ret m G) {x y z : Int32} (hd : decode bytes pc = .ok (.ishr, 1)) (hp : pc + 1 = pc') (hz : x >>> (y &&& 31) = z) (hr : G h kc ks (mkF m pc' L (.int z :: S))) : G h kc ks (mkF m pc L (.int y :: .int x :: S)) := by
  subst hp hz
  exact K.step (fun p e below T c h hx hb0 t hr => XS.ishr h hx rfl (hb hb0 hd) rfl hr) hr
theorem Cx.iushr (K : Cx l R Z n0 Q own nm bytes maxL ret m G) {x y z : Int32} (hd : decode bytes pc = .ok (.iushr, 1)) (hp : pc + 1 = pc') (hz : (x.toUInt32 >>> (y &&& 31).toUInt32).toInt32 = z) (hr : G h kc ks (mkF m pc' L (.int z :: S))) : G h kc ks (mkF m pc L (.int y :: .int x :: S)) := by
  subst hp hz
  exact K.step (fun p e below T c h hx hb0 t hr => XS.iushr h hx rfl (hb hb0 hd) rfl hr) hr
theorem Cx.lshl (K : Cx l R Z n0 Q own nm bytes maxL ret m G) {x z : Int64} {y : Int32} (hd : decode bytes pc = .ok (.lshl, 1)) (hp : pc + 1 = pc') (hz : x <<< (y &&& 0x3f).toInt64 = z) (hr : G h kc ks (mkF m pc' L (.long z :: S))) : G h kc ks (mkF m pc L (.int y :: .long x :: S)) := by
  subst hp hz
  exact K.step (fun p e below T c h hx hb0 t hr => XS.lshl h hx rfl (hb hb0 hd) rfl hr) hr
theorem Cx.lshr (K : Cx l R Z n0 Q own nm bytes maxL ret m G) {x z : Int64} {y : Int32} (hd : decode bytes pc = .ok (.lshr, 1)) (hp : pc + 1 = pc') (hz : x >>> (y &&& 0x3f).toInt64 = z) (hr : G h kc ks (mkF m pc' L (.long z :: S))) : G h kc ks (mkF m pc L (.int y :: .long x :: S)) := by
  subst hp hz
  exact K.step (fun p e below T c h hx hb0 t hr => XS.lshr h hx rfl (hb hb0 hd) rfl hr) hr
theorem Cx.lushr (K : Cx l R Z n0 Q own nm bytes maxL ret m G) {x z : Int64} {y : Int32} (hd : decode bytes pc = .ok (.lushr, 1)) (hp : pc + 1 = pc') (hz : (x.toUInt64 >>> (y &&& 0x3f).toInt64.toUInt64).toInt64 = z) (hr : G h kc ks (mkF m pc' L (.long z :: S))) : G h kc ks (mkF m pc L (.int y :: .long x :: S)) := by
  subst hp hz
  exact K.step (fun p e below T c h hx hb0 t hr => XS.lushr h hx rfl (hb hb0 hd) rfl hr) hr
theorem Cx.idiv (K : Cx l R Z n0 Q own nm bytes maxL ret m G) {x y z : Int32} (hd : decode bytes pc = .ok (.idiv, 1)) (hp : pc + 1 = pc') (hy : y ≠ 0) (hz : x / y = z) (hr : G h kc ks (mkF m pc' L (.int z :: S))) : G h kc ks (mkF m pc L (.int y :: .int x :: S)) := by
  subst hp hz
  exact K.step (fun p e below T c h hx hb0 t hr => XS.idiv h hx rfl (hb hb0 hd) rfl hy hr) hr
theorem Cx.ldiv (K : Cx l R Z n0 Q own nm bytes maxL ret m G) {x y z : Int64} (hd : decode bytes pc = .ok (.ldiv, 1)) (hp : pc + 1 = pc') (hy : y ≠ 0) (hz : x / y = z) (hr : G h kc ks (mkF m pc' L (.long z :: S))) : G h kc ks (mkF m pc L (.long y :: .long x :: S)) := by
  subst hp hz
  exact K.step (fun p e below T c h hx hb0 t hr => XS.ldiv h hx rfl (hb hb0 hd) rfl hy hr) hr
theorem Cx.irem (K : Cx l R Z n0 Q own nm bytes maxL ret m G) {x y z : Int32} (hd : decode bytes pc = .ok (.irem, 1)) (hp : pc + 1 = pc') (hy : y ≠ 0) (hz : x % y = z) (hr : G h kc ks (mkF m pc' L (.int z :: S))) : G h kc ks (mkF m pc L (.int y :: .int x :: S)) := by
  subst hp hz
  exact K.step (fun p e below T c h hx hb0 t hr => XS.irem h hx rfl (hb hb0 hd) rfl hy (by rw [irem_eq_mod]; exact hr)) hr
theorem Cx.lrem (K : Cx l R Z n0 Q own nm bytes maxL ret m G) {x y z : Int64} (hd : decode bytes pc = .ok (.lrem, 1)) (hp : pc + 1 = pc') (hy : y ≠ 0) (hz : x % y = z) (hr : G h kc ks (mkF m pc' L (.long z :: S))) : G h kc ks (mkF m pc L (.long y :: .long x :: S)) := by
  subst hp hz
  exact K.step (fun p e below T c h hx hb0 t hr => XS.lrem h hx rfl (hb hb0 hd) rfl hy (by rw [lrem_mod]; exact hr)) hr
theorem Cx.ineg (K : Cx l R Z n0 Q own nm bytes maxL ret m G) {x z : Int32} (hd : decode bytes pc = .ok (.ineg, 1)) (hp : pc + 1 = pc') (hz : -x = z) (hr : G h kc ks (mkF m pc' L (.int z :: S))) : G h kc ks (mkF m pc L (.int x :: S)) := by
  subst hp hz
  exact K.step (fun p e below T c h hx hb0 t hr => XS.ineg h hx rfl (hb hb0 hd) rfl hr) hr
theorem Cx.lneg (K : Cx l R Z n0 Q own nm bytes maxL ret m G) {x z : Int64} (hd : decode bytes pc = .ok (.lneg, 1)) (hp : pc + 1 = pc') (hz : -x = z) (hr : G h kc ks (mkF m pc' L (.long z :: S))) : G h kc ks (mkF m pc L (.long x :: S)) := by
  subst hp hz
  exact K.step (fun p e below T c h hx hb0 t hr => XS.lneg h hx rfl (hb hb0 hd) rfl hr) hr
theorem Cx.i2b (K : Cx l R Z n0 Q own nm bytes maxL ret m G) {x : Int32} {z : Int32} (hd : decode bytes pc = .ok (.i2b, 1)) (hp : pc + 1 = pc') (hz : x.toInt8.toInt32 = z) (hr : G h kc ks (mkF m pc' L (.int z :: S))) : G h kc ks (mkF m pc L (.int x :: S)) := by
  subst hp hz
  exact K.step (fun p e below T c h hx hb0 t hr => XS.i2b h hx rfl (hb hb0 hd) rfl hr) hr
theorem Cx.i2c (K : Cx l R Z n0 Q own nm bytes maxL ret m G) {x : Int32} {z : Int32} (hd : decode bytes pc = .ok (.i2c, 1)) (hp : pc + 1 = pc') (hz : x.toUInt32.toUInt16.toUInt32.toInt32 = z) (hr : G h kc ks (mkF m pc' L (.int z :: S))) : G h kc ks (mkF m pc L (.int x :: S)) := by
  subst hp hz
  exact K.step (fun p e below T c h hx hb0 t hr => XS.i2c h hx rfl (hb hb0 hd) rfl hr) hr
theorem Cx.i2s (K : Cx l R Z n0 Q own nm bytes maxL ret m G) {x : Int32} {z : Int32} (hd : decode bytes pc = .ok (.i2s, 1)) (hp : pc + 1 = pc') (hz : x.toInt16.toInt32 = z) (hr : G h kc ks (mkF m pc' L (.int z :: S))) : G h kc ks (mkF m pc L (.int x :: S)) := by
  subst hp hz
  exact K.step (fun p e below T c h hx hb0 t hr => XS.i2s h hx rfl (hb hb0 hd) rfl hr) hr
theorem Cx.i2l (K : Cx l R Z n0 Q own nm bytes maxL ret m G) {x : Int32} {z : Int64} (hd : decode bytes pc = .ok (.i2l, 1)) (hp : pc + 1 = pc') (hz : x.toInt64 = z) (hr : G h kc ks (mkF m pc' L (.long z :: S))) : G h kc ks (mkF m pc L (.int x :: S)) := by
  subst hp hz
  exact K.step (fun p e below T c h hx hb0 t hr => XS.i2l h hx rfl (hb hb0 hd) rfl hr) hr
theorem Cx.l2i (K : Cx l R Z n0 Q own nm bytes maxL ret m G) {x : Int64} {z : Int32} (hd : decode bytes pc = .ok (.l2i, 1)) (hp : pc + 1 = pc') (hz : x.toInt32 = z) (hr : G h kc ks (mkF m pc' L (.int z :: S))) : G h kc ks (mkF m pc L (.long x :: S)) := by
  subst hp hz
  exact K.step (fun p e below T c h hx hb0 t hr => XS.l2i h hx rfl (hb hb0 hd) rfl hr) hr
theorem Cx.iinc (K : Cx l R Z n0 Q own nm bytes maxL ret m G) {k : Nat} {cst : Int} {x z : Int32} (hd : decode bytes pc = .ok (.iinc k cst, 3)) (hp : pc + 3 = pc') (hl : L[k]? = some (.val (.int x))) (hz : x + Int32.ofInt cst = z) (hl' : storeLocals L k (.int z) = some L') (hr : G h kc ks (mkF m pc' L' (S))) : G h kc ks (mkF m pc L (S)) := by
  subst hp hz
  exact K.step (fun p e below T c h hx hb0 t hr => XS.iinc h hx rfl (hb hb0 hd) hl hl' hr) hr
theorem Cx.dup (K : Cx l R Z n0 Q own nm bytes maxL ret m G) {x : Value} (hd : decode bytes pc = .ok (.dup, 1)) (hp : pc + 1 = pc') (hc : x.category = 1) (hr : G h kc ks (mkF m pc' L (x :: x :: S))) : G h kc ks (mkF m pc L (x :: S)) := by
  subst hp
  exact K.step (fun p e below T c h hx hb0 t hr => XS.dup h hx rfl (hb hb0 hd) rfl hc hr) hr
theorem Cx.pop (K : Cx l R Z n0 Q own nm bytes maxL ret m G) {x : Value} (hd : decode bytes pc = .ok (.pop, 1)) (hp : pc + 1 = pc') (hc : x.category = 1) (hr : G h kc ks (mkF m pc' L (S))) : G h kc ks (mkF m pc L (x :: S)) := by
  subst hp
  exact K.step (fun p e below T c h hx hb0 t hr => XS.pop h hx rfl (hb hb0 hd) rfl hc hr) hr
theorem Cx.dupX1 (K : Cx l R Z n0 Q own nm bytes maxL ret m G) {x y : Value} (hd : decode bytes pc = .ok (.dup_x1, 1)) (hp : pc + 1 = pc') (hc : x.category = 1) (hc2 : y.category = 1) (hr : G h kc ks (mkF m pc' L (x :: y :: x :: S))) : G h kc ks (mkF m pc L (x :: y :: S)) := by
  subst hp
  exact K.step (fun p e below T c h hx hb0 t hr => XS.dupX1 h hx rfl (hb hb0 hd) rfl hc hc2 hr) hr
theorem Cx.goto (K : Cx l R Z n0 Q own nm bytes maxL ret m G) {o : Int} (hd : decode bytes pc = .ok (.goto o, 3)) (ho : 0 ≤ (pc : Int) + o) (hp : ((pc : Int) + o).toNat = pc') (hr : G h kc ks (mkF m pc' L S)) : G h kc ks (mkF m pc L S) :=
  K.step (fun p e below T c h hx hb0 t hr => XS.goto h hx rfl (pc0 := pc) (pc' := pc') rfl (hb hb0 hd) ho hp hr) hr
theorem icmpW (cd : ClassFile.Cond) {x y : Int32} {a b : Int} (ha : x.toInt = a) (hb : y.toInt = b) : if_icmp.holds cd x y = (match cd with | .lt => decide (a < b) | .ge => decide (b ≤ a) | .gt => decide (b < a) | .le => decide (a ≤ b) | .eq => decide (a = b) | .ne => decide (a ≠ b)) := by
  subst ha hb
  cases cd <;> rw [Bool.eq_iff_iff] <;> simp [if_icmp.holds, Int32.lt_iff_toInt_lt, Int32.le_iff_toInt_le, Int32.toInt_inj]
theorem lcmpW0 (cd : ClassFile.Cond) {x y : Int64} {a b : Int} (ha : x.toInt = a) (hb : y.toInt = b) : ifCond.holds cd (if x > y then 1 else if x = y then 0 else -1) = (match cd with | .lt => decide (a < b) | .ge => decide (b ≤ a) | .gt => decide (b < a) | .le => decide (a ≤ b) | .eq => decide (a = b) | .ne => decide (a ≠ b)) := by
  subst ha hb
  rcases Int.lt_trichotomy x.toInt y.toInt with h | h | h
  · have e : (if x > y then (1 : Int32) else if x = y then 0 else -1) = -1 := by rw [if_neg (by rw [gt_iff_lt, Int64.lt_iff_toInt_lt]; omega), if_neg (by rw [← Int64.toInt_inj]; omega)]
    rw [e, if0, icmpW cd (a := -1) (b := 0) rfl rfl]
    cases cd <;> exact decide_eq_decide.mpr (by omega)
  · have e : (if x > y then (1 : Int32) else if x = y then 0 else -1) = 0 := by rw [if_neg (by rw [gt_iff_lt, Int64.lt_iff_toInt_lt]; omega), if_pos (by rw [← Int64.toInt_inj]; omega)]
    rw [e, if0, icmpW cd (a := 0) (b := 0) rfl rfl]
    cases cd <;> exact decide_eq_decide.mpr (by omega)
  · have e : (if x > y then (1 : Int32) else if x = y then 0 else -1) = 1 := by rw [if_pos (by rw [gt_iff_lt, Int64.lt_iff_toInt_lt]; omega)]
    rw [e, if0, icmpW cd (a := 1) (b := 0) rfl rfl]
    cases cd <;> exact decide_eq_decide.mpr (by omega)
theorem Cx.icmp_lt (K : Cx l R Z n0 Q own nm bytes maxL ret m G) {o : Int} {x y : Int32} {a b : Int} (hd : decode bytes pc = .ok (.if_icmp .lt o, 3)) (hp : pc + 3 = pc1) (ho : 0 ≤ (pc : Int) + o) (hq : ((pc : Int) + o).toNat = pc2) (ha : x.toInt = a) (hb' : y.toInt = b) (ht : a < b → G h kc ks (mkF m pc2 L S)) (hf : b ≤ a → G h kc ks (mkF m pc1 L S)) : G h kc ks (mkF m pc L (.int y :: .int x :: S)) := by
  subst hp
  have q := icmpW .lt ha hb'
  by_cases hc : a < b
  · exact K.step (fun p e below T c h hx hb0 t hr => XS.icmpYes h hx rfl (pc0 := pc) (pc' := pc2) rfl (hb hb0 hd) rfl (q.trans (decide_eq_true hc)) ho hq hr) (ht hc)
  · exact K.step (fun p e below T c h hx hb0 t hr => XS.icmpNo h hx rfl (hb hb0 hd) rfl (q.trans (decide_eq_false hc)) hr) (hf (by omega))
theorem Cx.if_lt (K : Cx l R Z n0 Q own nm bytes maxL ret m G) {o : Int} {x : Int32} {a : Int} (hd : decode bytes pc = .ok (.ifCond .lt o, 3)) (hp : pc + 3 = pc1) (ho : 0 ≤ (pc : Int) + o) (hq : ((pc : Int) + o).toNat = pc2) (ha : x.toInt = a) (ht : a < 0 → G h kc ks (mkF m pc2 L S)) (hf : 0 ≤ a → G h kc ks (mkF m pc1 L S)) : G h kc ks (mkF m pc L (.int x :: S)) := by
  subst hp
  have q := (if0 .lt x).trans (icmpW .lt ha (b := 0) rfl)
  by_cases hc : a < 0
  · exact K.step (fun p e below T c h hx hb0 t hr => XS.ifYes h hx rfl (pc0 := pc) (pc' := pc2) rfl (hb hb0 hd) rfl (q.trans (decide_eq_true hc)) ho hq hr) (ht hc)
  · exact K.step (fun p e below T c h hx hb0 t hr => XS.ifNo h hx rfl (hb hb0 hd) rfl (q.trans (decide_eq_false hc)) hr) (hf (by omega))
theorem Cx.lcmp_lt (K : Cx l R Z n0 Q own nm bytes maxL ret m G) {o : Int} {x y : Int64} {a b : Int} (hd0 : decode bytes pc = .ok (.lcmp, 1)) (hd : decode bytes (pc + 1) = .ok (.ifCond .lt o, 3)) (hp : pc + 4 = pc1) (ho : 0 ≤ ((pc + 1 : Nat) : Int) + o) (hq : (((pc + 1 : Nat) : Int) + o).toNat = pc2) (ha : x.toInt = a) (hb' : y.toInt = b) (ht : a < b → G h kc ks (mkF m pc2 L S)) (hf : b ≤ a → G h kc ks (mkF m pc1 L S)) : G h kc ks (mkF m pc L (.long y :: .long x :: S)) := by
  subst hp
  have q := lcmpW0 .lt ha hb'
  refine K.step (f' := mkF m (pc + 1) L (.int (if x > y then 1 else if x = y then 0 else -1) :: S)) (fun p e below T c h hx hb0 t hr => XS.lcmp h hx rfl (hb hb0 hd0) rfl hr) ?_
  by_cases hc : a < b
  · exact K.step (fun p e below T c h hx hb0 t hr => XS.ifYes h hx rfl (pc0 := pc + 1) (pc' := pc2) rfl (hb hb0 hd) rfl (q.trans (decide_eq_true hc)) ho hq hr) (ht hc)
  · exact K.step (fun p e below T c h hx hb0 t hr => XS.ifNo h hx rfl (hb hb0 hd) rfl (q.trans (decide_eq_false hc)) hr) (hf (by omega))
theorem Cx.icmp_ge (K : Cx l R Z n0 Q own nm bytes maxL ret m G) {o : Int} {x y : Int32} {a b : Int} (hd : decode bytes pc = .ok (.if_icmp .ge o, 3)) (hp : pc + 3 = pc1) (ho : 0 ≤ (pc : Int) + o) (hq : ((pc : Int) + o).toNat = pc2) (ha : x.toInt = a) (hb' : y.toInt = b) (ht : b ≤ a → G h kc ks (mkF m pc2 L S)) (hf : a < b → G h kc ks (mkF m pc1 L S)) : G h kc ks (mkF m pc L (.int y :: .int x :: S)) := by
  subst hp
  have q := icmpW .ge ha hb'
  by_cases hc : b ≤ a
  · exact K.step (fun p e below T c h hx hb0 t hr => XS.icmpYes h hx rfl (pc0 := pc) (pc' := pc2) rfl (hb hb0 hd) rfl (q.trans (decide_eq_true hc)) ho hq hr) (ht hc)
  · exact K.step (fun p e below T c h hx hb0 t hr => XS.icmpNo h hx rfl (hb hb0 hd) rfl (q.trans (decide_eq_false hc)) hr) (hf (by omega))
theorem Cx.if_ge (K : Cx l R Z n0 Q own nm bytes maxL ret m G) {o : Int} {x : Int32} {a : Int} (hd : decode bytes pc = .ok (.ifCond .ge o, 3)) (hp : pc + 3 = pc1) (ho : 0 ≤ (pc : Int) + o) (hq : ((pc : Int) + o).toNat = pc2) (ha : x.toInt = a) (ht : 0 ≤ a → G h kc ks (mkF m pc2 L S)) (hf : a < 0 → G h kc ks (mkF m pc1 L S)) : G h kc ks (mkF m pc L (.int x :: S)) := by
  subst hp
  have q := (if0 .ge x).trans (icmpW .ge ha (b := 0) rfl)
  by_cases hc : 0 ≤ a
  · exact K.step (fun p e below T c h hx hb0 t hr => XS.ifYes h hx rfl (pc0 := pc) (pc' := pc2) rfl (hb hb0 hd) rfl (q.trans (decide_eq_true hc)) ho hq hr) (ht hc)
  · exact K.step (fun p e below T c h hx hb0 t hr => XS.ifNo h hx rfl (hb hb0 hd) rfl (q.trans (decide_eq_false hc)) hr) (hf (by omega))
theorem Cx.lcmp_ge (K : Cx l R Z n0 Q own nm bytes maxL ret m G) {o : Int} {x y : Int64} {a b : Int} (hd0 : decode bytes pc = .ok (.lcmp, 1)) (hd : decode bytes (pc + 1) = .ok (.ifCond .ge o, 3)) (hp : pc + 4 = pc1) (ho : 0 ≤ ((pc + 1 : Nat) : Int) + o) (hq : (((pc + 1 : Nat) : Int) + o).toNat = pc2) (ha : x.toInt = a) (hb' : y.toInt = b) (ht : b ≤ a → G h kc ks (mkF m pc2 L S)) (hf : a < b → G h kc ks (mkF m pc1 L S)) : G h kc ks (mkF m pc L (.long y :: .long x :: S)) := by
  subst hp
  have q := lcmpW0 .ge ha hb'
  refine K.step (f' := mkF m (pc + 1) L (.int (if x > y then 1 else if x = y then 0 else -1) :: S)) (fun p e below T c h hx hb0 t hr => XS.lcmp h hx rfl (hb hb0 hd0) rfl hr) ?_
  by_cases hc : b ≤ a
  · exact K.step (fun p e below T c h hx hb0 t hr => XS.ifYes h hx rfl (pc0 := pc + 1) (pc' := pc2) rfl (hb hb0 hd) rfl (q.trans (decide_eq_true hc)) ho hq hr) (ht hc)
  · exact K.step (fun p e below T c h hx hb0 t hr => XS.ifNo h hx rfl (hb hb0 hd) rfl (q.trans (decide_eq_false hc)) hr) (hf (by omega))
theorem Cx.icmp_gt (K : Cx l R Z n0 Q own nm bytes maxL ret m G) {o : Int} {x y : Int32} {a b : Int} (hd : decode bytes pc = .ok (.if_icmp .gt o, 3)) (hp : pc + 3 = pc1) (ho : 0 ≤ (pc : Int) + o) (hq : ((pc : Int) + o).toNat = pc2) (ha : x.toInt = a) (hb' : y.toInt = b) (ht : b < a → G h kc ks (mkF m pc2 L S)) (hf : a ≤ b → G h kc ks (mkF m pc1 L S)) : G h kc ks (mkF m pc L (.int y :: .int x :: S)) := by
  subst hp
  have q := icmpW .gt ha hb'
  by_cases hc : b < a
  · exact K.step (fun p e below T c h hx hb0 t hr => XS.icmpYes h hx rfl (pc0 := pc) (pc' := pc2) rfl (hb hb0 hd) rfl (q.trans (decide_eq_true hc)) ho hq hr) (ht hc)
  · exact K.step (fun p e below T c h hx hb0 t hr => XS.icmpNo h hx rfl (hb hb0 hd) rfl (q.trans (decide_eq_false hc)) hr) (hf (by omega))
theorem Cx.if_gt (K : Cx l R Z n0 Q own nm bytes maxL ret m G) {o : Int} {x : Int32} {a : Int} (hd : decode bytes pc = .ok (.ifCond .gt o, 3)) (hp : pc + 3 = pc1) (ho : 0 ≤ (pc : Int) + o) (hq : ((pc : Int) + o).toNat = pc2) (ha : x.toInt = a) (ht : 0 < a → G h kc ks (mkF m pc2 L S)) (hf : a ≤ 0 → G h kc ks (mkF m pc1 L S)) : G h kc ks (mkF m pc L (.int x :: S)) := by
  subst hp
  have q := (if0 .gt x).trans (icmpW .gt ha (b := 0) rfl)
  by_cases hc : 0 < a
  · exact K.step (fun p e below T c h hx hb0 t hr => XS.ifYes h hx rfl (pc0 := pc) (pc' := pc2) rfl (hb hb0 hd) rfl (q.trans (decide_eq_true hc)) ho hq hr) (ht hc)
  · exact K.step (fun p e below T c h hx hb0 t hr => XS.ifNo h hx rfl (hb hb0 hd) rfl (q.trans (decide_eq_false hc)) hr) (hf (by omega))
theorem Cx.lcmp_gt (K : Cx l R Z n0 Q own nm bytes maxL ret m G) {o : Int} {x y : Int64} {a b : Int} (hd0 : decode bytes pc = .ok (.lcmp, 1)) (hd : decode bytes (pc + 1) = .ok (.ifCond .gt o, 3)) (hp : pc + 4 = pc1) (ho : 0 ≤ ((pc + 1 : Nat) : Int) + o) (hq : (((pc + 1 : Nat) : Int) + o).toNat = pc2) (ha : x.toInt = a) (hb' : y.toInt = b) (ht : b < a → G h kc ks (mkF m pc2 L S)) (hf : a ≤ b → G h kc ks (mkF m pc1 L S)) : G h kc ks (mkF m pc L (.long y :: .long x :: S)) := by
  subst hp
  have q := lcmpW0 .gt ha hb'
  refine K.step (f' := mkF m (pc + 1) L (.int (if x > y then 1 else if x = y then 0 else -1) :: S)) (fun p e below T c h hx hb0 t hr => XS.lcmp h hx rfl (hb hb0 hd0) rfl hr) ?_
  by_cases hc : b < a
  · exact K.step (fun p e below T c h hx hb0 t hr => XS.ifYes h hx rfl (pc0 := pc + 1) (pc' := pc2) rfl (hb hb0 hd) rfl (q.trans (decide_eq_true hc)) ho hq hr) (ht hc)
  · exact K.step (fun p e below T c h hx hb0 t hr => XS.ifNo h hx rfl (hb hb0 hd) rfl (q.trans (decide_eq_false hc)) hr) (hf (by omega))
theorem Cx.icmp_le (K : Cx l R Z n0 Q own nm bytes maxL ret m G) {o : Int} {x y : Int32} {a b : Int} (hd : decode bytes pc = .ok (.if_icmp .le o, 3)) (hp : pc + 3 = pc1) (ho : 0 ≤ (pc : Int) + o) (hq : ((pc : Int) + o).toNat = pc2) (ha : x.toInt = a) (hb' : y.toInt = b) (ht : a ≤ b → G h kc ks (mkF m pc2 L S)) (hf : b < a → G h kc ks (mkF m pc1 L S)) : G h kc ks (mkF m pc L (.int y :: .int x :: S)) := by
  subst hp
  have q := icmpW .le ha hb'
  by_cases hc : a ≤ b
  · exact K.step (fun p e below T c h hx hb0 t hr => XS.icmpYes h hx rfl (pc0 := pc) (pc' := pc2) rfl (hb hb0 hd) rfl (q.trans (decide_eq_true hc)) ho hq hr) (ht hc)
  · exact K.step (fun p e below T c h hx hb0 t hr => XS.icmpNo h hx rfl (hb hb0 hd) rfl (q.trans (decide_eq_false hc)) hr) (hf (by omega))
theorem Cx.if_le (K : Cx l R Z n0 Q own nm bytes maxL ret m G) {o : Int} {x : Int32} {a : Int} (hd : decode bytes pc = .ok (.ifCond .le o, 3)) (hp : pc + 3 = pc1) (ho : 0 ≤ (pc : Int) + o) (hq : ((pc : Int) + o).toNat = pc2) (ha : x.toInt = a) (ht : a ≤ 0 → G h kc ks (mkF m pc2 L S)) (hf : 0 < a → G h kc ks (mkF m pc1 L S)) : G h kc ks (mkF m pc L (.int x :: S)) := by
  subst hp
  have q := (if0 .le x).trans (icmpW .le ha (b := 0) rfl)
  by_cases hc : a ≤ 0
  · exact K.step (fun p e below T c h hx hb0 t hr => XS.ifYes h hx rfl (pc0 := pc) (pc' := pc2) rfl (hb hb0 hd) rfl (q.trans (decide_eq_true hc)) ho hq hr) (ht hc)
  · exact K.step (fun p e below T c h hx hb0 t hr => XS.ifNo h hx rfl (hb hb0 hd) rfl (q.trans (decide_eq_false hc)) hr) (hf (by omega))
theorem Cx.lcmp_le (K : Cx l R Z n0 Q own nm bytes maxL ret m G) {o : Int} {x y : Int64} {a b : Int} (hd0 : decode bytes pc = .ok (.lcmp, 1)) (hd : decode bytes (pc + 1) = .ok (.ifCond .le o, 3)) (hp : pc + 4 = pc1) (ho : 0 ≤ ((pc + 1 : Nat) : Int) + o) (hq : (((pc + 1 : Nat) : Int) + o).toNat = pc2) (ha : x.toInt = a) (hb' : y.toInt = b) (ht : a ≤ b → G h kc ks (mkF m pc2 L S)) (hf : b < a → G h kc ks (mkF m pc1 L S)) : G h kc ks (mkF m pc L (.long y :: .long x :: S)) := by
  subst hp
  have q := lcmpW0 .le ha hb'
  refine K.step (f' := mkF m (pc + 1) L (.int (if x > y then 1 else if x = y then 0 else -1) :: S)) (fun p e below T c h hx hb0 t hr => XS.lcmp h hx rfl (hb hb0 hd0) rfl hr) ?_
  by_cases hc : a ≤ b
  · exact K.step (fun p e below T c h hx hb0 t hr => XS.ifYes h hx rfl (pc0 := pc + 1) (pc' := pc2) rfl (hb hb0 hd) rfl (q.trans (decide_eq_true hc)) ho hq hr) (ht hc)
  · exact K.step (fun p e below T c h hx hb0 t hr => XS.ifNo h hx rfl (hb hb0 hd) rfl (q.trans (decide_eq_false hc)) hr) (hf (by omega))
theorem Cx.icmp_eq (K : Cx l R Z n0 Q own nm bytes maxL ret m G) {o : Int} {x y : Int32} {a b : Int} (hd : decode bytes pc = .ok (.if_icmp .eq o, 3)) (hp : pc + 3 = pc1) (ho : 0 ≤ (pc : Int) + o) (hq : ((pc : Int) + o).toNat = pc2) (ha : x.toInt = a) (hb' : y.toInt = b) (ht : a = b → G h kc ks (mkF m pc2 L S)) (hf : a ≠ b → G h kc ks (mkF m pc1 L S)) : G h kc ks (mkF m pc L (.int y :: .int x :: S)) := by
  subst hp
  have q := icmpW .eq ha hb'
  by_cases hc : a = b
  · exact K.step (fun p e below T c h hx hb0 t hr => XS.icmpYes h hx rfl (pc0 := pc) (pc' := pc2) rfl (hb hb0 hd) rfl (q.trans (decide_eq_true hc)) ho hq hr) (ht hc)
  · exact K.step (fun p e below T c h hx hb0 t hr => XS.icmpNo h hx rfl (hb hb0 hd) rfl (q.trans (decide_eq_false hc)) hr) (hf (by omega))
theorem Cx.if_eq (K : Cx l R Z n0 Q own nm bytes maxL ret m G) {o : Int} {x : Int32} {a : Int} (hd : decode bytes pc = .ok (.ifCond .eq o, 3)) (hp : pc + 3 = pc1) (ho : 0 ≤ (pc : Int) + o) (hq : ((pc : Int) + o).toNat = pc2) (ha : x.toInt = a) (ht : a = 0 → G h kc ks (mkF m pc2 L S)) (hf : a ≠ 0 → G h kc ks (mkF m pc1 L S)) : G h kc ks (mkF m pc L (.int x :: S)) := by
  subst hp
  have q := (if0 .eq x).trans (icmpW .eq ha (b := 0) rfl)
  by_cases hc : a = 0
  · exact K.step (fun p e below T c h hx hb0 t hr => XS.ifYes h hx rfl (pc0 := pc) (pc' := pc2) rfl (hb hb0 hd) rfl (q.trans (decide_eq_true hc)) ho hq hr) (ht hc)
  · exact K.step (fun p e below T c h hx hb0 t hr => XS.ifNo h hx rfl (hb hb0 hd) rfl (q.trans (decide_eq_false hc)) hr) (hf (by omega))
theorem Cx.lcmp_eq (K : Cx l R Z n0 Q own nm bytes maxL ret m G) {o : Int} {x y : Int64} {a b : Int} (hd0 : decode bytes pc = .ok (.lcmp, 1)) (hd : decode bytes (pc + 1) = .ok (.ifCond .eq o, 3)) (hp : pc + 4 = pc1) (ho : 0 ≤ ((pc + 1 : Nat) : Int) + o) (hq : (((pc + 1 : Nat) : Int) + o).toNat = pc2) (ha : x.toInt = a) (hb' : y.toInt = b) (ht : a = b → G h kc ks (mkF m pc2 L S)) (hf : a ≠ b → G h kc ks (mkF m pc1 L S)) : G h kc ks (mkF m pc L (.long y :: .long x :: S)) := by
  subst hp
  have q := lcmpW0 .eq ha hb'
  refine K.step (f' := mkF m (pc + 1) L (.int (if x > y then 1 else if x = y then 0 else -1) :: S)) (fun p e below T c h hx hb0 t hr => XS.lcmp h hx rfl (hb hb0 hd0) rfl hr) ?_
  by_cases hc : a = b
  · exact K.step (fun p e below T c h hx hb0 t hr => XS.ifYes h hx rfl (pc0 := pc + 1) (pc' := pc2) rfl (hb hb0 hd) rfl (q.trans (decide_eq_true hc)) ho hq hr) (ht hc)
  · exact K.step (fun p e below T c h hx hb0 t hr => XS.ifNo h hx rfl (hb hb0 hd) rfl (q.trans (decide_eq_false hc)) hr) (hf (by omega))
theorem Cx.icmp_ne (K : Cx l R Z n0 Q own nm bytes maxL ret m G) {o : Int} {x y : Int32} {a b : Int} (hd : decode bytes pc = .ok (.if_icmp .ne o, 3)) (hp : pc + 3 = pc1) (ho : 0 ≤ (pc : Int) + o) (hq : ((pc : Int) + o).toNat = pc2) (ha : x.toInt = a) (hb' : y.toInt = b) (ht : a ≠ b → G h kc ks (mkF m pc2 L S)) (hf : a = b → G h kc ks (mkF m pc1 L S)) : G h kc ks (mkF m pc L (.int y :: .int x :: S)) := by
  subst hp
  have q := icmpW .ne ha hb'
  by_cases hc : a ≠ b
  · exact K.step (fun p e below T c h hx hb0 t hr => XS.icmpYes h hx rfl (pc0 := pc) (pc' := pc2) rfl (hb hb0 hd) rfl (q.trans (decide_eq_true hc)) ho hq hr) (ht hc)
  · exact K.step (fun p e below T c h hx hb0 t hr => XS.icmpNo h hx rfl (hb hb0 hd) rfl (q.trans (decide_eq_false hc)) hr) (hf (by omega))
theorem Cx.if_ne (K : Cx l R Z n0 Q own nm bytes maxL ret m G) {o : Int} {x : Int32} {a : Int} (hd : decode bytes pc = .ok (.ifCond .ne o, 3)) (hp : pc + 3 = pc1) (ho : 0 ≤ (pc : Int) + o) (hq : ((pc : Int) + o).toNat = pc2) (ha : x.toInt = a) (ht : a ≠ 0 → G h kc ks (mkF m pc2 L S)) (hf : a = 0 → G h kc ks (mkF m pc1 L S)) : G h kc ks (mkF m pc L (.int x :: S)) := by
  subst hp
  have q := (if0 .ne x).trans (icmpW .ne ha (b := 0) rfl)
  by_cases hc : a ≠ 0
  · exact K.step (fun p e below T c h hx hb0 t hr => XS.ifYes h hx rfl (pc0 := pc) (pc' := pc2) rfl (hb hb0 hd) rfl (q.trans (decide_eq_true hc)) ho hq hr) (ht hc)
  · exact K.step (fun p e below T c h hx hb0 t hr => XS.ifNo h hx rfl (hb hb0 hd) rfl (q.trans (decide_eq_false hc)) hr) (hf (by omega))
theorem Cx.lcmp_ne (K : Cx l R Z n0 Q own nm bytes maxL ret m G) {o : Int} {x y : Int64} {a b : Int} (hd0 : decode bytes pc = .ok (.lcmp, 1)) (hd : decode bytes (pc + 1) = .ok (.ifCond .ne o, 3)) (hp : pc + 4 = pc1) (ho : 0 ≤ ((pc + 1 : Nat) : Int) + o) (hq : (((pc + 1 : Nat) : Int) + o).toNat = pc2) (ha : x.toInt = a) (hb' : y.toInt = b) (ht : a ≠ b → G h kc ks (mkF m pc2 L S)) (hf : a = b → G h kc ks (mkF m pc1 L S)) : G h kc ks (mkF m pc L (.long y :: .long x :: S)) := by
  subst hp
  have q := lcmpW0 .ne ha hb'
  refine K.step (f' := mkF m (pc + 1) L (.int (if x > y then 1 else if x = y then 0 else -1) :: S)) (fun p e below T c h hx hb0 t hr => XS.lcmp h hx rfl (hb hb0 hd0) rfl hr) ?_
  by_cases hc : a ≠ b
  · exact K.step (fun p e below T c h hx hb0 t hr => XS.ifYes h hx rfl (pc0 := pc + 1) (pc' := pc2) rfl (hb hb0 hd) rfl (q.trans (decide_eq_true hc)) ho hq hr) (ht hc)
  · exact K.step (fun p e below T c h hx hb0 t hr => XS.ifNo h hx rfl (hb hb0 hd) rfl (q.trans (decide_eq_false hc)) hr) (hf (by omega))
theorem Cx.ifneB (K : Cx l R Z n0 Q own nm bytes maxL ret m G) {o : Int} {P : Prop} [Decidable P] (hd : decode bytes pc = .ok (.ifCond .ne o, 3)) (hp : pc + 3 = pc1) (ho : 0 ≤ (pc : Int) + o) (hq : ((pc : Int) + o).toNat = pc2) (ht : P → G h kc ks (mkF m pc2 L S)) (hf : ¬ P → G h kc ks (mkF m pc1 L S)) : G h kc ks (mkF m pc L (.int (b2 P) :: S)) :=
  K.if_ne hd hp ho hq rfl (fun q => ht ((b2_ne0 P).mp q)) (fun q => hf ((b2_eq0 P).mp q))
theorem Cx.ifeqB (K : Cx l R Z n0 Q own nm bytes maxL ret m G) {o : Int} {P : Prop} [Decidable P] (hd : decode bytes pc = .ok (.ifCond .eq o, 3)) (hp : pc + 3 = pc1) (ho : 0 ≤ (pc : Int) + o) (hq : ((pc : Int) + o).toNat = pc2) (ht : ¬ P → G h kc ks (mkF m pc2 L S)) (hf : P → G h kc ks (mkF m pc1 L S)) : G h kc ks (mkF m pc L (.int (b2 P) :: S)) :=
  K.if_eq hd hp ho hq rfl (fun q => ht ((b2_eq0 P).mp q)) (fun q => hf ((b2_ne0 P).mp q))
theorem Cx.icmpneB (K : Cx l R Z n0 Q own nm bytes maxL ret m G) {o : Int} {P P' : Prop} [Decidable P] [Decidable P'] (hd : decode bytes pc = .ok (.if_icmp .ne o, 3)) (hp : pc + 3 = pc1) (ho : 0 ≤ (pc : Int) + o) (hq : ((pc : Int) + o).toNat = pc2) (ht : ¬ (P ↔ P') → G h kc ks (mkF m pc2 L S)) (hf : (P ↔ P') → G h kc ks (mkF m pc1 L S)) : G h kc ks (mkF m pc L (.int (b2 P') :: .int (b2 P) :: S)) :=
  K.icmp_ne hd hp ho hq rfl rfl (fun q => ht (fun z => q ((b2_inj P P').mpr z))) (fun q => hf ((b2_inj P P').mp q))
theorem Cx.icmpeqB (K : Cx l R Z n0 Q own nm bytes maxL ret m G) {o : Int} {P P' : Prop} [Decidable P] [Decidable P'] (hd : decode bytes pc = .ok (.if_icmp .eq o, 3)) (hp : pc + 3 = pc1) (ho : 0 ≤ (pc : Int) + o) (hq : ((pc : Int) + o).toNat = pc2) (ht : (P ↔ P') → G h kc ks (mkF m pc2 L S)) (hf : ¬ (P ↔ P') → G h kc ks (mkF m pc1 L S)) : G h kc ks (mkF m pc L (.int (b2 P') :: .int (b2 P) :: S)) :=
  K.icmp_eq hd hp ho hq rfl rfl (fun q => ht ((b2_inj P P').mp q)) (fun q => hf (fun z => q ((b2_inj P P').mpr z)))
theorem Cx.ifnull0 (K : Cx l R Z n0 Q own nm bytes maxL ret m G) {o : Int} (hd : decode bytes pc = .ok (.ifnull o, 3)) (ho : 0 ≤ (pc : Int) + o) (hq : ((pc : Int) + o).toNat = pc2) (hr : G h kc ks (mkF m pc2 L S)) : G h kc ks (mkF m pc L (.null :: S)) :=
  K.step (fun p e below T c h hx hb0 t hr => XS.ifnullYes h hx rfl (pc0 := pc) (pc' := pc2) rfl (hb hb0 hd) rfl ho hq hr) hr
theorem Cx.ifnull1 (K : Cx l R Z n0 Q own nm bytes maxL ret m G) {o : Int} {b : Addr} (hd : decode bytes pc = .ok (.ifnull o, 3)) (hp : pc + 3 = pc') (hr : G h kc ks (mkF m pc' L S)) : G h kc ks (mkF m pc L (.ref b :: S)) := by
  subst hp
  exact K.step (fun p e below T c h hx hb0 t hr => XS.ifnullNo h hx rfl (hb hb0 hd) rfl hr) hr
theorem Cx.ifnonnull1 (K : Cx l R Z n0 Q own nm bytes maxL ret m G) {o : Int} {b : Addr} (hd : decode bytes pc = .ok (.ifnonnull o, 3)) (ho : 0 ≤ (pc : Int) + o) (hq : ((pc : Int) + o).toNat = pc2) (hr : G h kc ks (mkF m pc2 L S)) : G h kc ks (mkF m pc L (.ref b :: S)) :=
  K.step (fun p e below T c h hx hb0 t hr => XS.ifnonnullYes h hx rfl (pc0 := pc) (pc' := pc2) rfl (hb hb0 hd) rfl ho hq hr) hr
theorem Cx.ifnonnull0 (K : Cx l R Z n0 Q own nm bytes maxL ret m G) {o : Int} (hd : decode bytes pc = .ok (.ifnonnull o, 3)) (hp : pc + 3 = pc') (hr : G h kc ks (mkF m pc' L S)) : G h kc ks (mkF m pc L (.null :: S)) := by
  subst hp
  exact K.step (fun p e below T c h hx hb0 t hr => XS.ifnonnullNo h hx rfl (hb hb0 hd) rfl hr) hr
theorem Cx.acmpNe (K : Cx l R Z n0 Q own nm bytes maxL ret m G) {o : Int} {a b : Addr} (hd : decode bytes pc = .ok (.if_acmp .ne o, 3)) (hp : pc + 3 = pc1) (ho : 0 ≤ (pc : Int) + o) (hq : ((pc : Int) + o).toNat = pc2) (ht : a ≠ b → G h kc ks (mkF m pc2 L S)) (hf : a = b → G h kc ks (mkF m pc1 L S)) : G h kc ks (mkF m pc L (.ref b :: .ref a :: S)) := by
  subst hp
  by_cases hc : a = b
  · exact K.step (fun p e below T c h hx hb0 t hr => XS.acmpNo h hx rfl (hb hb0 hd) rfl (by simp [if_acmp.holds, hc]) hr) (hf hc)
  · exact K.step (fun p e below T c h hx hb0 t hr => XS.acmpYes h hx rfl (pc0 := pc) (pc' := pc2) rfl (hb hb0 hd) rfl (by simp [if_acmp.holds, hc]) ho hq hr) (ht hc)
theorem Cx.acmpEq (K : Cx l R Z n0 Q own nm bytes maxL ret m G) {o : Int} {a b : Addr} (hd : decode bytes pc = .ok (.if_acmp .eq o, 3)) (hp : pc + 3 = pc1) (ho : 0 ≤ (pc : Int) + o) (hq : ((pc : Int) + o).toNat = pc2) (ht : a = b → G h kc ks (mkF m pc2 L S)) (hf : a ≠ b → G h kc ks (mkF m pc1 L S)) : G h kc ks (mkF m pc L (.ref b :: .ref a :: S)) := by
  subst hp
  by_cases hc : a = b
  · exact K.step (fun p e below T c h hx hb0 t hr => XS.acmpYes h hx rfl (pc0 := pc) (pc' := pc2) rfl (hb hb0 hd) rfl (by simp [if_acmp.holds, hc]) ho hq hr) (ht hc)
  · exact K.step (fun p e below T c h hx hb0 t hr => XS.acmpNo h hx rfl (hb hb0 hd) rfl (by simp [if_acmp.holds, hc]) hr) (hf hc)
theorem Cx.lsHit (K : Cx l R Z n0 Q own nm bytes maxL ret m G) {dflt : Int} {pairs : Array (Int × Int)} {len : Nat} {k : Int32} {a off : Int} (hd : decode bytes pc = .ok (.lookupswitch dflt pairs, len)) (hsorted : (pairs.toList.zip (pairs.toList.drop 1)).all (fun (a, next) => a.1 < next.1) = true) (hfind : pairs.find? (·.1 == k.toInt) = some (a, off)) (ho : 0 ≤ (pc : Int) + off) (hq : ((pc : Int) + off).toNat = pc2) (hr : G h kc ks (mkF m pc2 L S)) : G h kc ks (mkF m pc L (.int k :: S)) := by
  subst hq
  exact K.stepX (h' := h) (fun p e s args below meth c T locs X eT hx hb0 hown hZ => ⟨T, X, eT, fun t hr => X.lookupswitchHit hx (g := mkF m pc L (.int k :: S)) rfl rfl (hb hb0 hd) hsorted hfind ho _ hr⟩) hr
theorem Cx.lsMiss (K : Cx l R Z n0 Q own nm bytes maxL ret m G) {dflt : Int} {pairs : Array (Int × Int)} {len : Nat} {k : Int32} (hd : decode bytes pc = .ok (.lookupswitch dflt pairs, len)) (hsorted : (pairs.toList.zip (pairs.toList.drop 1)).all (fun (a, next) => a.1 < next.1) = true) (hfind : ∀ p ∈ pairs.toList, p.1 ≠ k.toInt) (ho : 0 ≤ (pc : Int) + dflt) (hq : ((pc : Int) + dflt).toNat = pc2) (hr : G h kc ks (mkF m pc2 L S)) : G h kc ks (mkF m pc L (.int k :: S)) := by
  subst hq
  exact K.stepX (h' := h) (fun p e s args below meth c T locs X eT hx hb0 hown hZ => ⟨T, X, eT, fun t hr => X.lookupswitchMiss hx (g := mkF m pc L (.int k :: S)) rfl rfl (hb hb0 hd) hsorted (find_miss hfind) ho _ hr⟩) hr
theorem Cx.ldcI (K : Cx l R Z n0 Q own nm bytes maxL ret m G) {index : Nat} {v : Int32} (hd : decode bytes pc = .ok (.ldc index, 2)) (hp : pc + 2 = pc') (w : (Cond.constant own index v).before a0 Z = true) (hr : G h kc ks (mkF m pc' L (.int v :: S))) : G h kc ks (mkF m pc L S) := by
  subst hp
  exact K.stepX (h' := h) (fun p e s args below meth c T locs X eT hx hb0 hown hZ => ⟨T, X, eT, X.ldcInt hx hown (mvT hZ w) (g := mkF m pc L S) rfl (hb hb0 hd)⟩) hr
theorem Cx.ldcwI (K : Cx l R Z n0 Q own nm bytes maxL ret m G) {index : Nat} {v : Int32} (hd : decode bytes pc = .ok (.ldc_w index, 3)) (hp : pc + 3 = pc') (w : (Cond.constant own index v).before a0 Z = true) (hr : G h kc ks (mkF m pc' L (.int v :: S))) : G h kc ks (mkF m pc L S) := by
  subst hp
  exact K.stepX (h' := h) (fun p e s args below meth c T locs X eT hx hb0 hown hZ => ⟨T, X, eT, X.ldcwInt hx hown (mvT hZ w) (g := mkF m pc L S) rfl (hb hb0 hd)⟩) hr
theorem Cx.ldc2J (K : Cx l R Z n0 Q own nm bytes maxL ret m G) {index : Nat} {v : Int64} (hd : decode bytes pc = .ok (.ldc2_w index, 3)) (hp : pc + 3 = pc') (w : (Cond.constantLong own index v).before a0 Z = true) (hr : G h kc ks (mkF m pc' L (.long v :: S))) : G h kc ks (mkF m pc L S) := by
  subst hp
  exact K.stepX (h' := h) (fun p e s args below meth c T locs X eT hx hb0 hown hZ => ⟨T, X, eT, X.ldc2Long hx hown (mvT hZ w) (g := mkF m pc L S) rfl (hb hb0 hd)⟩) hr
theorem Cx.ldc2D (K : Cx l R Z n0 Q own nm bytes maxL ret m G) {index : Nat} {v : UInt64} (hd : decode bytes pc = .ok (.ldc2_w index, 3)) (hp : pc + 3 = pc') (w : (Cond.constantDouble own index v).before a0 Z = true) (hr : G h kc ks (mkF m pc' L (.double v :: S))) : G h kc ks (mkF m pc L S) := by
  subst hp
  exact K.stepX (h' := h) (fun p e s args below meth c T locs X eT hx hb0 hown hZ => ⟨T, X, eT, X.ldc2DoubleC hx hown (mvT hZ w) (g := mkF m pc L S) rfl (hb hb0 hd)⟩) hr
theorem Cx.getf (K : Cx l R Z n0 Q own nm bytes maxL ret m G) {R0 O n d host : String} {index : Nat} {a : Addr} {v : Value} (hd : decode bytes pc = .ok (.getfield index, 3)) (hp : pc + 3 = pc') (w : (Cond.fieldLink own index R0 n d).before a0 Z = true ∨ (Cond.fieldLinkNest own index R0 n d host).before a0 Z = true) (via : Via Z R0 O n d) (F : Fld Z h a O n d v) (hr : G h kc ks (mkF m pc' L (v :: S))) : G h kc ks (mkF m pc L (.ref a :: S)) := by
  subst hp
  exact K.stepX (h' := h) (fun p e s args below meth c T locs X eT hx hb0 hown hZ => RoadKit.getF X hx hZ hown w via eT F (g := mkF m pc L (.ref a :: S)) rfl rfl (hb hb0 hd)) hr
theorem Cx.gets (K : Cx l R Z n0 Q own nm bytes maxL ret m G) {R0 O n d host : String} {index : Nat} {v : Value} (hd : decode bytes pc = .ok (.getstatic index, 3)) (hp : pc + 3 = pc') (w : (Cond.fieldLink own index R0 n d).before a0 Z = true ∨ (Cond.fieldLinkNest own index R0 n d host).before a0 Z = true) (via : Via Z R0 O n d) (F : Sta Z h O n d v) (hr : G h kc ks (mkF m pc' L (v :: S))) : G h kc ks (mkF m pc L S) := by
  subst hp
  exact K.stepX (h' := h) (fun p e s args below meth c T locs X eT hx hb0 hown hZ => RoadKit.getS2 X hx hZ hown w via eT F (g := mkF m pc L S) rfl (hb hb0 hd)) hr
theorem Cx.putf (K : Cx l R Z n0 Q own nm bytes maxL ret m G) {R0 O n d host C : String} {index kk : Nat} {ty : FieldType} {a : Addr} {v old : Value} (hd : decode bytes pc = .ok (.putfield index, 3)) (hp : pc + 3 = pc') (w : (Cond.fieldLink own index R0 n d).before a0 Z = true ∨ (Cond.fieldLinkNest own index R0 n d host).before a0 Z = true) (via : Via Z R0 O n d) (F : Fld Z h a O n d old) (E : Exa Z h a C)
    (LL : (Cond.lays C O n d).before a0 Z = true ∨ ((Cond.laysFinal C O n d).before a0 Z = true ∧ own = O ∧ nm = "<init>")) (wi : (Cond.instantiable C kk).before a0 Z = true) (hty : parseFieldDescriptor d = some ty) (hn : narrow ty v = v) (hf : fits ty v = true) (ga : n0 ≤ a)
    (hr : ∀ h', Wr h h' a (Jvm.RoadKit.slotOf Z O n d) v → G h' kc ks (mkF m pc' L S)) : G h kc ks (mkF m pc L (v :: .ref a :: S)) := by
  obtain ⟨p, e, s, args, below, meth, c, rfl, hx, hby, hml, hown, hZ, hret, hlk, hnm⟩ := K
  subst hp
  intro T locs X eT N
  obtain ⟨T', h', X', e', W, st⟩ := RoadKit.putF X hx hZ hown w via eT F E (LL.imp id fun q => ⟨q.1, q.2.1, hnm.trans q.2.2⟩) wi hty hn hf (g := mkF m pc L (v :: .ref a :: S)) rfl rfl (hb hby hd)
  obtain ⟨s₂, o, h1, h2⟩ := hr h' W T' _ X' e' (Fr.snoc X' N ga)
  exact ⟨s₂, o, st _ h1, h2⟩
theorem Cx.newo (K : Cx l R Z n0 Q own nm bytes maxL ret m G) {C : String} {index n : Nat} (hd : decode bytes pc = .ok (.new index, 3)) (hp : pc + 3 = pc') (w : (Cond.classLink own index C).before a0 Z = true) (wi : (Cond.instantiable C n).before a0 Z = true) (wz : (Cond.initialized C).before a0 Z = true) (hc : kc + 1 ≤ R.cells) (hl : ks + n ≤ R.slots)
    (hr : ∀ h' a, a = h.size → Ext h h' → Exa Z h' a C → (∀ {O nm d : String} {ty : FieldType}, Laid Z a0 C O nm d → parseFieldDescriptor d = some ty → Fld Z h' a O nm d (defaultValue ty)) → G h' (kc + 1) (ks + n) (mkF m pc' L (.ref a :: S))) : G h kc ks (mkF m pc L S) := by
  obtain ⟨p, e, s, args, below, meth, c, rfl, hx, hby, hml, hown, hZ, hret, hlk, hnm⟩ := K
  subst hp
  intro T locs X eT N
  obtain ⟨T', h', X', e', E, A, D, -, st⟩ := RoadKit.newO X hx hZ hown w wi wz eT (g := mkF m pc L S) rfl (hb hby hd) hc hl
  obtain ⟨s₂, o, h1, h2⟩ := hr h' _ rfl E A D T' _ X' e' N
  exact ⟨s₂, o, st _ h1, h2⟩
theorem Cx.newa (K : Cx l R Z n0 Q own nm bytes maxL ret m G) {aty : ArrayType} {n : Int32} {k cap : Nat} (hd : decode bytes pc = .ok (.newarray aty, 2)) (hp : pc + 2 = pc') (w : (Cond.arrayClass (newarray.typeOf aty)).before a0 Z = true) (hn : n.toInt = (k : Nat)) (hk : k ≤ cap) (hbig : cap * 8 ≤ 536870912) (hc : kc + 1 ≤ R.cells) (hl : ks + cap ≤ R.slots) {ad : String} (had : "[" ++ (newarray.typeOf aty).toString = ad)
    (hr : ∀ h' a, a = h.size → Ext h h' → Ary Z h' a (newarray.typeOf aty) (List.replicate k (defaultValue (newarray.typeOf aty))) → Exa Z h' a ad → G h' (kc + 1) (ks + cap) (mkF m pc' L (.ref a :: S))) : G h kc ks (mkF m pc L (.int n :: S)) := by
  obtain ⟨p, e, s, args, below, meth, c, rfl, hx, hby, hml, hown, hZ, hret, hlk, hnm⟩ := K
  subst hp
  intro T locs X eT N
  have hn0 : ¬ n < 0 := by rw [Int32.lt_iff_toInt_lt, hn, show (0 : Int32).toInt = 0 from rfl]; omega
  obtain ⟨T', h', cA, X', e', E, A, EX, st⟩ := RoadKit.newPE X hx hZ w eT (g := mkF m pc L (.int n :: S)) rfl (hb hby hd) rfl hn0 (cap := cap) (by rw [clamp_of hn]; exact hk) hbig hc hl had
  obtain ⟨s₂, o, h1, h2⟩ := hr h' _ rfl E ⟨_, A, by simp [newA, clamp_of hn], by rw [List.length_replicate]; have := n.toInt_lt; omega⟩ EX T' _ X' e' N
  exact ⟨s₂, o, st _ h1, h2⟩
theorem Cx.iald (K : Cx l R Z n0 Q own nm bytes maxL ret m G) {a : Addr} {vs : List Value} {j : Int32} {i : Nat} {v : Value} (hd : decode bytes pc = .ok (.iaload, 1)) (hp : pc + 1 = pc') (A : Ary Z h a .int vs) (hj : j.toInt = (i : Nat)) (hv : vs[i]? = some v) (hr : G h kc ks (mkF m pc' L (v :: S))) : G h kc ks (mkF m pc L (.int j :: .ref a :: S)) := by
  subst hp
  obtain ⟨cl, Ar, rfl, hlt⟩ := A
  have hi : i < cl.slots.toList.length := (List.getElem?_eq_some_iff.mp hv).1
  exact K.stepX (h' := h) (fun p e s args below meth c T locs X eT hx hb0 hown hZ => ⟨T, X, eT, fun t hr => X.iaload hx (j := j) (v := v) (by rw [eT]; exact Ar.1) (State.isArrayOf_alike hZ.alike Ar.2.1) Ar.2.2 (in_of hj hi) (at_of hj hv) (g := mkF m pc L (.int j :: .ref a :: S)) rfl rfl (hb hb0 hd) _ hr⟩) hr
theorem Cx.lald (K : Cx l R Z n0 Q own nm bytes maxL ret m G) {a : Addr} {vs : List Value} {j : Int32} {i : Nat} {v : Value} (hd : decode bytes pc = .ok (.laload, 1)) (hp : pc + 1 = pc') (A : Ary Z h a .long vs) (hj : j.toInt = (i : Nat)) (hv : vs[i]? = some v) (hr : G h kc ks (mkF m pc' L (v :: S))) : G h kc ks (mkF m pc L (.int j :: .ref a :: S)) := by
  subst hp
  obtain ⟨cl, Ar, rfl, hlt⟩ := A
  have hi : i < cl.slots.toList.length := (List.getElem?_eq_some_iff.mp hv).1
  exact K.stepX (h' := h) (fun p e s args below meth c T locs X eT hx hb0 hown hZ => ⟨T, X, eT, fun t hr => X.laload hx (j := j) (v := v) (by rw [eT]; exact Ar.1) (State.isArrayOf_alike hZ.alike Ar.2.1) Ar.2.2 (in_of hj hi) (at_of hj hv) (g := mkF m pc L (.int j :: .ref a :: S)) rfl rfl (hb hb0 hd) _ hr⟩) hr
theorem Cx.cald (K : Cx l R Z n0 Q own nm bytes maxL ret m G) {a : Addr} {vs : List Value} {j : Int32} {i : Nat} {v : Value} (hd : decode bytes pc = .ok (.caload, 1)) (hp : pc + 1 = pc') (A : Ary Z h a .char vs) (hj : j.toInt = (i : Nat)) (hv : vs[i]? = some v) (hr : G h kc ks (mkF m pc' L (v :: S))) : G h kc ks (mkF m pc L (.int j :: .ref a :: S)) := by
  subst hp
  obtain ⟨cl, Ar, rfl, hlt⟩ := A
  have hi : i < cl.slots.toList.length := (List.getElem?_eq_some_iff.mp hv).1
  exact K.stepX (h' := h) (fun p e s args below meth c T locs X eT hx hb0 hown hZ => ⟨T, X, eT, fun t hr => X.caload hx (j := j) (v := v) (by rw [eT]; exact Ar.1) (State.isArrayOf_alike hZ.alike Ar.2.1) Ar.2.2 (in_of hj hi) (at_of hj hv) (g := mkF m pc L (.int j :: .ref a :: S)) rfl rfl (hb hb0 hd) _ hr⟩) hr
theorem Cx.bald (K : Cx l R Z n0 Q own nm bytes maxL ret m G) {a : Addr} {vs : List Value} {j : Int32} {i : Nat} {v : Value} (hd : decode bytes pc = .ok (.baload, 1)) (hp : pc + 1 = pc') (A : Ary Z h a .byte vs) (hj : j.toInt = (i : Nat)) (hv : vs[i]? = some v) (hr : G h kc ks (mkF m pc' L (v :: S))) : G h kc ks (mkF m pc L (.int j :: .ref a :: S)) := by
  subst hp
  obtain ⟨cl, Ar, rfl, hlt⟩ := A
  have hi : i < cl.slots.toList.length := (List.getElem?_eq_some_iff.mp hv).1
  exact K.stepX (h' := h) (fun p e s args below meth c T locs X eT hx hb0 hown hZ => ⟨T, X, eT, fun t hr => X.baloadBytes hx (j := j) (v := v) (by rw [eT]; exact Ar.1) (State.isArrayOf_alike hZ.alike Ar.2.1) Ar.2.2 (in_of hj hi) (at_of hj hv) (g := mkF m pc L (.int j :: .ref a :: S)) rfl rfl (hb hb0 hd) _ hr⟩) hr
theorem Cx.alen (K : Cx l R Z n0 Q own nm bytes maxL ret m G) {a : Addr} {vs : List Value} {ty : FieldType} (hd : decode bytes pc = .ok (.arraylength, 1)) (hp : pc + 1 = pc') (A : Ary Z h a ty vs) (hr : ∀ z : Int32, z.toInt = (vs.length : Nat) → G h kc ks (mkF m pc' L (.int z :: S))) : G h kc ks (mkF m pc L (.ref a :: S)) := by
  subst hp
  obtain ⟨cl, Ar, rfl, hlt⟩ := A
  refine K.stepX (h' := h) (f' := mkF m (pc + 1) L (.int cl.slots.size.toInt32 :: S)) (fun p e s args below meth c T locs X eT hx hb0 hown hZ => ⟨T, X, eT, fun t hr => X.arraylength hx (by rw [eT]; exact Ar.1) (State.isArrayOf_alike hZ.alike Ar.2.1) (g := mkF m pc L (.ref a :: S)) rfl rfl (hb hb0 hd) _ hr⟩) (hr _ ?_)
  rw [Array.length_toList] at hlt ⊢
  exact len_int hlt
theorem Cx.iast (K : Cx l R Z n0 Q own nm bytes maxL ret m G) {a : Addr} {vs : List Value} {j : Int32} {x : Int32} {i : Nat} (hd : decode bytes pc = .ok (.iastore, 1)) (hp : pc + 1 = pc') (A : Ary Z h a .int vs) (hj : j.toInt = (i : Nat)) (hi : i < vs.length) (ga : n0 ≤ a) (hr : ∀ h', Wr h h' a i (.int x) → Ary Z h' a .int (vs.set i (.int x)) → G h' kc ks (mkF m pc' L S)) : G h kc ks (mkF m pc L (.int x :: .int j :: .ref a :: S)) := by
  obtain ⟨p, e, s, args, below, meth, c, rfl, hx, hby, hml, hown, hZ, hret, hlk, hnm⟩ := K
  subst hp
  intro T locs X eT N
  have A0 := A
  obtain ⟨cl, Ar, rfl, hlt⟩ := A
  obtain ⟨T', h', X', e', W, st⟩ := RoadKit.stI X hx hZ eT Ar (j := j) (in_of hj hi) (g := mkF m pc L (.int x :: .int j :: .ref a :: S)) rfl rfl (hb hby hd)
  have W' := W
  rw [clamp_of hj] at W'
  obtain ⟨s₂, o, h1, h2⟩ := hr h' W' (A0.same W') T' _ X' e' (Fr.snoc X' N ga)
  exact ⟨s₂, o, st _ h1, h2⟩
theorem Cx.last (K : Cx l R Z n0 Q own nm bytes maxL ret m G) {a : Addr} {vs : List Value} {j : Int32} {x : Int64} {i : Nat} (hd : decode bytes pc = .ok (.lastore, 1)) (hp : pc + 1 = pc') (A : Ary Z h a .long vs) (hj : j.toInt = (i : Nat)) (hi : i < vs.length) (ga : n0 ≤ a) (hr : ∀ h', Wr h h' a i (.long x) → Ary Z h' a .long (vs.set i (.long x)) → G h' kc ks (mkF m pc' L S)) : G h kc ks (mkF m pc L (.long x :: .int j :: .ref a :: S)) := by
  obtain ⟨p, e, s, args, below, meth, c, rfl, hx, hby, hml, hown, hZ, hret, hlk, hnm⟩ := K
  subst hp
  intro T locs X eT N
  have A0 := A
  obtain ⟨cl, Ar, rfl, hlt⟩ := A
  obtain ⟨T', h', X', e', W, st⟩ := RoadKit.stJ X hx hZ eT Ar (j := j) (in_of hj hi) (g := mkF m pc L (.long x :: .int j :: .ref a :: S)) rfl rfl (hb hby hd)
  have W' := W
  rw [clamp_of hj] at W'
  obtain ⟨s₂, o, h1, h2⟩ := hr h' W' (A0.same W') T' _ X' e' (Fr.snoc X' N ga)
  exact ⟨s₂, o, st _ h1, h2⟩
theorem Cx.cast_ (K : Cx l R Z n0 Q own nm bytes maxL ret m G) {a : Addr} {vs : List Value} {j : Int32} {x : Int32} {i : Nat} (hd : decode bytes pc = .ok (.castore, 1)) (hp : pc + 1 = pc') (A : Ary Z h a .char vs) (hj : j.toInt = (i : Nat)) (hi : i < vs.length) (ga : n0 ≤ a) (hr : ∀ h', Wr h h' a i (.int (nar .char x)) → Ary Z h' a .char (vs.set i (.int (nar .char x))) → G h' kc ks (mkF m pc' L S)) : G h kc ks (mkF m pc L (.int x :: .int j :: .ref a :: S)) := by
  obtain ⟨p, e, s, args, below, meth, c, rfl, hx, hby, hml, hown, hZ, hret, hlk, hnm⟩ := K
  subst hp
  intro T locs X eT N
  have A0 := A
  obtain ⟨cl, Ar, rfl, hlt⟩ := A
  obtain ⟨T', h', X', e', W, st⟩ := RoadKit.stC X hx hZ eT Ar (j := j) (in_of hj hi) (g := mkF m pc L (.int x :: .int j :: .ref a :: S)) rfl rfl (hb hby hd)
  have W' := W
  rw [clamp_of hj] at W'
  obtain ⟨s₂, o, h1, h2⟩ := hr h' W' (A0.same W') T' _ X' e' (Fr.snoc X' N ga)
  exact ⟨s₂, o, st _ h1, h2⟩
theorem Cx.bast (K : Cx l R Z n0 Q own nm bytes maxL ret m G) {a : Addr} {vs : List Value} {j : Int32} {x : Int32} {i : Nat} (hd : decode bytes pc = .ok (.bastore, 1)) (hp : pc + 1 = pc') (A : Ary Z h a .byte vs) (hj : j.toInt = (i : Nat)) (hi : i < vs.length) (ga : n0 ≤ a) (hr : ∀ h', Wr h h' a i (.int (nar .byte x)) → Ary Z h' a .byte (vs.set i (.int (nar .byte x))) → G h' kc ks (mkF m pc' L S)) : G h kc ks (mkF m pc L (.int x :: .int j :: .ref a :: S)) := by
  obtain ⟨p, e, s, args, below, meth, c, rfl, hx, hby, hml, hown, hZ, hret, hlk, hnm⟩ := K
  subst hp
  intro T locs X eT N
  have A0 := A
  obtain ⟨cl, Ar, rfl, hlt⟩ := A
  obtain ⟨T', h', X', e', W, st⟩ := RoadKit.stB X hx hZ eT Ar (j := j) (in_of hj hi) (g := mkF m pc L (.int x :: .int j :: .ref a :: S)) rfl rfl (hb hby hd)
  have W' := W
  rw [clamp_of hj] at W'
  obtain ⟨s₂, o, h1, h2⟩ := hr h' W' (A0.same W') T' _ X' e' (Fr.snoc X' N ga)
  exact ⟨s₂, o, st _ h1, h2⟩
theorem Cx.init0 (K : Cx l R Z n0 Q own nm bytes maxL ret m G) {idx W : Nat} {a : Addr} (hd : decode bytes pc = .ok (.invokespecial idx, 3)) (hp : pc + 3 = pc') (w1 : (Cond.methodLink own idx Lib.objectInit).before a0 Z = true) (w2 : (Cond.instanceMethod Lib.objectInit).before a0 Z = true) (w3 : (Cond.code Lib.objectInit ⟨#[0xb1]⟩ 1 none).before a0 Z = true) (hL : L.size = maxL) (hf : 1 ≤ R.frames) (hW : (S.map fun v => v.category).sum ≤ W) (hl : W + 12 ≤ R.locals)
    (hr : G h kc ks (mkF m pc' L S)) : G h kc ks (mkF m pc L (.ref a :: S)) := by
  obtain ⟨p, e, s, args, below, meth, c, rfl, hx, hby, hml, hown, hZ, hret, hlk, hnm⟩ := K
  subst hp
  intro T locs X eT N
  obtain ⟨T', X', e', st⟩ := RoadKit.initO X hx hZ hown w1 w2 w3 eT (g := mkF m pc L (.ref a :: S)) rfl (by rw [hml]; exact hL) rfl (hb hby hd) hf (W := W) (by show 2 * 0 + _ ≤ _; omega) hl
  obtain ⟨s₂, o, h1, h2⟩ := hr T' _ X' e' N
  exact ⟨s₂, o, st _ h1, h2⟩
theorem Cx.calls (K : Cx l R Z n0 Q own nm bytes maxL ret m G) {y : MethodName} {b' : ByteArray} {ml' : Nat} {rt' r : Option FieldType} {rm : Room} {Qc : Option Value → Heap → Prop} {index : Nat} {argsL rest : List Value} {W : Nat} {ps : List FieldType} (hd : decode bytes pc = .ok (.invokestatic index, 3)) (hp : pc + 3 = pc') (M : MeetsW l Z n0 y b' ml' rt' rm argsL.toArray h Qc) (w1 : (Cond.methodLink own index y).before a0 Z = true) (w2 : (Cond.static y).before a0 Z = true) (w3 : (Cond.initialized y.cls).before a0 Z = true) (w4 : (Cond.code y b' ml' rt').before a0 Z = true) (hy : y.cls ≠ "java/lang/invoke/MethodHandle" ∧ y.cls ≠ "java/lang/invoke/VarHandle") (hpd : parseMethodDescriptor y.desc = some ⟨ps, r⟩) (hlen : argsL.length = ps.length) (hL : L.size = maxL) (hW : (rest.map fun v => v.category).sum ≤ W) (hf : rm.frames + 1 ≤ R.frames) (hl : W + (ml' + 11) + rm.locals ≤ R.locals) (hc : kc + rm.cells ≤ R.cells) (hsl : ks + rm.slots ≤ R.slots) (hr : ∀ v h', Qc v h' → G h' (kc + rm.cells) (ks + rm.slots) (mkF m pc' L (v.toList ++ rest))) : G h kc ks (mkF m pc L (argsL.reverse ++ rest)) := by
  obtain ⟨p, e, s, args, below, meth, c, rfl, hx, hby, hml, hown, hZ, hret, hlk, hnm⟩ := K
  subst hp
  intro T locs X eT N
  obtain ⟨v, _, ⟨T', Lo, ko, no⟩, -, X', ⟨Lc, hQ, l', y', z'⟩, st⟩ := Jvm.LawKit.callS X hx (y := y) hown (mvT hZ w1) (mvT hZ w2) (mvT hZ w3) (mvT hZ w4) hy (backOf (Q := fun v h L => Qc v h ∧ Fr n0 L) (W := W) (M []) hZ w4 w3 hf hl) (g := mkF m pc L (argsL.reverse ++ rest)) rfl (by rw [hml]; exact hL) (argsL := argsL) (rest := rest) (lenOf hpd hlen) rfl (by show 2 * 0 + _ ≤ _; omega) (hb hby hd) (fun _ _ => ⟨rfl, eT, hc, hsl⟩)
  dsimp only [Pt.U, Pt.locs, Pt.cells, Pt.slots] at X' l' y' z' st hQ
  subst l' y' z'
  obtain ⟨s₂, o, h1, h2⟩ := hr v T'.heap hQ.1 T' _ X' rfl (Fr.app N hQ.2)
  exact ⟨s₂, o, st _ h1, h2⟩
theorem Cx.callc (K : Cx l R Z n0 Q own nm bytes maxL ret m G) {y : MethodName} {b' : ByteArray} {ml' : Nat} {r : Option FieldType} {rm : Room} {Qc : Option Value → Heap → Prop} {index : Nat} {argsL rest : List Value} {W : Nat} {ps : List FieldType} {a : Addr} (hd : decode bytes pc = .ok (.invokespecial index, 3)) (hp : pc + 3 = pc') (hi : y.name = "<init>") (M : MeetsW l Z n0 y b' ml' none rm (Value.ref a :: argsL).toArray h Qc) (w1 : (Cond.methodLink own index y).before a0 Z = true) (w2 : (Cond.instanceMethod y).before a0 Z = true) (w3 : (Cond.initialized y.cls).before a0 Z = true) (w4 : (Cond.code y b' ml' none).before a0 Z = true) (hy : y.cls ≠ "java/lang/invoke/MethodHandle" ∧ y.cls ≠ "java/lang/invoke/VarHandle") (hpd : parseMethodDescriptor y.desc = some ⟨ps, r⟩) (hlen : argsL.length = ps.length) (hL : L.size = maxL) (hW : (rest.map fun v => v.category).sum ≤ W) (hf : rm.frames + 1 ≤ R.frames) (hl : W + (ml' + 11) + rm.locals ≤ R.locals) (hc : kc + rm.cells ≤ R.cells) (hsl : ks + rm.slots ≤ R.slots) (hr : ∀ v h', Qc v h' → G h' (kc + rm.cells) (ks + rm.slots) (mkF m pc' L (v.toList ++ rest))) : G h kc ks (mkF m pc L (argsL.reverse ++ .ref a :: rest)) := by
  obtain ⟨p, e, s, args, below, meth, c, rfl, hx, hby, hml, hown, hZ, hret, hlk, hnm⟩ := K
  subst hp
  intro T locs X eT N
  obtain ⟨v, _, ⟨T', Lo, ko, no⟩, -, X', ⟨Lc, hQ, l', y', z'⟩, st⟩ := X.specialBack hx (y := y) hi hown (mvT hZ w1) (mvT hZ w2) (mvT hZ w4) hy (backOf (Q := fun v h L => Qc v h ∧ Fr n0 L) (W := W) (M []) hZ w4 w3 hf hl) (g := mkF m pc L (argsL.reverse ++ .ref a :: rest)) rfl (by rw [hml]; exact hL) (Steps.refl _) (a := a) (argsL := argsL) (rest := rest) (lenOf hpd hlen) rfl (by show 2 * 0 + _ ≤ _; omega) (hb hby hd) (fun _ _ => ⟨rfl, eT, hc, hsl⟩)
  dsimp only [Pt.U, Pt.locs, Pt.cells, Pt.slots] at X' l' y' z' st hQ
  subst l' y' z'
  obtain ⟨s₂, o, h1, h2⟩ := hr v T'.heap hQ.1 T' _ X' rfl (Fr.app N hQ.2)
  exact ⟨s₂, o, st.trans h1, h2⟩
theorem Cx.callv (K : Cx l R Z n0 Q own nm bytes maxL ret m G) {y z : MethodName} {b' : ByteArray} {ml' : Nat} {rt' r : Option FieldType} {rm : Room} {Qc : Option Value → Heap → Prop} {index : Nat} {argsL rest : List Value} {W : Nat} {ps : List FieldType} {C : String} {a : Addr} (hd : decode bytes pc = .ok (.invokevirtual index, 3)) (hp : pc + 3 = pc') (M : MeetsW l Z n0 z b' ml' rt' rm (Value.ref a :: argsL).toArray h Qc) (E : Exa Z h a C) (w1 : (Cond.methodLink own index y).before a0 Z = true) (w5 : (Cond.declares y).before a0 Z = true) (nf : ∀ s : State, Z.Warmed39 s.vm → NotFace s y) (w6 : (Cond.selects C y z).before a0 Z = true) (w2 : (Cond.instanceMethod z).before a0 Z = true) (w3 : (Cond.initialized z.cls).before a0 Z = true) (w4 : (Cond.code z b' ml' rt').before a0 Z = true) (hy : y.cls ≠ "java/lang/invoke/MethodHandle" ∧ y.cls ≠ "java/lang/invoke/VarHandle") (hpd : parseMethodDescriptor y.desc = some ⟨ps, r⟩) (hlen : argsL.length = ps.length) (hL : L.size = maxL) (hW : (rest.map fun v => v.category).sum ≤ W) (hf : rm.frames + 1 ≤ R.frames) (hl : W + (ml' + 11) + rm.locals ≤ R.locals) (hc : kc + rm.cells ≤ R.cells) (hsl : ks + rm.slots ≤ R.slots) (hr : ∀ v h', Qc v h' → G h' (kc + rm.cells) (ks + rm.slots) (mkF m pc' L (v.toList ++ rest))) : G h kc ks (mkF m pc L (argsL.reverse ++ .ref a :: rest)) := by
  obtain ⟨p, e, s, args, below, meth, c, rfl, hx, hby, hml, hown, hZ, hret, hlk, hnm⟩ := K
  subst hp
  intro T locs X eT N
  obtain ⟨cq, kq, qa, qb, qc⟩ := isOf hZ eT E
  obtain ⟨v, _, ⟨T', Lo, ko, no⟩, -, X', ⟨Lc, hQ, l', y', z'⟩, st⟩ := X.virtualBack hx (y := y) (z := z) hown (mvT hZ w1) (mvT hZ w5) (nf s hZ) (mvT hZ w6) (mvT hZ w2) hy (backOf (Q := fun v h L => Qc v h ∧ Fr n0 L) (W := W) (M []) hZ w4 w3 hf hl) qa qc (g := mkF m pc L (argsL.reverse ++ .ref a :: rest)) rfl (by rw [hml]; exact hL) (Steps.refl _) (argsL := argsL) (rest := rest) (lenOf hpd hlen) rfl (by show 2 * 0 + _ ≤ _; omega) (hb hby hd) (fun _ _ => ⟨rfl, eT, hc, hsl⟩)
  dsimp only [Pt.U, Pt.locs, Pt.cells, Pt.slots] at X' l' y' z' st hQ
  subst l' y' z'
  obtain ⟨s₂, o, h1, h2⟩ := hr v T'.heap hQ.1 T' _ X' rfl (Fr.app N hQ.2)
  exact ⟨s₂, o, st.trans h1, h2⟩
theorem nf_sel {y z : MethodName} {C : String} (w : (Cond.selects C y z).before a0 Z = true) (hyz : y = z) : ∀ s : State, Z.Warmed39 s.vm → NotFace s y := fun s hZ => by subst hyz; exact notFace_of_selects (args := #[]) (mvT hZ w)
theorem Cx.callp (K : Cx l R Z n0 Q own nm bytes maxL ret m G) {y : MethodName} {b' : ByteArray} {ml' : Nat} {rt' r : Option FieldType} {rm : Room} {Qc : Option Value → Heap → Prop} {index : Nat} {argsL rest : List Value} {W : Nat} {ps : List FieldType} {C : String} {a : Addr} (hd : decode bytes pc = .ok (.invokevirtual index, 3)) (hp : pc + 3 = pc') (M : MeetsW l Z n0 y b' ml' rt' rm (Value.ref a :: argsL).toArray h Qc) (E : Exa Z h a C) (w1 : (Cond.methodLink own index y).before a0 Z = true) (w2 : (Cond.instanceMethod y).before a0 Z = true) {kk : Nat} (wi : (Cond.instantiable y.cls kk).before a0 Z = true) (w7 : (Cond.privateMethod y).before a0 Z = true) (w3 : (Cond.initialized y.cls).before a0 Z = true) (w4 : (Cond.code y b' ml' rt').before a0 Z = true) (hy : y.cls ≠ "java/lang/invoke/MethodHandle" ∧ y.cls ≠ "java/lang/invoke/VarHandle") (hpd : parseMethodDescriptor y.desc = some ⟨ps, r⟩) (hlen : argsL.length = ps.length) (hL : L.size = maxL) (hW : (rest.map fun v => v.category).sum ≤ W) (hf : rm.frames + 1 ≤ R.frames) (hl : W + (ml' + 11) + rm.locals ≤ R.locals) (hc : kc + rm.cells ≤ R.cells) (hsl : ks + rm.slots ≤ R.slots) (hr : ∀ v h', Qc v h' → G h' (kc + rm.cells) (ks + rm.slots) (mkF m pc' L (v.toList ++ rest))) : G h kc ks (mkF m pc L (argsL.reverse ++ .ref a :: rest)) := by
  obtain ⟨p, e, s, args, below, meth, c, rfl, hx, hby, hml, hown, hZ, hret, hlk, hnm⟩ := K
  subst hp
  intro T locs X eT N
  obtain ⟨cq, q1, q2⟩ := E.cell
  have hpriv : s.PrivateAt y := Cond.privateMethod_at (mvP hZ w7 (args := #[]))
  obtain ⟨c0, k0, i1, i2, i3, i4, -⟩ := Cond.instantiable_spec (show (Cond.instantiable y.cls kk).before args s = true from mvT hZ wi)
  have w6 : (Cond.selects y.cls y y).before args s = true := selects_self_of_private i1 i2 (by simp only [Bool.or_eq_false_iff] at i4; exact i4.1) hpriv (mvT hZ w2) hy
  obtain ⟨v, _, ⟨T', Lo, ko, no⟩, -, X', ⟨Lc, hQ, l', y', z'⟩, st⟩ := X.privateBack hx (y := y) hown (mvT hZ w1) (mvT hZ w2) w6 hpriv (mvT hZ w4) hy (backOf (Q := fun v h L => Qc v h ∧ Fr n0 L) (W := W) (M []) hZ w4 w3 hf hl) (g := mkF m pc L (argsL.reverse ++ .ref a :: rest)) rfl (by rw [hml]; exact hL) (Steps.refl _) (a := a) (by rw [eT]; exact q1) q2 (argsL := argsL) (rest := rest) (lenOf hpd hlen) rfl (by show 2 * 0 + _ ≤ _; omega) (hb hby hd) (fun _ _ => ⟨rfl, eT, hc, hsl⟩)
  dsimp only [Pt.U, Pt.locs, Pt.cells, Pt.slots] at X' l' y' z' st hQ
  subst l' y' z'
  obtain ⟨s₂, o, h1, h2⟩ := hr v T'.heap hQ.1 T' _ X' rfl (Fr.app N hQ.2)
  exact ⟨s₂, o, st.trans h1, h2⟩
theorem Cx.acopy (K : Cx l R Z n0 Q own nm bytes maxL ret m G) {index W i j k : Nat} {a b : Addr} {ty : FieldType} {vs vd : List Value} {sp dp nn : Int32} (dv : Value) (hd : decode bytes pc = .ok (.invokestatic index, 3)) (hp : pc + 3 = pc') (w1 : (Cond.methodLink own index Jvm.Stand.acN).before a0 Z = true) (w2 : (Cond.native Jvm.Stand.acN).before a0 Z = true) (w3 : (Cond.static Jvm.Stand.acN).before a0 Z = true) (w4 : (Cond.initialized "java/lang/System").before a0 Z = true)
    (A : Ary Z h a ty vs) (B : Ary Z h b ty vd) (hpr : refKind ty = false) (hfa : ∀ v ∈ vs, fits ty v = true) (hfb : ∀ v ∈ vd, fits ty v = true) (hdv : fits ty dv = true) (hi : sp.toInt = (i : Nat)) (hj : dp.toInt = (j : Nat)) (hk : nn.toInt = (k : Nat)) (h4 : i + k ≤ vs.length) (h5 : j + k ≤ vd.length) (gb : n0 ≤ b)
    (hL : L.size = maxL) (hf : 1 ≤ R.frames) (hW : (S.map fun v => v.category).sum ≤ W) (hlo : W + (nativeFrameWords "java/lang/System" "arraycopy" 5 + 11) ≤ R.locals)
    (hr : ∀ h', Keep h h' [b] → Ary Z h' b ty (vd.take j ++ ((List.range k).map fun t => vs.getD (i + t) dv) ++ vd.drop (j + k)) → G h' kc ks (mkF m pc' L S)) : G h kc ks (mkF m pc L (.int nn :: .int dp :: .ref b :: .int sp :: .ref a :: S)) := by
  obtain ⟨p, e, s, args, below, meth, c, rfl, hx, hby, hml, hown, hZ, hret, hlk, hnm⟩ := K
  subst hp
  intro T locs X eT N
  obtain ⟨ka, za, ea, VA⟩ := A.toArv hfa hdv
  obtain ⟨kb, zb, eb, VB⟩ := B.toArv hfb hdv
  have neg : ∀ {x : Int32} {n : Nat}, x.toInt = (n : Nat) → ¬ x < 0 := fun {x n} q => by rw [Int32.lt_iff_toInt_lt, q, show (0 : Int32).toInt = 0 from rfl]; omega
  obtain ⟨T', h', Lc, X', e', N', Kp, V, st⟩ := RoadKit.cpA X hx hZ hown w1 w2 w3 w4 eT VA VB (Or.inl ⟨rfl, hpr⟩) (neg hi) (neg hj) (neg hk) (by rw [clamp_of hi, clamp_of hk, clamp_of ea]; exact h4) (by rw [clamp_of hj, clamp_of hk, clamp_of eb]; exact h5) rfl (by rw [clamp_of hj, clamp_of hk]; exact h5) N gb (g := mkF m pc L (.int nn :: .int dp :: .ref b :: .int sp :: .ref a :: S)) rfl (by rw [hml]; exact hL) rfl (hb hby hd) hf (W := W) (by show 2 * 0 + _ ≤ _; omega) hlo
  rw [clamp_of hi, clamp_of hj, clamp_of hk] at V
  obtain ⟨s₂, o, h1, h2⟩ := hr h' Kp (Arv.toAry V (by rw [eb]; simp; omega)) T' _ X' e' N'
  exact ⟨s₂, o, st _ h1, h2⟩
theorem Cx.clone (K : Cx l R Z n0 Q own nm bytes maxL ret m G) {index W cap : Nat} {a : Addr} {ad : String} {ty : FieldType} {vs : List Value} (dv : Value) (hd : decode bytes pc = .ok (.invokevirtual index, 3)) (hp : pc + 3 = pc')
    (w1 : (Cond.methodLink own index ⟨ad, "clone", "()Ljava/lang/Object;"⟩).before a0 Z = true) (w2 : (Cond.sameMethod ad "java/lang/Object" "clone" "()Ljava/lang/Object;").before a0 Z = true) (w3 : (Cond.native ⟨"java/lang/Object", "clone", "()Ljava/lang/Object;"⟩).before a0 Z = true)
    (w4 : (Cond.instanceMethod ⟨"java/lang/Object", "clone", "()Ljava/lang/Object;"⟩).before a0 Z = true) (w5 : (Cond.selects ad ⟨ad, "clone", "()Ljava/lang/Object;"⟩ ⟨"java/lang/Object", "clone", "()Ljava/lang/Object;"⟩).before a0 Z = true) (w6 : (Cond.castable ad "java/lang/Cloneable").before a0 Z = true)
    (A : Ary Z h a ty vs) (E : Exa Z h a ad) (hfv : ∀ v ∈ vs, fits ty v = true) (hdv : fits ty dv = true) (hL : L.size = maxL) (hf : 1 ≤ R.frames) (hW : (S.map fun v => v.category).sum ≤ W) (hl : W + 14 ≤ R.locals) (hcap : vs.length ≤ cap) (hc : kc + 1 ≤ R.cells) (hsl : ks + cap ≤ R.slots)
    (hr : ∀ h' b, b = h.size → Ext h h' → Ary Z h' b ty vs → Exa Z h' b ad → G h' (kc + 1) (ks + cap) (mkF m pc' L (.ref b :: S))) : G h kc ks (mkF m pc L (.ref a :: S)) := by
  obtain ⟨p, e, s, args, below, meth, c, rfl, hx, hby, hml, hown, hZ, hret, hlk, hnm⟩ := K
  subst hp
  intro T locs X eT N
  obtain ⟨ka, za, ea, VA⟩ := A.toArv hfv hdv
  obtain ⟨T', h', X', e', Ex', V, EX, st⟩ := RoadKit.cloneH X hx hZ hown w1 w2 w3 w4 w5 w6 eT VA.arh E (g := mkF m pc L (.ref a :: S)) rfl (by rw [hml]; exact hL) rfl (hb hby hd) hf (W := W) (cap := cap) (by show 2 * 0 + _ ≤ _; omega) hl (by rw [clamp_of ea]; exact hcap) hc hsl
  obtain ⟨s₂, o, h1, h2⟩ := hr h' _ rfl Ex' (Arv.toAry (show Arv Z h' h.size ka ty za vs dv from V) ea) EX T' _ X' e' N
  exact ⟨s₂, o, st _ h1, h2⟩
theorem Cx.ccast (K : Cx l R Z n0 Q own nm bytes maxL ret m G) {index : Nat} {Kc : String} {a : Addr} (hd : decode bytes pc = .ok (.checkcast index, 3)) (hp : pc + 3 = pc') (w : (Cond.classLink own index Kc).before a0 Z = true) (F : Ins Z h a Kc true) (hr : G h kc ks (mkF m pc' L (.ref a :: S))) : G h kc ks (mkF m pc L (.ref a :: S)) := by
  subst hp
  exact K.stepX (h' := h) (fun p e s args below meth c T locs X eT hx hb0 hown hZ => RoadKit.castY X hx hZ hown w eT F (g := mkF m pc L (.ref a :: S)) rfl rfl (hb hb0 hd)) hr
theorem Cx.reti (K : Cx l R Z n0 Q own nm bytes maxL (some .int) m G) {z : Int32} (hd : decode bytes pc = .ok (.ireturn, 1)) (hc : kc ≤ R.cells) (hs : ks ≤ R.slots) (hQ : Q (some (.int z)) h) : G h kc ks (mkF m pc L (.int z :: S)) := by
  obtain ⟨p, e, s, args, below, meth, c, rfl, hx, hby, hml, hown, hZ, hret, hlk, hnm⟩ := K
  intro T locs X eT N
  obtain ⟨fs, hr, hrun, hended, hW, hsame⟩ := X.leave (v := some (.int z)) (fun h => by rw [hret] at h; cases h) hlk
  refine ⟨_, _, ?_, hrun, hended, _, _, rfl, ⟨?_, N⟩, ⟨_, rfl⟩, hW, hsame.mono hc hs⟩
  · exact retOut X hx hret rfl (Or.inl ⟨rfl, Or.inl rfl, _, rfl⟩) (hb hby hd) hr
  · show Q _ T.heap
    rw [eT]; exact hQ
theorem Cx.retz (K : Cx l R Z n0 Q own nm bytes maxL (some .boolean) m G) {z : Int32} (hd : decode bytes pc = .ok (.ireturn, 1)) (hz : z = 0 ∨ z = 1) (hc : kc ≤ R.cells) (hs : ks ≤ R.slots) (hQ : Q (some (.int z)) h) : G h kc ks (mkF m pc L (.int z :: S)) := by
  obtain ⟨p, e, s, args, below, meth, c, rfl, hx, hby, hml, hown, hZ, hret, hlk, hnm⟩ := K
  intro T locs X eT N
  obtain ⟨fs, hr, hrun, hended, hW, hsame⟩ := X.leave (v := some (.int z)) (fun h => by rw [hret] at h; cases h) hlk
  refine ⟨_, _, ?_, hrun, hended, _, _, rfl, ⟨?_, N⟩, ⟨_, rfl⟩, hW, hsame.mono hc hs⟩
  · exact retOut X hx hret (by rcases hz with rfl | rfl <;> rfl) (Or.inl ⟨rfl, Or.inr (Or.inl rfl), _, rfl⟩) (hb hby hd) hr
  · show Q _ T.heap
    rw [eT]; exact hQ
theorem Cx.retl (K : Cx l R Z n0 Q own nm bytes maxL (some .long) m G) {z : Int64} (hd : decode bytes pc = .ok (.lreturn, 1)) (hc : kc ≤ R.cells) (hs : ks ≤ R.slots) (hQ : Q (some (.long z)) h) : G h kc ks (mkF m pc L (.long z :: S)) := by
  obtain ⟨p, e, s, args, below, meth, c, rfl, hx, hby, hml, hown, hZ, hret, hlk, hnm⟩ := K
  intro T locs X eT N
  obtain ⟨fs, hr, hrun, hended, hW, hsame⟩ := X.leave (v := some (.long z)) (fun h => by rw [hret] at h; cases h) hlk
  refine ⟨_, _, ?_, hrun, hended, _, _, rfl, ⟨?_, N⟩, ⟨_, rfl⟩, hW, hsame.mono hc hs⟩
  · exact retOut X hx hret rfl (Or.inr (Or.inl ⟨rfl, rfl, _, rfl⟩)) (hb hby hd) hr
  · show Q _ T.heap
    rw [eT]; exact hQ
theorem Cx.reta {t : FieldType} (K : Cx l R Z n0 Q own nm bytes maxL (some t) m G) {v : Value} (hd : decode bytes pc = .ok (.areturn, 1)) (ht : t.isReference = true) (hn : narrow t v = v) (hv : v.isRef = true) (hc : kc ≤ R.cells) (hs : ks ≤ R.slots) (hQ : Q (some v) h) : G h kc ks (mkF m pc L (v :: S)) := by
  obtain ⟨p, e, s, args, below, meth, c, rfl, hx, hby, hml, hown, hZ, hret, hlk, hnm⟩ := K
  intro T locs X eT N
  obtain ⟨fs, hr, hrun, hended, hW, hsame⟩ := X.leave (v := some v) (fun h => by rw [hret] at h; cases h) hlk
  refine ⟨_, _, ?_, hrun, hended, _, _, rfl, ⟨?_, N⟩, ⟨_, rfl⟩, hW, hsame.mono hc hs⟩
  · exact retOut X hx hret hn (Or.inr (Or.inr (Or.inr (Or.inr ⟨rfl, ht, hv⟩)))) (hb hby hd) hr
  · show Q _ T.heap
    rw [eT]; exact hQ
theorem Cx.retd (K : Cx l R Z n0 Q own nm bytes maxL (some .double) m G) {z : UInt64} (hd : decode bytes pc = .ok (.dreturn, 1)) (hc : kc ≤ R.cells) (hs : ks ≤ R.slots) (hQ : Q (some (.double z)) h) : G h kc ks (mkF m pc L (.double z :: S)) := by
  obtain ⟨p, e, s, args, below, meth, c, rfl, hx, hby, hml, hown, hZ, hret, hlk, hnm⟩ := K
  intro T locs X eT N
  obtain ⟨fs, hr, hrun, hended, hW, hsame⟩ := X.leave (v := some (.double z)) (fun h => by rw [hret] at h; cases h) hlk
  refine ⟨_, _, ?_, hrun, hended, _, _, rfl, ⟨?_, N⟩, ⟨_, rfl⟩, hW, hsame.mono hc hs⟩
  · exact retOut X hx hret rfl (Or.inr (Or.inr (Or.inl ⟨rfl, rfl, _, rfl⟩))) (hb hby hd) hr
  · show Q _ T.heap
    rw [eT]; exact hQ
theorem Cx.ret0 (K : Cx l R Z n0 Q own nm bytes maxL none m G) (hd : decode bytes pc = .ok (.return_, 1)) (hc : kc ≤ R.cells) (hs : ks ≤ R.slots) (hQ : Q none h) : G h kc ks (mkF m pc L []) := by
  obtain ⟨p, e, s, args, below, meth, c, rfl, hx, hby, hml, hown, hZ, hret, hlk, hnm⟩ := K
  intro T locs X eT N
  obtain ⟨fs, hr, hrun, hended, hW, hsame⟩ := X.leave (v := none) (fun h => rfl) hlk
  refine ⟨_, _, ?_, hrun, hended, _, _, rfl, ⟨?_, N⟩, ⟨_, rfl⟩, hW, hsame.mono hc hs⟩
  · exact X.returnOut hx hret (hb hby hd) hr
  · show Q _ T.heap
    rw [eT]; exact hQ
end Steps
end Jvm.Wk
namespace Jvm.Pilot.@@N@@
open Jvm Jvm.ClassFile Sem Op Lib Jvm.Free Jvm.Stand Jvm.LawKit Jvm.RoadKit Jvm.Wk Bundle Jvm.Pilot.@@N@@.Jvm.D
theorem d1_0 : decode method_2_code 0 = .ok (.lload_n 0, 1) := by decide +kernel
theorem d1_1 : decode method_2_code 1 = .ok (.ldc2_w 9, 3) := by decide +kernel
theorem d1_4 : decode method_2_code 4 = .ok (.land, 1) := by decide +kernel
theorem d1_5 : decode method_2_code 5 = .ok (.lstore_n 2, 1) := by decide +kernel
theorem d1_6 : decode method_2_code 6 = .ok (.lload_n 2, 1) := by decide +kernel
theorem d1_7 : decode method_2_code 7 = .ok (.lconst 0, 1) := by decide +kernel
theorem d1_8 : decode method_2_code 8 = .ok (.lcmp, 1) := by decide +kernel
theorem d1_9 : decode method_2_code 9 = .ok (.ifCond .ne 7, 3) := by decide +kernel
theorem d1_16 : decode method_2_code 16 = .ok (.lload_n 2, 1) := by decide +kernel
theorem d1_17 : decode method_2_code 17 = .ok (.lreturn, 1) := by decide +kernel
theorem d1_12 : decode method_2_code 12 = .ok (.lconst 1, 1) := by decide +kernel
theorem d1_13 : decode method_2_code 13 = .ok (.goto 4, 3) := by decide +kernel
theorem pn_com_example_odograph_odograph_model_InstanceEqualWeightsPinLaw : plainName "com/example/odograph/odograph/model/InstanceEqualWeightsPinLaw" = true := by first | (simp [plainName, overriddenIn]; done) | decide +kernel
set_option maxRecDepth 65536 in
set_option maxHeartbeats 40000000 in
theorem c_pos (l : Launch) (Z : State) (a0 : Array Value) (hw : ∀ d ∈ tables_1, d.before a0 Z = true) (n0 : Nat) (h : Heap) (q : Int64)  : MeetsW l Z n0 (⟨"com/example/odograph/odograph/model/InstanceEqualWeightsPinLaw", "pos", "(J)J"⟩ : MethodName) method_2_code 4 (some .long) ({ frames := 0, cells := 0, slots := 0, locals := 0 } : Room) #[(.long q)] h (fun v h' => ∃ (z : Int64), v = some (.long z) ∧ (0 < z.toInt) ∧ h = h') := by
  refine MeetsW.intro (plainFor_of_name pn_com_example_odograph_odograph_model_InstanceEqualWeightsPinLaw) (L0 := #[.val (.long q), .second, .unset, .unset]) (fun m => by first | (simp [entryFrame, mkF, argsToLocals, Value.category]; done) | rfl) ?_
  intro m G K0
  have K : Cx l ({ frames := 0, cells := 0, slots := 0, locals := 0 } : Room) Z n0 _ "com/example/odograph/odograph/model/InstanceEqualWeightsPinLaw" "pos" method_2_code 4 (some .long) m G := K0
  refine K.lloadN d1_0 (pc' := 1) rfl rfl ?_
  refine K.ldc2J d1_1 (pc' := 4) rfl (hw _ (List.mem_of_getElem? (i := 4) rfl)) ?_
  obtain ⟨z4, e_z4⟩ : ∃ z, q &&& (9223372036854775807 : Int64) = z := ⟨_, rfl⟩
  have r_z4 : z4.toInt = q.toInt % 9223372036854775808 := by have q := c_maskL q (9223372036854775807 : Int64) 63 (by decide) (by decide); rw [e_z4] at q; exact q
  refine K.land d1_4 (pc' := 5) rfl e_z4 ?_
  refine K.lstoreN d1_5 (pc' := 6) rfl (L' := #[.val (.long q), .second, .val (.long z4), .second]) rfl ?_
  refine K.lloadN d1_6 (pc' := 7) rfl rfl ?_
  refine K.lconst d1_7 (pc' := 8) rfl (z := 0) rfl ?_
  refine K.lcmp_ne d1_8 d1_9 (pc1 := 12) rfl (by decide) (pc2 := 16) (by decide) (a := z4.toInt) (b := 0) rfl rfl (fun c8 => ?_) (fun c8 => ?_)
  · refine K.lloadN d1_16 (pc' := 17) rfl rfl ?_
    exact K.retl d1_17 (by decide) (by decide) ⟨z4, rfl, by (have e1 : (1 : Int64).toInt = 1 := rfl); (try rw [e1]); omega, rfl⟩
  · refine K.lconst d1_12 (pc' := 13) rfl (z := 1) rfl ?_
    refine K.goto d1_13 (by decide) (pc' := 17) (by decide) ?_
    exact K.retl d1_17 (by decide) (by decide) ⟨(1 : Int64), rfl, by have ev : (1 : Int64).toInt = 1 := rfl; first | omega | ((have e1 : (1 : Int64).toInt = 1 := rfl); (try rw [e1]); omega), rfl⟩
theorem d4_0 : decode prog_14_method_1_code 0 = .ok (.aload_n 0, 1) := by decide +kernel
theorem d4_1 : decode prog_14_method_1_code 1 = .ok (.invokespecial 3, 3) := by decide +kernel
theorem d4_4 : decode prog_14_method_1_code 4 = .ok (.aload_n 0, 1) := by decide +kernel
theorem d4_5 : decode prog_14_method_1_code 5 = .ok (.aload_n 1, 1) := by decide +kernel
theorem d4_6 : decode prog_14_method_1_code 6 = .ok (.putfield 9, 3) := by decide +kernel
theorem d4_9 : decode prog_14_method_1_code 9 = .ok (.aload_n 0, 1) := by decide +kernel
theorem d4_10 : decode prog_14_method_1_code 10 = .ok (.aload_n 2, 1) := by decide +kernel
theorem d4_11 : decode prog_14_method_1_code 11 = .ok (.putfield 15, 3) := by decide +kernel
theorem d4_14 : decode prog_14_method_1_code 14 = .ok (.return_, 1) := by decide +kernel
theorem pn_com_example_odograph_odograph_model_Requests : plainName "com/example/odograph/odograph/model/Requests" = true := by first | (simp [plainName, overriddenIn]; done) | decide +kernel
set_option maxRecDepth 65536 in
set_option maxHeartbeats 40000000 in
theorem c_rq (l : Launch) (Z : State) (a0 : Array Value) (hw : ∀ d ∈ tables_1, d.before a0 Z = true) (n0 : Nat) (h : Heap) (a : Addr) (b : Addr) (c : Addr) (P1 : Exa Z h a "com/example/odograph/odograph/model/Requests") (P2 : Fld Z h a "com/example/odograph/odograph/model/Requests" "points" "[J" .null) (P3 : Fld Z h a "com/example/odograph/odograph/model/Requests" "bounds" "[I" .null) (P4 : n0 ≤ a) : MeetsW l Z n0 (⟨"com/example/odograph/odograph/model/Requests", "<init>", "([J[I)V"⟩ : MethodName) prog_14_method_1_code 3 none ({ frames := 1, cells := 0, slots := 0, locals := 12 } : Room) #[(.ref a), (.ref b), (.ref c)] h (fun v h' => v = none ∧ Keep h h' [a]) := by
  refine MeetsW.intro (plainFor_of_name pn_com_example_odograph_odograph_model_Requests) (L0 := #[.val (.ref a), .val (.ref b), .val (.ref c)]) (fun m => by first | (simp [entryFrame, mkF, argsToLocals, Value.category]; done) | rfl) ?_
  intro m G K0
  have K : Cx l ({ frames := 1, cells := 0, slots := 0, locals := 12 } : Room) Z n0 _ "com/example/odograph/odograph/model/Requests" "<init>" prog_14_method_1_code 3 none m G := K0
  refine K.aloadN d4_0 (pc' := 1) rfl rfl rfl ?_
  refine K.init0 d4_1 (pc' := 4) rfl (hw _ (List.mem_of_getElem? (i := 31) rfl)) (hw _ (List.mem_of_getElem? (i := 32) rfl)) (hw _ (List.mem_of_getElem? (i := 33) rfl)) rfl (by decide) (W := 0) (by simp [Value.category]) (by decide) ?_
  refine K.aloadN d4_4 (pc' := 5) rfl rfl rfl ?_
  refine K.aloadN d4_5 (pc' := 6) rfl rfl rfl ?_
  refine K.putf d4_6 (pc' := 9) rfl (host := "") (Or.inl (hw _ (List.mem_of_getElem? (i := 34) rfl))) Via.refl P2 P1 (Or.inr ⟨(hw _ (List.mem_of_getElem? (i := 35) rfl)), rfl, rfl⟩) (hw _ (List.mem_of_getElem? (i := 18) rfl)) (ty := (.array .long)) (by decide) rfl rfl P4 (fun h_1 W_2 => ?_)
  have f_3 : Exa Z h_1 a "com/example/odograph/odograph/model/Requests" := P1.wr W_2
  have f_4 : Fld Z h_1 a "com/example/odograph/odograph/model/Requests" "points" "[J" (.ref b) := P2.same W_2
  have f_5 : Fld Z h_1 a "com/example/odograph/odograph/model/Requests" "bounds" "[I" .null := P3.other W_2 (Or.inr (slot_ne (Or.inr (hw _ (List.mem_of_getElem? (i := 37) rfl))) (Or.inr (hw _ (List.mem_of_getElem? (i := 35) rfl))) (by decide) (t := (.array .int)) (t' := (.array .long)) (by decide) (by decide)))
  have kp_6 : Keep h h_1 [a] := (Keep.refl h [a]).wr W_2 (Or.inl (by simp))
  refine K.aloadN d4_9 (pc' := 10) rfl rfl rfl ?_
  refine K.aloadN d4_10 (pc' := 11) rfl rfl rfl ?_
  refine K.putf d4_11 (pc' := 14) rfl (host := "") (Or.inl (hw _ (List.mem_of_getElem? (i := 36) rfl))) Via.refl f_5 f_3 (Or.inr ⟨(hw _ (List.mem_of_getElem? (i := 37) rfl)), rfl, rfl⟩) (hw _ (List.mem_of_getElem? (i := 18) rfl)) (ty := (.array .int)) (by decide) rfl rfl P4 (fun h_7 W_8 => ?_)
  have f_9 : Exa Z h_7 a "com/example/odograph/odograph/model/Requests" := f_3.wr W_8
  have f_10 : Fld Z h_7 a "com/example/odograph/odograph/model/Requests" "points" "[J" (.ref b) := f_4.other W_8 (Or.inr (slot_ne (Or.inr (hw _ (List.mem_of_getElem? (i := 35) rfl))) (Or.inr (hw _ (List.mem_of_getElem? (i := 37) rfl))) (by decide) (t := (.array .long)) (t' := (.array .int)) (by decide) (by decide)))
  have f_11 : Fld Z h_7 a "com/example/odograph/odograph/model/Requests" "bounds" "[I" (.ref c) := f_5.same W_8
  have kp_12 : Keep h h_7 [a] := kp_6.wr W_8 (Or.inl (by simp))
  exact K.ret0 d4_14 (by decide) (by decide) ⟨rfl, kp_12⟩
theorem d3_0 : decode prog_14_method_3_code 0 = .ok (.aload_n 0, 1) := by decide +kernel
theorem d3_1 : decode prog_14_method_3_code 1 = .ok (.arraylength, 1) := by decide +kernel
theorem d3_2 : decode prog_14_method_3_code 2 = .ok (.iconst 1, 1) := by decide +kernel
theorem d3_3 : decode prog_14_method_3_code 3 = .ok (.iadd, 1) := by decide +kernel
theorem d3_4 : decode prog_14_method_3_code 4 = .ok (.newarray .int, 2) := by decide +kernel
theorem d3_6 : decode prog_14_method_3_code 6 = .ok (.astore_n 1, 1) := by decide +kernel
theorem d3_7 : decode prog_14_method_3_code 7 = .ok (.iconst 0, 1) := by decide +kernel
theorem d3_8 : decode prog_14_method_3_code 8 = .ok (.istore_n 2, 1) := by decide +kernel
theorem d3_9 : decode prog_14_method_3_code 9 = .ok (.iload_n 2, 1) := by decide +kernel
theorem d3_10 : decode prog_14_method_3_code 10 = .ok (.aload_n 0, 1) := by decide +kernel
theorem d3_11 : decode prog_14_method_3_code 11 = .ok (.arraylength, 1) := by decide +kernel
theorem d3_12 : decode prog_14_method_3_code 12 = .ok (.if_icmp .ge 25, 3) := by decide +kernel
theorem d3_37 : decode prog_14_method_3_code 37 = .ok (.new 10, 3) := by decide +kernel
theorem d3_40 : decode prog_14_method_3_code 40 = .ok (.dup, 1) := by decide +kernel
theorem d3_41 : decode prog_14_method_3_code 41 = .ok (.aload_n 0, 1) := by decide +kernel
theorem d3_42 : decode prog_14_method_3_code 42 = .ok (.invokevirtual 40, 3) := by decide +kernel
theorem d3_45 : decode prog_14_method_3_code 45 = .ok (.checkcast 41, 3) := by decide +kernel
theorem d3_48 : decode prog_14_method_3_code 48 = .ok (.aload_n 1, 1) := by decide +kernel
theorem d3_49 : decode prog_14_method_3_code 49 = .ok (.invokespecial 45, 3) := by decide +kernel
theorem pd_0 : parseMethodDescriptor "([J[I)V" = some ⟨[(.array .long), (.array .int)], none⟩ := by decide +kernel
theorem d3_52 : decode prog_14_method_3_code 52 = .ok (.areturn, 1) := by decide +kernel
set_option maxRecDepth 65536 in
set_option maxHeartbeats 40000000 in
theorem c_of (l : Launch) (Z : State) (a0 : Array Value) (hw : ∀ d ∈ tables_1, d.before a0 Z = true) (n0 : Nat) (h : Heap) (a : Addr) (Z0 : n0 ≤ h.size) (P2 : Ary Z h a .long []) (P3 : Exa Z h a "[J") : MeetsW l Z n0 (⟨"com/example/odograph/odograph/model/Requests", "ofPoints", "([J)Lcom/example/odograph/odograph/model/Requests;"⟩ : MethodName) prog_14_method_3_code 3 (some (.object "com/example/odograph/odograph/model/Requests")) ({ frames := 2, cells := 3, slots := 3, locals := 27 } : Room) #[(.ref a)] h (fun v h' => ∃ o : Addr, v = some (.ref o) ∧ Keep h h' []) := by
  refine MeetsW.intro (plainFor_of_name pn_com_example_odograph_odograph_model_Requests) (L0 := #[.val (.ref a), .unset, .unset]) (fun m => by first | (simp [entryFrame, mkF, argsToLocals, Value.category]; done) | rfl) ?_
  intro m G K0
  have K : Cx l ({ frames := 2, cells := 3, slots := 3, locals := 27 } : Room) Z n0 _ "com/example/odograph/odograph/model/Requests" "ofPoints" prog_14_method_3_code 3 (some (.object "com/example/odograph/odograph/model/Requests")) m G := K0
  refine K.aloadN d3_0 (pc' := 1) rfl rfl rfl ?_
  refine K.alen d3_1 (pc' := 2) rfl P2 (fun z1 e_z1 => ?_)
  have t_z1 : z1.toInt = 0 := e_z1
  refine K.iconst d3_2 (pc' := 3) rfl (z := 1) rfl ?_
  obtain ⟨z3, e_z3⟩ : ∃ z, z1 + (1 : Int32) = z := ⟨_, rfl⟩
  have r_z3 : (z3.toInt - (z1.toInt + 1)) % 4294967296 = 0 := by have q := c_iadd z1 (1 : Int32); rw [e_z3] at q; exact q
  have g_z3 := rng32 z3
  have t_z3 : z3.toInt = 1 := by omega
  clear r_z3
  clear g_z3
  refine K.iadd d3_3 (pc' := 4) rfl e_z3 ?_
  refine K.newa d3_4 (pc' := 6) rfl (hw _ (List.mem_of_getElem? (i := 16) rfl)) (k := 1) (cap := 1) t_z3 (by decide) (by decide) (by decide) (by decide) (ad := "[I") (by decide) (fun h_2 a_1 g_a_1 E_3 A_4 x_a_1 => ?_)
  have ne_a_a_1 : a ≠ a_1 := Nat.ne_of_lt (g_a_1 ▸ P2.lt)
  have ge_a_1 : n0 ≤ a_1 := g_a_1 ▸ Z0
  have sb_a_1 : h.size ≤ a_1 := g_a_1 ▸ (Keep.refl h []).1
  have f_5 : Ary Z h_2 a .long [] := P2.ext E_3
  have f_6 : Exa Z h_2 a "[J" := P3.ext E_3
  have kp_7 : Keep h h_2 [] := (Keep.refl h []).ext E_3
  have sz_8 : n0 ≤ h_2.size := Nat.le_trans Z0 E_3.1
  have A_9 : Ary Z h_2 a_1 .int ([(.int (0 : Int32))]) := A_4
  refine K.astoreN d3_6 (pc' := 7) rfl rfl (L' := #[.val (.ref a), .val (.ref a_1), .unset]) rfl ?_
  refine K.iconst d3_7 (pc' := 8) rfl (z := 0) rfl ?_
  refine K.istoreN d3_8 (pc' := 9) rfl (L' := #[.val (.ref a), .val (.ref a_1), .val (.int (0 : Int32))]) rfl ?_
  refine K.iloadN d3_9 (pc' := 10) rfl rfl ?_
  refine K.aloadN d3_10 (pc' := 11) rfl rfl rfl ?_
  refine K.alen d3_11 (pc' := 12) rfl f_5 (fun z11 e_z11 => ?_)
  have t_z11 : z11.toInt = 0 := e_z11
  refine K.icmp_ge d3_12 (pc1 := 15) rfl (by decide) (pc2 := 37) (by decide) (a := 0) (b := z11.toInt) rfl rfl (fun c12 => ?_) (fun c12 => ?_)
  · refine K.newo d3_37 (pc' := 40) rfl (hw _ (List.mem_of_getElem? (i := 17) rfl)) (hw _ (List.mem_of_getElem? (i := 18) rfl)) (hw _ (List.mem_of_getElem? (i := 14) rfl)) (by decide) (by decide) (fun h_11 o_10 g_o_10 E_12 x_o_10 D_o_10 => ?_)
    have ne_a_o_10 : a ≠ o_10 := Nat.ne_of_lt (g_o_10 ▸ f_5.lt)
    have ne_a_1_o_10 : a_1 ≠ o_10 := Nat.ne_of_lt (g_o_10 ▸ x_a_1.lt)
    have ge_o_10 : n0 ≤ o_10 := g_o_10 ▸ sz_8
    have sb_o_10 : h.size ≤ o_10 := g_o_10 ▸ kp_7.1
    have f_13 : Ary Z h_11 a .long [] := f_5.ext E_12
    have f_14 : Exa Z h_11 a "[J" := f_6.ext E_12
    have f_15 : Exa Z h_11 a_1 "[I" := x_a_1.ext E_12
    have f_16 : Ary Z h_11 a_1 .int [(.int (0 : Int32))] := A_9.ext E_12
    have kp_17 : Keep h h_11 [] := kp_7.ext E_12
    have sz_18 : n0 ≤ h_11.size := Nat.le_trans sz_8 E_12.1
    have f_19 : Fld Z h_11 o_10 "com/example/odograph/odograph/model/Requests" "points" "[J" .null := D_o_10 (Or.inr (hw _ (List.mem_of_getElem? (i := 35) rfl))) (ty := (.array .long)) (by decide)
    have f_20 : Fld Z h_11 o_10 "com/example/odograph/odograph/model/Requests" "bounds" "[I" .null := D_o_10 (Or.inr (hw _ (List.mem_of_getElem? (i := 37) rfl))) (ty := (.array .int)) (by decide)
    refine K.dup d3_40 (pc' := 41) rfl rfl ?_
    refine K.aloadN d3_41 (pc' := 42) rfl rfl rfl ?_
    refine K.clone (.long (0 : Int64)) d3_42 (pc' := 45) rfl (hw _ (List.mem_of_getElem? (i := 19) rfl)) (hw _ (List.mem_of_getElem? (i := 20) rfl)) (hw _ (List.mem_of_getElem? (i := 24) rfl)) (hw _ (List.mem_of_getElem? (i := 22) rfl)) (hw _ (List.mem_of_getElem? (i := 23) rfl)) (hw _ (List.mem_of_getElem? (i := 25) rfl)) f_13 f_14 (by simp [fits]) rfl rfl (by decide) (W := 2) (by simp [Value.category]) (by decide) (cap := 0) (by simp) (by decide) (by decide) (fun h_21 o_24 g_o_24 E_22 A_23 x_o_24 => ?_)
    have ne_a_o_24 : a ≠ o_24 := Nat.ne_of_lt (g_o_24 ▸ f_13.lt)
    have ne_a_1_o_24 : a_1 ≠ o_24 := Nat.ne_of_lt (g_o_24 ▸ f_15.lt)
    have ne_o_10_o_24 : o_10 ≠ o_24 := Nat.ne_of_lt (g_o_24 ▸ x_o_10.lt)
    have ge_o_24 : n0 ≤ o_24 := g_o_24 ▸ sz_18
    have sb_o_24 : h.size ≤ o_24 := g_o_24 ▸ kp_17.1
    have f_25 : Ary Z h_21 a .long [] := f_13.ext E_22
    have f_26 : Exa Z h_21 a "[J" := f_14.ext E_22
    have f_27 : Exa Z h_21 a_1 "[I" := f_15.ext E_22
    have f_28 : Ary Z h_21 a_1 .int [(.int (0 : Int32))] := f_16.ext E_22
    have f_29 : Exa Z h_21 o_10 "com/example/odograph/odograph/model/Requests" := x_o_10.ext E_22
    have f_30 : Fld Z h_21 o_10 "com/example/odograph/odograph/model/Requests" "points" "[J" .null := f_19.ext E_22
    have f_31 : Fld Z h_21 o_10 "com/example/odograph/odograph/model/Requests" "bounds" "[I" .null := f_20.ext E_22
    have kp_32 : Keep h h_21 [] := kp_17.ext E_22
    have sz_33 : n0 ≤ h_21.size := Nat.le_trans sz_18 E_22.1
    refine K.ccast d3_45 (pc' := 48) rfl (hw _ (List.mem_of_getElem? (i := 26) rfl)) (Ins.self x_o_24) ?_
    refine K.aloadN d3_48 (pc' := 49) rfl rfl rfl ?_
    refine K.callc (argsL := [(.ref o_24), (.ref a_1)]) (rest := [(.ref o_10)]) d3_49 (pc' := 52) rfl rfl (c_rq l Z a0 hw n0 h_21 (a := o_10) (b := o_24) (c := a_1) f_29 f_30 f_31 ge_o_10) (hw _ (List.mem_of_getElem? (i := 28) rfl)) (hw _ (List.mem_of_getElem? (i := 29) rfl)) (hw _ (List.mem_of_getElem? (i := 14) rfl)) (hw _ (List.mem_of_getElem? (i := 30) rfl)) (by decide) pd_0 rfl rfl (W := 1) (by simp [Value.category]) (by decide) (by decide) (by decide) (by decide) (fun v_36 h_34 q_35 => ?_)
    obtain ⟨rfl, K_38⟩ := q_35
    have f_39 : Ary Z h_34 a .long [] := f_25.keep K_38 (ninS ne_a_o_10 nin0)
    have f_40 : Exa Z h_34 a "[J" := f_26.keep K_38
    have f_41 : Exa Z h_34 a_1 "[I" := f_27.keep K_38
    have f_42 : Ary Z h_34 a_1 .int [(.int (0 : Int32))] := f_28.keep K_38 (ninS ne_a_1_o_10 nin0)
    have f_43 : Exa Z h_34 o_10 "com/example/odograph/odograph/model/Requests" := f_29.keep K_38
    have f_46 : Ary Z h_34 o_24 .long [] := A_23.keep K_38 (ninS (Ne.symm ne_o_10_o_24) nin0)
    have f_47 : Exa Z h_34 o_24 "[J" := x_o_24.keep K_38
    have kp_48 : Keep h h_34 [] := kp_32.trans K_38 (allS (Or.inr sb_o_10) all0)
    have sz_49 : n0 ≤ h_34.size := Nat.le_trans sz_33 K_38.1
    show G h_34 3 3 (mkF m 52 #[.val (.ref a), .val (.ref a_1), .val (.int (0 : Int32))] [(.ref o_10)])
    exact K.reta d3_52 rfl rfl rfl (by decide) (by decide) ⟨o_10, rfl, kp_48⟩
  · exfalso; omega
theorem d6_0 : decode prog_11_method_2_code 0 = .ok (.aload_n 0, 1) := by decide +kernel
theorem d6_1 : decode prog_11_method_2_code 1 = .ok (.invokespecial 13, 3) := by decide +kernel
theorem d6_4 : decode prog_11_method_2_code 4 = .ok (.aload_n 1, 1) := by decide +kernel
theorem d6_5 : decode prog_11_method_2_code 5 = .ok (.arraylength, 1) := by decide +kernel
theorem d6_6 : decode prog_11_method_2_code 6 = .ok (.ifCond .ne 13, 3) := by decide +kernel
theorem d6_19 : decode prog_11_method_2_code 19 = .ok (.iconst 0, 1) := by decide +kernel
theorem d6_20 : decode prog_11_method_2_code 20 = .ok (.istore 4, 2) := by decide +kernel
theorem d6_22 : decode prog_11_method_2_code 22 = .ok (.iload 4, 2) := by decide +kernel
theorem d6_24 : decode prog_11_method_2_code 24 = .ok (.aload_n 1, 1) := by decide +kernel
theorem d6_25 : decode prog_11_method_2_code 25 = .ok (.arraylength, 1) := by decide +kernel
theorem d6_26 : decode prog_11_method_2_code 26 = .ok (.if_icmp .ge 55, 3) := by decide +kernel
theorem d6_29 : decode prog_11_method_2_code 29 = .ok (.aload_n 1, 1) := by decide +kernel
theorem d6_30 : decode prog_11_method_2_code 30 = .ok (.iload 4, 2) := by decide +kernel
theorem d6_32 : decode prog_11_method_2_code 32 = .ok (.laload, 1) := by decide +kernel
theorem d6_33 : decode prog_11_method_2_code 33 = .ok (.lconst 0, 1) := by decide +kernel
theorem d6_34 : decode prog_11_method_2_code 34 = .ok (.lcmp, 1) := by decide +kernel
theorem d6_35 : decode prog_11_method_2_code 35 = .ok (.ifCond .gt 40, 3) := by decide +kernel
theorem d6_75 : decode prog_11_method_2_code 75 = .ok (.iinc 4 1, 3) := by decide +kernel
theorem d6_78 : decode prog_11_method_2_code 78 = .ok (.goto (-56), 3) := by decide +kernel
theorem d6_81 : decode prog_11_method_2_code 81 = .ok (.aload_n 2, 1) := by decide +kernel
theorem d6_82 : decode prog_11_method_2_code 82 = .ok (.ifnull 43, 3) := by decide +kernel
theorem d6_125 : decode prog_11_method_2_code 125 = .ok (.iconst 0, 1) := by decide +kernel
theorem d6_126 : decode prog_11_method_2_code 126 = .ok (.istore 4, 2) := by decide +kernel
theorem d6_128 : decode prog_11_method_2_code 128 = .ok (.iload 4, 2) := by decide +kernel
theorem d6_130 : decode prog_11_method_2_code 130 = .ok (.aload_n 1, 1) := by decide +kernel
theorem d6_131 : decode prog_11_method_2_code 131 = .ok (.arraylength, 1) := by decide +kernel
theorem d6_132 : decode prog_11_method_2_code 132 = .ok (.if_icmp .ge 22, 3) := by decide +kernel
theorem d6_135 : decode prog_11_method_2_code 135 = .ok (.aload_n 2, 1) := by decide +kernel
theorem d6_136 : decode prog_11_method_2_code 136 = .ok (.ifnull 18, 3) := by decide +kernel
theorem d6_154 : decode prog_11_method_2_code 154 = .ok (.aload_n 0, 1) := by decide +kernel
theorem d6_155 : decode prog_11_method_2_code 155 = .ok (.aload_n 1, 1) := by decide +kernel
theorem d6_156 : decode prog_11_method_2_code 156 = .ok (.invokevirtual 52, 3) := by decide +kernel
theorem d6_159 : decode prog_11_method_2_code 159 = .ok (.checkcast 53, 3) := by decide +kernel
theorem d6_162 : decode prog_11_method_2_code 162 = .ok (.putfield 58, 3) := by decide +kernel
theorem d6_165 : decode prog_11_method_2_code 165 = .ok (.aload_n 0, 1) := by decide +kernel
theorem d6_166 : decode prog_11_method_2_code 166 = .ok (.aload_n 2, 1) := by decide +kernel
theorem d6_167 : decode prog_11_method_2_code 167 = .ok (.ifnonnull 7, 3) := by decide +kernel
theorem d6_170 : decode prog_11_method_2_code 170 = .ok (.aconst_null, 1) := by decide +kernel
theorem d6_171 : decode prog_11_method_2_code 171 = .ok (.goto 10, 3) := by decide +kernel
theorem d6_181 : decode prog_11_method_2_code 181 = .ok (.putfield 61, 3) := by decide +kernel
theorem d6_184 : decode prog_11_method_2_code 184 = .ok (.aload_n 0, 1) := by decide +kernel
theorem d6_185 : decode prog_11_method_2_code 185 = .ok (.aload_n 3, 1) := by decide +kernel
theorem d6_186 : decode prog_11_method_2_code 186 = .ok (.putfield 64, 3) := by decide +kernel
theorem d6_189 : decode prog_11_method_2_code 189 = .ok (.return_, 1) := by decide +kernel
theorem pn_com_example_odograph_odograph_model_Instance : plainName "com/example/odograph/odograph/model/Instance" = true := by first | (simp [plainName, overriddenIn]; done) | decide +kernel
set_option maxRecDepth 65536 in
set_option maxHeartbeats 40000000 in
theorem c_in1 (l : Launch) (Z : State) (a0 : Array Value) (hw : ∀ d ∈ tables_1, d.before a0 Z = true) (n0 : Nat) (h : Heap) (a : Addr) (b : Addr) (r : Addr) (x0 : Int64) (P1 : Exa Z h a "com/example/odograph/odograph/model/Instance") (Z0 : n0 ≤ h.size) (P3 : n0 ≤ a) (P4 : b ≠ a) (P5 : Ary Z h b .long [(.long x0)]) (P6 : Exa Z h b "[J") (P7 : Fld Z h a "com/example/odograph/odograph/model/Instance" "weights" "[J" .null) (P8 : Fld Z h a "com/example/odograph/odograph/model/Instance" "start" "[J" .null) (P9 : Fld Z h a "com/example/odograph/odograph/model/Instance" "requests" "Lcom/example/odograph/odograph/model/Requests;" .null) (hx0 : 0 < x0.toInt) : MeetsW l Z n0 (⟨"com/example/odograph/odograph/model/Instance", "<init>", "([J[JLcom/example/odograph/odograph/model/Requests;)V"⟩ : MethodName) prog_11_method_2_code 5 none ({ frames := 1, cells := 1, slots := 1, locals := 15 } : Room) #[(.ref a), (.ref b), .null, (.ref r)] h (fun v h' => ∃ (c : Addr), v = none ∧ Keep h h' [a] ∧ h.size ≤ c ∧ Fld Z h' a "com/example/odograph/odograph/model/Instance" "weights" "[J" (.ref c) ∧ Ary Z h' c .long [(.long x0)]) := by
  refine MeetsW.intro (plainFor_of_name pn_com_example_odograph_odograph_model_Instance) (L0 := #[.val (.ref a), .val (.ref b), .val .null, .val (.ref r), .unset]) (fun m => by first | (simp [entryFrame, mkF, argsToLocals, Value.category]; done) | rfl) ?_
  intro m G K0
  have K : Cx l ({ frames := 1, cells := 1, slots := 1, locals := 15 } : Room) Z n0 _ "com/example/odograph/odograph/model/Instance" "<init>" prog_11_method_2_code 5 none m G := K0
  refine K.aloadN d6_0 (pc' := 1) rfl rfl rfl ?_
  refine K.init0 d6_1 (pc' := 4) rfl (hw _ (List.mem_of_getElem? (i := 41) rfl)) (hw _ (List.mem_of_getElem? (i := 32) rfl)) (hw _ (List.mem_of_getElem? (i := 33) rfl)) rfl (by decide) (W := 0) (by simp [Value.category]) (by decide) ?_
  refine K.aloadN d6_4 (pc' := 5) rfl rfl rfl ?_
  refine K.alen d6_5 (pc' := 6) rfl P5 (fun z5 e_z5 => ?_)
  have t_z5 : z5.toInt = 1 := e_z5
  refine K.if_ne d6_6 (pc1 := 9) rfl (by decide) (pc2 := 19) (by decide) (a := z5.toInt) rfl (fun c6 => ?_) (fun c6 => ?_)
  · refine K.iconst d6_19 (pc' := 20) rfl (z := 0) rfl ?_
    refine K.istore d6_20 (pc' := 22) rfl (L' := #[.val (.ref a), .val (.ref b), .val .null, .val (.ref r), .val (.int (0 : Int32))]) rfl ?_
    refine K.iload d6_22 (pc' := 24) rfl rfl ?_
    refine K.aloadN d6_24 (pc' := 25) rfl rfl rfl ?_
    refine K.alen d6_25 (pc' := 26) rfl P5 (fun z25 e_z25 => ?_)
    have t_z25 : z25.toInt = 1 := e_z25
    refine K.icmp_ge d6_26 (pc1 := 29) rfl (by decide) (pc2 := 81) (by decide) (a := 0) (b := z25.toInt) rfl rfl (fun c26 => ?_) (fun c26 => ?_)
    · exfalso; omega
    · refine K.aloadN d6_29 (pc' := 30) rfl rfl rfl ?_
      refine K.iload d6_30 (pc' := 32) rfl rfl ?_
      refine K.lald d6_32 (pc' := 33) rfl P5 (i := 0) rfl rfl ?_
      refine K.lconst d6_33 (pc' := 34) rfl (z := 0) rfl ?_
      refine K.lcmp_gt d6_34 d6_35 (pc1 := 38) rfl (by decide) (pc2 := 75) (by decide) (a := x0.toInt) (b := 0) rfl rfl (fun c34 => ?_) (fun c34 => ?_)
      · refine K.iinc d6_75 (pc' := 78) rfl rfl (z := (1 : Int32)) rfl (L' := #[.val (.ref a), .val (.ref b), .val .null, .val (.ref r), .val (.int (1 : Int32))]) rfl ?_
        refine K.goto d6_78 (by decide) (pc' := 22) (by decide) ?_
        refine K.iload d6_22 (pc' := 24) rfl rfl ?_
        refine K.aloadN d6_24 (pc' := 25) rfl rfl rfl ?_
        refine K.alen d6_25 (pc' := 26) rfl P5 (fun z25_1 e_z25_1 => ?_)
        have t_z25_1 : z25_1.toInt = 1 := e_z25_1
        refine K.icmp_ge d6_26 (pc1 := 29) rfl (by decide) (pc2 := 81) (by decide) (a := 1) (b := z25_1.toInt) rfl rfl (fun c26_1 => ?_) (fun c26_1 => ?_)
        · refine K.aloadN d6_81 (pc' := 82) rfl rfl rfl ?_
          refine K.ifnull0 d6_82 (by decide) (pc2 := 125) (by decide) ?_
          refine K.iconst d6_125 (pc' := 126) rfl (z := 0) rfl ?_
          refine K.istore d6_126 (pc' := 128) rfl (L' := #[.val (.ref a), .val (.ref b), .val .null, .val (.ref r), .val (.int (0 : Int32))]) rfl ?_
          refine K.iload d6_128 (pc' := 130) rfl rfl ?_
          refine K.aloadN d6_130 (pc' := 131) rfl rfl rfl ?_
          refine K.alen d6_131 (pc' := 132) rfl P5 (fun z131 e_z131 => ?_)
          have t_z131 : z131.toInt = 1 := e_z131
          refine K.icmp_ge d6_132 (pc1 := 135) rfl (by decide) (pc2 := 154) (by decide) (a := 0) (b := z131.toInt) rfl rfl (fun c132 => ?_) (fun c132 => ?_)
          · exfalso; omega
          · refine K.aloadN d6_135 (pc' := 136) rfl rfl rfl ?_
            refine K.ifnull0 d6_136 (by decide) (pc2 := 154) (by decide) ?_
            refine K.aloadN d6_154 (pc' := 155) rfl rfl rfl ?_
            refine K.aloadN d6_155 (pc' := 156) rfl rfl rfl ?_
            refine K.clone (.long (0 : Int64)) d6_156 (pc' := 159) rfl (hw _ (List.mem_of_getElem? (i := 42) rfl)) (hw _ (List.mem_of_getElem? (i := 20) rfl)) (hw _ (List.mem_of_getElem? (i := 24) rfl)) (hw _ (List.mem_of_getElem? (i := 22) rfl)) (hw _ (List.mem_of_getElem? (i := 23) rfl)) (hw _ (List.mem_of_getElem? (i := 25) rfl)) P5 P6 (by simp [fits]) rfl rfl (by decide) (W := 1) (by simp [Value.category]) (by decide) (cap := 1) (by simp) (by decide) (by decide) (fun h_1 o_4 g_o_4 E_2 A_3 x_o_4 => ?_)
            have ne_a_o_4 : a ≠ o_4 := Nat.ne_of_lt (g_o_4 ▸ P1.lt)
            have ne_b_o_4 : b ≠ o_4 := Nat.ne_of_lt (g_o_4 ▸ P5.lt)
            have ge_o_4 : n0 ≤ o_4 := g_o_4 ▸ Z0
            have sb_o_4 : h.size ≤ o_4 := g_o_4 ▸ (Keep.refl h [a]).1
            have f_5 : Exa Z h_1 a "com/example/odograph/odograph/model/Instance" := P1.ext E_2
            have f_6 : Ary Z h_1 b .long [(.long x0)] := P5.ext E_2
            have f_7 : Exa Z h_1 b "[J" := P6.ext E_2
            have f_8 : Fld Z h_1 a "com/example/odograph/odograph/model/Instance" "weights" "[J" .null := P7.ext E_2
            have f_9 : Fld Z h_1 a "com/example/odograph/odograph/model/Instance" "start" "[J" .null := P8.ext E_2
            have f_10 : Fld Z h_1 a "com/example/odograph/odograph/model/Instance" "requests" "Lcom/example/odograph/odograph/model/Requests;" .null := P9.ext E_2
            have kp_11 : Keep h h_1 [a] := (Keep.refl h [a]).ext E_2
            have sz_12 : n0 ≤ h_1.size := Nat.le_trans Z0 E_2.1
            refine K.ccast d6_159 (pc' := 162) rfl (hw _ (List.mem_of_getElem? (i := 43) rfl)) (Ins.self x_o_4) ?_
            refine K.putf d6_162 (pc' := 165) rfl (host := "") (Or.inl (hw _ (List.mem_of_getElem? (i := 44) rfl))) Via.refl f_8 f_5 (Or.inr ⟨(hw _ (List.mem_of_getElem? (i := 45) rfl)), rfl, rfl⟩) (hw _ (List.mem_of_getElem? (i := 7) rfl)) (ty := (.array .long)) (by decide) rfl rfl P3 (fun h_13 W_14 => ?_)
            have f_15 : Exa Z h_13 a "com/example/odograph/odograph/model/Instance" := f_5.wr W_14
            have f_16 : Ary Z h_13 b .long [(.long x0)] := f_6.other W_14 P4
            have f_17 : Exa Z h_13 b "[J" := f_7.wr W_14
            have f_18 : Fld Z h_13 a "com/example/odograph/odograph/model/Instance" "weights" "[J" (.ref o_4) := f_8.same W_14
            have f_19 : Fld Z h_13 a "com/example/odograph/odograph/model/Instance" "start" "[J" .null := f_9.other W_14 (Or.inr (slot_ne (Or.inr (hw _ (List.mem_of_getElem? (i := 47) rfl))) (Or.inr (hw _ (List.mem_of_getElem? (i := 45) rfl))) (by decide) (t := (.array .long)) (t' := (.array .long)) (by decide) (by decide)))
            have f_20 : Fld Z h_13 a "com/example/odograph/odograph/model/Instance" "requests" "Lcom/example/odograph/odograph/model/Requests;" .null := f_10.other W_14 (Or.inr (slot_ne (Or.inr (hw _ (List.mem_of_getElem? (i := 49) rfl))) (Or.inr (hw _ (List.mem_of_getElem? (i := 45) rfl))) (by decide) (t := (.object "com/example/odograph/odograph/model/Requests")) (t' := (.array .long)) (by decide) (by decide)))
            have f_21 : Ary Z h_13 o_4 .long [(.long x0)] := A_3.other W_14 (Ne.symm ne_a_o_4)
            have f_22 : Exa Z h_13 o_4 "[J" := x_o_4.wr W_14
            have kp_23 : Keep h h_13 [a] := kp_11.wr W_14 (Or.inl (by simp))
            have sz_24 : n0 ≤ h_13.size := Nat.le_trans sz_12 (Keep.of_wr W_14).1
            refine K.aloadN d6_165 (pc' := 166) rfl rfl rfl ?_
            refine K.aloadN d6_166 (pc' := 167) rfl rfl rfl ?_
            refine K.ifnonnull0 d6_167 (pc' := 170) rfl ?_
            refine K.anull d6_170 (pc' := 171) rfl ?_
            refine K.goto d6_171 (by decide) (pc' := 181) (by decide) ?_
            refine K.putf d6_181 (pc' := 184) rfl (host := "") (Or.inl (hw _ (List.mem_of_getElem? (i := 46) rfl))) Via.refl f_19 f_15 (Or.inr ⟨(hw _ (List.mem_of_getElem? (i := 47) rfl)), rfl, rfl⟩) (hw _ (List.mem_of_getElem? (i := 7) rfl)) (ty := (.array .long)) (by decide) rfl rfl P3 (fun h_25 W_26 => ?_)
            have f_27 : Exa Z h_25 a "com/example/odograph/odograph/model/Instance" := f_15.wr W_26
            have f_28 : Ary Z h_25 b .long [(.long x0)] := f_16.other W_26 P4
            have f_29 : Exa Z h_25 b "[J" := f_17.wr W_26
            have f_30 : Fld Z h_25 a "com/example/odograph/odograph/model/Instance" "weights" "[J" (.ref o_4) := f_18.other W_26 (Or.inr (slot_ne (Or.inr (hw _ (List.mem_of_getElem? (i := 45) rfl))) (Or.inr (hw _ (List.mem_of_getElem? (i := 47) rfl))) (by decide) (t := (.array .long)) (t' := (.array .long)) (by decide) (by decide)))
            have f_31 : Fld Z h_25 a "com/example/odograph/odograph/model/Instance" "start" "[J" .null := f_19.same W_26
            have f_32 : Fld Z h_25 a "com/example/odograph/odograph/model/Instance" "requests" "Lcom/example/odograph/odograph/model/Requests;" .null := f_20.other W_26 (Or.inr (slot_ne (Or.inr (hw _ (List.mem_of_getElem? (i := 49) rfl))) (Or.inr (hw _ (List.mem_of_getElem? (i := 47) rfl))) (by decide) (t := (.object "com/example/odograph/odograph/model/Requests")) (t' := (.array .long)) (by decide) (by decide)))
            have f_33 : Ary Z h_25 o_4 .long [(.long x0)] := f_21.other W_26 (Ne.symm ne_a_o_4)
            have f_34 : Exa Z h_25 o_4 "[J" := f_22.wr W_26
            have kp_35 : Keep h h_25 [a] := kp_23.wr W_26 (Or.inl (by simp))
            have sz_36 : n0 ≤ h_25.size := Nat.le_trans sz_24 (Keep.of_wr W_26).1
            refine K.aloadN d6_184 (pc' := 185) rfl rfl rfl ?_
            refine K.aloadN d6_185 (pc' := 186) rfl rfl rfl ?_
            refine K.putf d6_186 (pc' := 189) rfl (host := "") (Or.inl (hw _ (List.mem_of_getElem? (i := 48) rfl))) Via.refl f_32 f_27 (Or.inr ⟨(hw _ (List.mem_of_getElem? (i := 49) rfl)), rfl, rfl⟩) (hw _ (List.mem_of_getElem? (i := 7) rfl)) (ty := (.object "com/example/odograph/odograph/model/Requests")) (by decide) rfl rfl P3 (fun h_37 W_38 => ?_)
            have f_39 : Exa Z h_37 a "com/example/odograph/odograph/model/Instance" := f_27.wr W_38
            have f_40 : Ary Z h_37 b .long [(.long x0)] := f_28.other W_38 P4
            have f_41 : Exa Z h_37 b "[J" := f_29.wr W_38
            have f_42 : Fld Z h_37 a "com/example/odograph/odograph/model/Instance" "weights" "[J" (.ref o_4) := f_30.other W_38 (Or.inr (slot_ne (Or.inr (hw _ (List.mem_of_getElem? (i := 45) rfl))) (Or.inr (hw _ (List.mem_of_getElem? (i := 49) rfl))) (by decide) (t := (.array .long)) (t' := (.object "com/example/odograph/odograph/model/Requests")) (by decide) (by decide)))
            have f_43 : Fld Z h_37 a "com/example/odograph/odograph/model/Instance" "start" "[J" .null := f_31.other W_38 (Or.inr (slot_ne (Or.inr (hw _ (List.mem_of_getElem? (i := 47) rfl))) (Or.inr (hw _ (List.mem_of_getElem? (i := 49) rfl))) (by decide) (t := (.array .long)) (t' := (.object "com/example/odograph/odograph/model/Requests")) (by decide) (by decide)))
            have f_44 : Fld Z h_37 a "com/example/odograph/odograph/model/Instance" "requests" "Lcom/example/odograph/odograph/model/Requests;" (.ref r) := f_32.same W_38
            have f_45 : Ary Z h_37 o_4 .long [(.long x0)] := f_33.other W_38 (Ne.symm ne_a_o_4)
            have f_46 : Exa Z h_37 o_4 "[J" := f_34.wr W_38
            have kp_47 : Keep h h_37 [a] := kp_35.wr W_38 (Or.inl (by simp))
            have sz_48 : n0 ≤ h_37.size := Nat.le_trans sz_36 (Keep.of_wr W_38).1
            exact K.ret0 d6_189 (by decide) (by decide) ⟨o_4, rfl, kp_47, sb_o_4, f_42, f_45⟩
        · exfalso; omega
      · exfalso; omega
  · exfalso; omega
theorem d2_0 : decode prog_11_method_1_code 0 = .ok (.aload_n 0, 1) := by decide +kernel
theorem d2_1 : decode prog_11_method_1_code 1 = .ok (.aload_n 1, 1) := by decide +kernel
theorem d2_2 : decode prog_11_method_1_code 2 = .ok (.aload_n 2, 1) := by decide +kernel
theorem d2_3 : decode prog_11_method_1_code 3 = .ok (.aload_n 3, 1) := by decide +kernel
theorem d2_4 : decode prog_11_method_1_code 4 = .ok (.invokestatic 1, 3) := by decide +kernel
theorem pd_1 : parseMethodDescriptor "([J)Lcom/example/odograph/odograph/model/Requests;" = some ⟨[(.array .long)], some (.object "com/example/odograph/odograph/model/Requests")⟩ := by decide +kernel
theorem d2_7 : decode prog_11_method_1_code 7 = .ok (.invokespecial 7, 3) := by decide +kernel
theorem pd_2 : parseMethodDescriptor "([J[JLcom/example/odograph/odograph/model/Requests;)V" = some ⟨[(.array .long), (.array .long), (.object "com/example/odograph/odograph/model/Requests")], none⟩ := by decide +kernel
theorem d2_10 : decode prog_11_method_1_code 10 = .ok (.return_, 1) := by decide +kernel
set_option maxRecDepth 65536 in
set_option maxHeartbeats 40000000 in
theorem c_inst1 (l : Launch) (Z : State) (a0 : Array Value) (hw : ∀ d ∈ tables_1, d.before a0 Z = true) (n0 : Nat) (h : Heap) (a : Addr) (b : Addr) (d : Addr) (x0 : Int64) (P1 : Exa Z h a "com/example/odograph/odograph/model/Instance") (Z0 : n0 ≤ h.size) (P3 : n0 ≤ a) (P4 : b ≠ a) (P5 : d ≠ a) (P6 : Ary Z h b .long [(.long x0)]) (P7 : Exa Z h b "[J") (P8 : Ary Z h d .long []) (P9 : Exa Z h d "[J") (P10 : Fld Z h a "com/example/odograph/odograph/model/Instance" "weights" "[J" .null) (P11 : Fld Z h a "com/example/odograph/odograph/model/Instance" "start" "[J" .null) (P12 : Fld Z h a "com/example/odograph/odograph/model/Instance" "requests" "Lcom/example/odograph/odograph/model/Requests;" .null) (hx0 : 0 < x0.toInt) : MeetsW l Z n0 (⟨"com/example/odograph/odograph/model/Instance", "<init>", "([J[J[J)V"⟩ : MethodName) prog_11_method_1_code 4 none ({ frames := 3, cells := 4, slots := 4, locals := 44 } : Room) #[(.ref a), (.ref b), .null, (.ref d)] h (fun v h' => ∃ (c : Addr), v = none ∧ Keep h h' [a] ∧ h.size ≤ c ∧ Fld Z h' a "com/example/odograph/odograph/model/Instance" "weights" "[J" (.ref c) ∧ Ary Z h' c .long [(.long x0)]) := by
  refine MeetsW.intro (plainFor_of_name pn_com_example_odograph_odograph_model_Instance) (L0 := #[.val (.ref a), .val (.ref b), .val .null, .val (.ref d)]) (fun m => by first | (simp [entryFrame, mkF, argsToLocals, Value.category]; done) | rfl) ?_
  intro m G K0
  have K : Cx l ({ frames := 3, cells := 4, slots := 4, locals := 44 } : Room) Z n0 _ "com/example/odograph/odograph/model/Instance" "<init>" prog_11_method_1_code 4 none m G := K0
  refine K.aloadN d2_0 (pc' := 1) rfl rfl rfl ?_
  refine K.aloadN d2_1 (pc' := 2) rfl rfl rfl ?_
  refine K.aloadN d2_2 (pc' := 3) rfl rfl rfl ?_
  refine K.aloadN d2_3 (pc' := 4) rfl rfl rfl ?_
  refine K.calls (argsL := [(.ref d)]) (rest := [.null, (.ref b), (.ref a)]) d2_4 (pc' := 7) rfl (c_of l Z a0 hw n0 h (a := d) Z0 P8 P9) (hw _ (List.mem_of_getElem? (i := 12) rfl)) (hw _ (List.mem_of_getElem? (i := 13) rfl)) (hw _ (List.mem_of_getElem? (i := 14) rfl)) (hw _ (List.mem_of_getElem? (i := 15) rfl)) (by decide) pd_1 rfl rfl (W := 3) (by simp [Value.category]) (by decide) (by decide) (by decide) (by decide) (fun v_3 h_1 q_2 => ?_)
  obtain ⟨w_4, rfl, K_5⟩ := q_2
  have f_6 : Exa Z h_1 a "com/example/odograph/odograph/model/Instance" := P1.keep K_5
  have f_7 : Ary Z h_1 b .long [(.long x0)] := P6.keep K_5 nin0
  have f_8 : Exa Z h_1 b "[J" := P7.keep K_5
  have f_9 : Ary Z h_1 d .long [] := P8.keep K_5 nin0
  have f_10 : Exa Z h_1 d "[J" := P9.keep K_5
  have f_11 : Fld Z h_1 a "com/example/odograph/odograph/model/Instance" "weights" "[J" .null := P10.keep K_5 nin0
  have f_12 : Fld Z h_1 a "com/example/odograph/odograph/model/Instance" "start" "[J" .null := P11.keep K_5 nin0
  have f_13 : Fld Z h_1 a "com/example/odograph/odograph/model/Instance" "requests" "Lcom/example/odograph/odograph/model/Requests;" .null := P12.keep K_5 nin0
  have kp_14 : Keep h h_1 [a] := (Keep.refl h [a]).trans K_5 all0
  have sz_15 : n0 ≤ h_1.size := Nat.le_trans Z0 K_5.1
  show G h_1 3 3 (mkF m 7 #[.val (.ref a), .val (.ref b), .val .null, .val (.ref d)] [(.ref w_4), .null, (.ref b), (.ref a)])
  refine K.callc (argsL := [(.ref b), .null, (.ref w_4)]) (rest := []) d2_7 (pc' := 10) rfl rfl (c_in1 l Z a0 hw n0 h_1 (a := a) (b := b) (r := w_4) (x0 := x0) f_6 sz_15 P3 P4 f_7 f_8 f_11 f_12 f_13 (by omega)) (hw _ (List.mem_of_getElem? (i := 38) rfl)) (hw _ (List.mem_of_getElem? (i := 39) rfl)) (hw _ (List.mem_of_getElem? (i := 8) rfl)) (hw _ (List.mem_of_getElem? (i := 40) rfl)) (by decide) pd_2 rfl rfl (W := 0) (by simp [Value.category]) (by decide) (by decide) (by decide) (by decide) (fun v_18 h_16 q_17 => ?_)
  obtain ⟨c_20, rfl, K_21, f_22, f_23, f_24⟩ := q_17
  have ne_a_c_20 : a ≠ c_20 := Nat.ne_of_lt (Nat.lt_of_lt_of_le f_6.lt f_22)
  have ne_b_c_20 : b ≠ c_20 := Nat.ne_of_lt (Nat.lt_of_lt_of_le f_7.lt f_22)
  have ne_d_c_20 : d ≠ c_20 := Nat.ne_of_lt (Nat.lt_of_lt_of_le f_9.lt f_22)
  have sb_c_20 : h.size ≤ c_20 := Nat.le_trans kp_14.1 f_22
  have f_25 : Exa Z h_16 a "com/example/odograph/odograph/model/Instance" := f_6.keep K_21
  have f_26 : Ary Z h_16 b .long [(.long x0)] := f_7.keep K_21 (ninS P4 nin0)
  have f_27 : Exa Z h_16 b "[J" := f_8.keep K_21
  have f_28 : Ary Z h_16 d .long [] := f_9.keep K_21 (ninS P5 nin0)
  have f_29 : Exa Z h_16 d "[J" := f_10.keep K_21
  have kp_33 : Keep h h_16 [a] := kp_14.trans K_21 (allS (Or.inl (by simp)) all0)
  have sz_34 : n0 ≤ h_16.size := Nat.le_trans sz_15 K_21.1
  show G h_16 4 4 (mkF m 10 #[.val (.ref a), .val (.ref b), .val .null, .val (.ref d)] [])
  exact K.ret0 d2_10 (by decide) (by decide) ⟨c_20, rfl, kp_33, sb_c_20, f_23, f_24⟩
theorem d7_0 : decode prog_11_method_5_code 0 = .ok (.aload_n 0, 1) := by decide +kernel
theorem d7_1 : decode prog_11_method_5_code 1 = .ok (.getfield 58, 3) := by decide +kernel
theorem d7_4 : decode prog_11_method_5_code 4 = .ok (.astore_n 1, 1) := by decide +kernel
theorem d7_5 : decode prog_11_method_5_code 5 = .ok (.aload_n 1, 1) := by decide +kernel
theorem d7_6 : decode prog_11_method_5_code 6 = .ok (.arraylength, 1) := by decide +kernel
theorem d7_7 : decode prog_11_method_5_code 7 = .ok (.istore_n 2, 1) := by decide +kernel
theorem d7_8 : decode prog_11_method_5_code 8 = .ok (.iconst 0, 1) := by decide +kernel
theorem d7_9 : decode prog_11_method_5_code 9 = .ok (.istore_n 3, 1) := by decide +kernel
theorem d7_10 : decode prog_11_method_5_code 10 = .ok (.iload_n 3, 1) := by decide +kernel
theorem d7_11 : decode prog_11_method_5_code 11 = .ok (.iload_n 2, 1) := by decide +kernel
theorem d7_12 : decode prog_11_method_5_code 12 = .ok (.if_icmp .ge 28, 3) := by decide +kernel
theorem d7_15 : decode prog_11_method_5_code 15 = .ok (.aload_n 1, 1) := by decide +kernel
theorem d7_16 : decode prog_11_method_5_code 16 = .ok (.iload_n 3, 1) := by decide +kernel
theorem d7_17 : decode prog_11_method_5_code 17 = .ok (.laload, 1) := by decide +kernel
theorem d7_18 : decode prog_11_method_5_code 18 = .ok (.lstore 4, 2) := by decide +kernel
theorem d7_20 : decode prog_11_method_5_code 20 = .ok (.lload 4, 2) := by decide +kernel
theorem d7_22 : decode prog_11_method_5_code 22 = .ok (.aload_n 0, 1) := by decide +kernel
theorem d7_23 : decode prog_11_method_5_code 23 = .ok (.getfield 58, 3) := by decide +kernel
theorem d7_26 : decode prog_11_method_5_code 26 = .ok (.iconst 0, 1) := by decide +kernel
theorem d7_27 : decode prog_11_method_5_code 27 = .ok (.laload, 1) := by decide +kernel
theorem d7_28 : decode prog_11_method_5_code 28 = .ok (.lcmp, 1) := by decide +kernel
theorem d7_29 : decode prog_11_method_5_code 29 = .ok (.ifCond .eq 5, 3) := by decide +kernel
theorem d7_34 : decode prog_11_method_5_code 34 = .ok (.iinc 3 1, 3) := by decide +kernel
theorem d7_37 : decode prog_11_method_5_code 37 = .ok (.goto (-27), 3) := by decide +kernel
theorem d7_40 : decode prog_11_method_5_code 40 = .ok (.iconst 1, 1) := by decide +kernel
theorem d7_41 : decode prog_11_method_5_code 41 = .ok (.ireturn, 1) := by decide +kernel
theorem d7_32 : decode prog_11_method_5_code 32 = .ok (.iconst 0, 1) := by decide +kernel
theorem d7_33 : decode prog_11_method_5_code 33 = .ok (.ireturn, 1) := by decide +kernel
set_option maxRecDepth 65536 in
set_option maxHeartbeats 40000000 in
theorem c_eq1 (l : Launch) (Z : State) (a0 : Array Value) (hw : ∀ d ∈ tables_1, d.before a0 Z = true) (n0 : Nat) (h : Heap) (a : Addr) (c : Addr) (x0 : Int64) (P1 : Exa Z h a "com/example/odograph/odograph/model/Instance") (P2 : Fld Z h a "com/example/odograph/odograph/model/Instance" "weights" "[J" (.ref c)) (P3 : Ary Z h c .long [(.long x0)]) : MeetsW l Z n0 (⟨"com/example/odograph/odograph/model/Instance", "equalWeights", "()Z"⟩ : MethodName) prog_11_method_5_code 6 (some .boolean) ({ frames := 0, cells := 0, slots := 0, locals := 0 } : Room) #[(.ref a)] h (fun v h' => v = some (.int (b2 (x0.toInt = x0.toInt))) ∧ h = h') := by
  refine MeetsW.intro (plainFor_of_name pn_com_example_odograph_odograph_model_Instance) (L0 := #[.val (.ref a), .unset, .unset, .unset, .unset, .unset]) (fun m => by first | (simp [entryFrame, mkF, argsToLocals, Value.category]; done) | rfl) ?_
  intro m G K0
  have K : Cx l ({ frames := 0, cells := 0, slots := 0, locals := 0 } : Room) Z n0 _ "com/example/odograph/odograph/model/Instance" "equalWeights" prog_11_method_5_code 6 (some .boolean) m G := K0
  refine K.aloadN d7_0 (pc' := 1) rfl rfl rfl ?_
  refine K.getf d7_1 (pc' := 4) rfl (host := "") (Or.inl (hw _ (List.mem_of_getElem? (i := 44) rfl))) Via.refl P2 ?_
  refine K.astoreN d7_4 (pc' := 5) rfl rfl (L' := #[.val (.ref a), .val (.ref c), .unset, .unset, .unset, .unset]) rfl ?_
  refine K.aloadN d7_5 (pc' := 6) rfl rfl rfl ?_
  refine K.alen d7_6 (pc' := 7) rfl P3 (fun z6 e_z6 => ?_)
  have t_z6 : z6.toInt = 1 := e_z6
  refine K.istoreN d7_7 (pc' := 8) rfl (L' := #[.val (.ref a), .val (.ref c), .val (.int z6), .unset, .unset, .unset]) rfl ?_
  refine K.iconst d7_8 (pc' := 9) rfl (z := 0) rfl ?_
  refine K.istoreN d7_9 (pc' := 10) rfl (L' := #[.val (.ref a), .val (.ref c), .val (.int z6), .val (.int (0 : Int32)), .unset, .unset]) rfl ?_
  refine K.iloadN d7_10 (pc' := 11) rfl rfl ?_
  refine K.iloadN d7_11 (pc' := 12) rfl rfl ?_
  refine K.icmp_ge d7_12 (pc1 := 15) rfl (by decide) (pc2 := 40) (by decide) (a := 0) (b := z6.toInt) rfl rfl (fun c12 => ?_) (fun c12 => ?_)
  · exfalso; omega
  · refine K.aloadN d7_15 (pc' := 16) rfl rfl rfl ?_
    refine K.iloadN d7_16 (pc' := 17) rfl rfl ?_
    refine K.lald d7_17 (pc' := 18) rfl P3 (i := 0) rfl rfl ?_
    refine K.lstore d7_18 (pc' := 20) rfl (L' := #[.val (.ref a), .val (.ref c), .val (.int z6), .val (.int (0 : Int32)), .val (.long x0), .second]) rfl ?_
    refine K.lload d7_20 (pc' := 22) rfl rfl ?_
    refine K.aloadN d7_22 (pc' := 23) rfl rfl rfl ?_
    refine K.getf d7_23 (pc' := 26) rfl (host := "") (Or.inl (hw _ (List.mem_of_getElem? (i := 44) rfl))) Via.refl P2 ?_
    refine K.iconst d7_26 (pc' := 27) rfl (z := 0) rfl ?_
    refine K.lald d7_27 (pc' := 28) rfl P3 (i := 0) rfl rfl ?_
    refine K.lcmp_eq d7_28 d7_29 (pc1 := 32) rfl (by decide) (pc2 := 34) (by decide) (a := x0.toInt) (b := x0.toInt) rfl rfl (fun c28 => ?_) (fun c28 => ?_)
    · refine K.iinc d7_34 (pc' := 37) rfl rfl (z := (1 : Int32)) rfl (L' := #[.val (.ref a), .val (.ref c), .val (.int z6), .val (.int (1 : Int32)), .val (.long x0), .second]) rfl ?_
      refine K.goto d7_37 (by decide) (pc' := 10) (by decide) ?_
      refine K.iloadN d7_10 (pc' := 11) rfl rfl ?_
      refine K.iloadN d7_11 (pc' := 12) rfl rfl ?_
      refine K.icmp_ge d7_12 (pc1 := 15) rfl (by decide) (pc2 := 40) (by decide) (a := 1) (b := z6.toInt) rfl rfl (fun c12_1 => ?_) (fun c12_1 => ?_)
      · refine K.iconst d7_40 (pc' := 41) rfl (z := 1) rfl ?_
        exact K.retz d7_41 (Or.inr rfl) (by decide) (by decide) ⟨by rw [b2_t (by omega)], rfl⟩
      · exfalso; omega
    · refine K.iconst d7_32 (pc' := 33) rfl (z := 0) rfl ?_
      exact K.retz d7_33 (Or.inl rfl) (by decide) (by decide) ⟨by rw [b2_f (by omega)], rfl⟩
set_option maxRecDepth 65536 in
set_option maxHeartbeats 40000000 in
theorem c_in2 (l : Launch) (Z : State) (a0 : Array Value) (hw : ∀ d ∈ tables_1, d.before a0 Z = true) (n0 : Nat) (h : Heap) (a : Addr) (b : Addr) (r : Addr) (x0 : Int64) (x1 : Int64) (P1 : Exa Z h a "com/example/odograph/odograph/model/Instance") (Z0 : n0 ≤ h.size) (P3 : n0 ≤ a) (P4 : b ≠ a) (P5 : Ary Z h b .long [(.long x0), (.long x1)]) (P6 : Exa Z h b "[J") (P7 : Fld Z h a "com/example/odograph/odograph/model/Instance" "weights" "[J" .null) (P8 : Fld Z h a "com/example/odograph/odograph/model/Instance" "start" "[J" .null) (P9 : Fld Z h a "com/example/odograph/odograph/model/Instance" "requests" "Lcom/example/odograph/odograph/model/Requests;" .null) (hx0 : 0 < x0.toInt) (hx1 : 0 < x1.toInt) : MeetsW l Z n0 (⟨"com/example/odograph/odograph/model/Instance", "<init>", "([J[JLcom/example/odograph/odograph/model/Requests;)V"⟩ : MethodName) prog_11_method_2_code 5 none ({ frames := 1, cells := 1, slots := 2, locals := 15 } : Room) #[(.ref a), (.ref b), .null, (.ref r)] h (fun v h' => ∃ (c : Addr), v = none ∧ Keep h h' [a] ∧ h.size ≤ c ∧ Fld Z h' a "com/example/odograph/odograph/model/Instance" "weights" "[J" (.ref c) ∧ Ary Z h' c .long [(.long x0), (.long x1)]) := by
  refine MeetsW.intro (plainFor_of_name pn_com_example_odograph_odograph_model_Instance) (L0 := #[.val (.ref a), .val (.ref b), .val .null, .val (.ref r), .unset]) (fun m => by first | (simp [entryFrame, mkF, argsToLocals, Value.category]; done) | rfl) ?_
  intro m G K0
  have K : Cx l ({ frames := 1, cells := 1, slots := 2, locals := 15 } : Room) Z n0 _ "com/example/odograph/odograph/model/Instance" "<init>" prog_11_method_2_code 5 none m G := K0
  refine K.aloadN d6_0 (pc' := 1) rfl rfl rfl ?_
  refine K.init0 d6_1 (pc' := 4) rfl (hw _ (List.mem_of_getElem? (i := 41) rfl)) (hw _ (List.mem_of_getElem? (i := 32) rfl)) (hw _ (List.mem_of_getElem? (i := 33) rfl)) rfl (by decide) (W := 0) (by simp [Value.category]) (by decide) ?_
  refine K.aloadN d6_4 (pc' := 5) rfl rfl rfl ?_
  refine K.alen d6_5 (pc' := 6) rfl P5 (fun z5 e_z5 => ?_)
  have t_z5 : z5.toInt = 2 := e_z5
  refine K.if_ne d6_6 (pc1 := 9) rfl (by decide) (pc2 := 19) (by decide) (a := z5.toInt) rfl (fun c6 => ?_) (fun c6 => ?_)
  · refine K.iconst d6_19 (pc' := 20) rfl (z := 0) rfl ?_
    refine K.istore d6_20 (pc' := 22) rfl (L' := #[.val (.ref a), .val (.ref b), .val .null, .val (.ref r), .val (.int (0 : Int32))]) rfl ?_
    refine K.iload d6_22 (pc' := 24) rfl rfl ?_
    refine K.aloadN d6_24 (pc' := 25) rfl rfl rfl ?_
    refine K.alen d6_25 (pc' := 26) rfl P5 (fun z25 e_z25 => ?_)
    have t_z25 : z25.toInt = 2 := e_z25
    refine K.icmp_ge d6_26 (pc1 := 29) rfl (by decide) (pc2 := 81) (by decide) (a := 0) (b := z25.toInt) rfl rfl (fun c26 => ?_) (fun c26 => ?_)
    · exfalso; omega
    · refine K.aloadN d6_29 (pc' := 30) rfl rfl rfl ?_
      refine K.iload d6_30 (pc' := 32) rfl rfl ?_
      refine K.lald d6_32 (pc' := 33) rfl P5 (i := 0) rfl rfl ?_
      refine K.lconst d6_33 (pc' := 34) rfl (z := 0) rfl ?_
      refine K.lcmp_gt d6_34 d6_35 (pc1 := 38) rfl (by decide) (pc2 := 75) (by decide) (a := x0.toInt) (b := 0) rfl rfl (fun c34 => ?_) (fun c34 => ?_)
      · refine K.iinc d6_75 (pc' := 78) rfl rfl (z := (1 : Int32)) rfl (L' := #[.val (.ref a), .val (.ref b), .val .null, .val (.ref r), .val (.int (1 : Int32))]) rfl ?_
        refine K.goto d6_78 (by decide) (pc' := 22) (by decide) ?_
        refine K.iload d6_22 (pc' := 24) rfl rfl ?_
        refine K.aloadN d6_24 (pc' := 25) rfl rfl rfl ?_
        refine K.alen d6_25 (pc' := 26) rfl P5 (fun z25_1 e_z25_1 => ?_)
        have t_z25_1 : z25_1.toInt = 2 := e_z25_1
        refine K.icmp_ge d6_26 (pc1 := 29) rfl (by decide) (pc2 := 81) (by decide) (a := 1) (b := z25_1.toInt) rfl rfl (fun c26_1 => ?_) (fun c26_1 => ?_)
        · exfalso; omega
        · refine K.aloadN d6_29 (pc' := 30) rfl rfl rfl ?_
          refine K.iload d6_30 (pc' := 32) rfl rfl ?_
          refine K.lald d6_32 (pc' := 33) rfl P5 (i := 1) rfl rfl ?_
          refine K.lconst d6_33 (pc' := 34) rfl (z := 0) rfl ?_
          refine K.lcmp_gt d6_34 d6_35 (pc1 := 38) rfl (by decide) (pc2 := 75) (by decide) (a := x1.toInt) (b := 0) rfl rfl (fun c34_1 => ?_) (fun c34_1 => ?_)
          · refine K.iinc d6_75 (pc' := 78) rfl rfl (z := (2 : Int32)) rfl (L' := #[.val (.ref a), .val (.ref b), .val .null, .val (.ref r), .val (.int (2 : Int32))]) rfl ?_
            refine K.goto d6_78 (by decide) (pc' := 22) (by decide) ?_
            refine K.iload d6_22 (pc' := 24) rfl rfl ?_
            refine K.aloadN d6_24 (pc' := 25) rfl rfl rfl ?_
            refine K.alen d6_25 (pc' := 26) rfl P5 (fun z25_2 e_z25_2 => ?_)
            have t_z25_2 : z25_2.toInt = 2 := e_z25_2
            refine K.icmp_ge d6_26 (pc1 := 29) rfl (by decide) (pc2 := 81) (by decide) (a := 2) (b := z25_2.toInt) rfl rfl (fun c26_2 => ?_) (fun c26_2 => ?_)
            · refine K.aloadN d6_81 (pc' := 82) rfl rfl rfl ?_
              refine K.ifnull0 d6_82 (by decide) (pc2 := 125) (by decide) ?_
              refine K.iconst d6_125 (pc' := 126) rfl (z := 0) rfl ?_
              refine K.istore d6_126 (pc' := 128) rfl (L' := #[.val (.ref a), .val (.ref b), .val .null, .val (.ref r), .val (.int (0 : Int32))]) rfl ?_
              refine K.iload d6_128 (pc' := 130) rfl rfl ?_
              refine K.aloadN d6_130 (pc' := 131) rfl rfl rfl ?_
              refine K.alen d6_131 (pc' := 132) rfl P5 (fun z131 e_z131 => ?_)
              have t_z131 : z131.toInt = 2 := e_z131
              refine K.icmp_ge d6_132 (pc1 := 135) rfl (by decide) (pc2 := 154) (by decide) (a := 0) (b := z131.toInt) rfl rfl (fun c132 => ?_) (fun c132 => ?_)
              · exfalso; omega
              · refine K.aloadN d6_135 (pc' := 136) rfl rfl rfl ?_
                refine K.ifnull0 d6_136 (by decide) (pc2 := 154) (by decide) ?_
                refine K.aloadN d6_154 (pc' := 155) rfl rfl rfl ?_
                refine K.aloadN d6_155 (pc' := 156) rfl rfl rfl ?_
                refine K.clone (.long (0 : Int64)) d6_156 (pc' := 159) rfl (hw _ (List.mem_of_getElem? (i := 42) rfl)) (hw _ (List.mem_of_getElem? (i := 20) rfl)) (hw _ (List.mem_of_getElem? (i := 24) rfl)) (hw _ (List.mem_of_getElem? (i := 22) rfl)) (hw _ (List.mem_of_getElem? (i := 23) rfl)) (hw _ (List.mem_of_getElem? (i := 25) rfl)) P5 P6 (by simp [fits]) rfl rfl (by decide) (W := 1) (by simp [Value.category]) (by decide) (cap := 2) (by simp) (by decide) (by decide) (fun h_1 o_4 g_o_4 E_2 A_3 x_o_4 => ?_)
                have ne_a_o_4 : a ≠ o_4 := Nat.ne_of_lt (g_o_4 ▸ P1.lt)
                have ne_b_o_4 : b ≠ o_4 := Nat.ne_of_lt (g_o_4 ▸ P5.lt)
                have ge_o_4 : n0 ≤ o_4 := g_o_4 ▸ Z0
                have sb_o_4 : h.size ≤ o_4 := g_o_4 ▸ (Keep.refl h [a]).1
                have f_5 : Exa Z h_1 a "com/example/odograph/odograph/model/Instance" := P1.ext E_2
                have f_6 : Ary Z h_1 b .long [(.long x0), (.long x1)] := P5.ext E_2
                have f_7 : Exa Z h_1 b "[J" := P6.ext E_2
                have f_8 : Fld Z h_1 a "com/example/odograph/odograph/model/Instance" "weights" "[J" .null := P7.ext E_2
                have f_9 : Fld Z h_1 a "com/example/odograph/odograph/model/Instance" "start" "[J" .null := P8.ext E_2
                have f_10 : Fld Z h_1 a "com/example/odograph/odograph/model/Instance" "requests" "Lcom/example/odograph/odograph/model/Requests;" .null := P9.ext E_2
                have kp_11 : Keep h h_1 [a] := (Keep.refl h [a]).ext E_2
                have sz_12 : n0 ≤ h_1.size := Nat.le_trans Z0 E_2.1
                refine K.ccast d6_159 (pc' := 162) rfl (hw _ (List.mem_of_getElem? (i := 43) rfl)) (Ins.self x_o_4) ?_
                refine K.putf d6_162 (pc' := 165) rfl (host := "") (Or.inl (hw _ (List.mem_of_getElem? (i := 44) rfl))) Via.refl f_8 f_5 (Or.inr ⟨(hw _ (List.mem_of_getElem? (i := 45) rfl)), rfl, rfl⟩) (hw _ (List.mem_of_getElem? (i := 7) rfl)) (ty := (.array .long)) (by decide) rfl rfl P3 (fun h_13 W_14 => ?_)
                have f_15 : Exa Z h_13 a "com/example/odograph/odograph/model/Instance" := f_5.wr W_14
                have f_16 : Ary Z h_13 b .long [(.long x0), (.long x1)] := f_6.other W_14 P4
                have f_17 : Exa Z h_13 b "[J" := f_7.wr W_14
                have f_18 : Fld Z h_13 a "com/example/odograph/odograph/model/Instance" "weights" "[J" (.ref o_4) := f_8.same W_14
                have f_19 : Fld Z h_13 a "com/example/odograph/odograph/model/Instance" "start" "[J" .null := f_9.other W_14 (Or.inr (slot_ne (Or.inr (hw _ (List.mem_of_getElem? (i := 47) rfl))) (Or.inr (hw _ (List.mem_of_getElem? (i := 45) rfl))) (by decide) (t := (.array .long)) (t' := (.array .long)) (by decide) (by decide)))
                have f_20 : Fld Z h_13 a "com/example/odograph/odograph/model/Instance" "requests" "Lcom/example/odograph/odograph/model/Requests;" .null := f_10.other W_14 (Or.inr (slot_ne (Or.inr (hw _ (List.mem_of_getElem? (i := 49) rfl))) (Or.inr (hw _ (List.mem_of_getElem? (i := 45) rfl))) (by decide) (t := (.object "com/example/odograph/odograph/model/Requests")) (t' := (.array .long)) (by decide) (by decide)))
                have f_21 : Ary Z h_13 o_4 .long [(.long x0), (.long x1)] := A_3.other W_14 (Ne.symm ne_a_o_4)
                have f_22 : Exa Z h_13 o_4 "[J" := x_o_4.wr W_14
                have kp_23 : Keep h h_13 [a] := kp_11.wr W_14 (Or.inl (by simp))
                have sz_24 : n0 ≤ h_13.size := Nat.le_trans sz_12 (Keep.of_wr W_14).1
                refine K.aloadN d6_165 (pc' := 166) rfl rfl rfl ?_
                refine K.aloadN d6_166 (pc' := 167) rfl rfl rfl ?_
                refine K.ifnonnull0 d6_167 (pc' := 170) rfl ?_
                refine K.anull d6_170 (pc' := 171) rfl ?_
                refine K.goto d6_171 (by decide) (pc' := 181) (by decide) ?_
                refine K.putf d6_181 (pc' := 184) rfl (host := "") (Or.inl (hw _ (List.mem_of_getElem? (i := 46) rfl))) Via.refl f_19 f_15 (Or.inr ⟨(hw _ (List.mem_of_getElem? (i := 47) rfl)), rfl, rfl⟩) (hw _ (List.mem_of_getElem? (i := 7) rfl)) (ty := (.array .long)) (by decide) rfl rfl P3 (fun h_25 W_26 => ?_)
                have f_27 : Exa Z h_25 a "com/example/odograph/odograph/model/Instance" := f_15.wr W_26
                have f_28 : Ary Z h_25 b .long [(.long x0), (.long x1)] := f_16.other W_26 P4
                have f_29 : Exa Z h_25 b "[J" := f_17.wr W_26
                have f_30 : Fld Z h_25 a "com/example/odograph/odograph/model/Instance" "weights" "[J" (.ref o_4) := f_18.other W_26 (Or.inr (slot_ne (Or.inr (hw _ (List.mem_of_getElem? (i := 45) rfl))) (Or.inr (hw _ (List.mem_of_getElem? (i := 47) rfl))) (by decide) (t := (.array .long)) (t' := (.array .long)) (by decide) (by decide)))
                have f_31 : Fld Z h_25 a "com/example/odograph/odograph/model/Instance" "start" "[J" .null := f_19.same W_26
                have f_32 : Fld Z h_25 a "com/example/odograph/odograph/model/Instance" "requests" "Lcom/example/odograph/odograph/model/Requests;" .null := f_20.other W_26 (Or.inr (slot_ne (Or.inr (hw _ (List.mem_of_getElem? (i := 49) rfl))) (Or.inr (hw _ (List.mem_of_getElem? (i := 47) rfl))) (by decide) (t := (.object "com/example/odograph/odograph/model/Requests")) (t' := (.array .long)) (by decide) (by decide)))
                have f_33 : Ary Z h_25 o_4 .long [(.long x0), (.long x1)] := f_21.other W_26 (Ne.symm ne_a_o_4)
                have f_34 : Exa Z h_25 o_4 "[J" := f_22.wr W_26
                have kp_35 : Keep h h_25 [a] := kp_23.wr W_26 (Or.inl (by simp))
                have sz_36 : n0 ≤ h_25.size := Nat.le_trans sz_24 (Keep.of_wr W_26).1
                refine K.aloadN d6_184 (pc' := 185) rfl rfl rfl ?_
                refine K.aloadN d6_185 (pc' := 186) rfl rfl rfl ?_
                refine K.putf d6_186 (pc' := 189) rfl (host := "") (Or.inl (hw _ (List.mem_of_getElem? (i := 48) rfl))) Via.refl f_32 f_27 (Or.inr ⟨(hw _ (List.mem_of_getElem? (i := 49) rfl)), rfl, rfl⟩) (hw _ (List.mem_of_getElem? (i := 7) rfl)) (ty := (.object "com/example/odograph/odograph/model/Requests")) (by decide) rfl rfl P3 (fun h_37 W_38 => ?_)
                have f_39 : Exa Z h_37 a "com/example/odograph/odograph/model/Instance" := f_27.wr W_38
                have f_40 : Ary Z h_37 b .long [(.long x0), (.long x1)] := f_28.other W_38 P4
                have f_41 : Exa Z h_37 b "[J" := f_29.wr W_38
                have f_42 : Fld Z h_37 a "com/example/odograph/odograph/model/Instance" "weights" "[J" (.ref o_4) := f_30.other W_38 (Or.inr (slot_ne (Or.inr (hw _ (List.mem_of_getElem? (i := 45) rfl))) (Or.inr (hw _ (List.mem_of_getElem? (i := 49) rfl))) (by decide) (t := (.array .long)) (t' := (.object "com/example/odograph/odograph/model/Requests")) (by decide) (by decide)))
                have f_43 : Fld Z h_37 a "com/example/odograph/odograph/model/Instance" "start" "[J" .null := f_31.other W_38 (Or.inr (slot_ne (Or.inr (hw _ (List.mem_of_getElem? (i := 47) rfl))) (Or.inr (hw _ (List.mem_of_getElem? (i := 49) rfl))) (by decide) (t := (.array .long)) (t' := (.object "com/example/odograph/odograph/model/Requests")) (by decide) (by decide)))
                have f_44 : Fld Z h_37 a "com/example/odograph/odograph/model/Instance" "requests" "Lcom/example/odograph/odograph/model/Requests;" (.ref r) := f_32.same W_38
                have f_45 : Ary Z h_37 o_4 .long [(.long x0), (.long x1)] := f_33.other W_38 (Ne.symm ne_a_o_4)
                have f_46 : Exa Z h_37 o_4 "[J" := f_34.wr W_38
                have kp_47 : Keep h h_37 [a] := kp_35.wr W_38 (Or.inl (by simp))
                have sz_48 : n0 ≤ h_37.size := Nat.le_trans sz_36 (Keep.of_wr W_38).1
                exact K.ret0 d6_189 (by decide) (by decide) ⟨o_4, rfl, kp_47, sb_o_4, f_42, f_45⟩
            · exfalso; omega
          · exfalso; omega
      · exfalso; omega
  · exfalso; omega
set_option maxRecDepth 65536 in
set_option maxHeartbeats 40000000 in
theorem c_inst2 (l : Launch) (Z : State) (a0 : Array Value) (hw : ∀ d ∈ tables_1, d.before a0 Z = true) (n0 : Nat) (h : Heap) (a : Addr) (b : Addr) (d : Addr) (x0 : Int64) (x1 : Int64) (P1 : Exa Z h a "com/example/odograph/odograph/model/Instance") (Z0 : n0 ≤ h.size) (P3 : n0 ≤ a) (P4 : b ≠ a) (P5 : d ≠ a) (P6 : Ary Z h b .long [(.long x0), (.long x1)]) (P7 : Exa Z h b "[J") (P8 : Ary Z h d .long []) (P9 : Exa Z h d "[J") (P10 : Fld Z h a "com/example/odograph/odograph/model/Instance" "weights" "[J" .null) (P11 : Fld Z h a "com/example/odograph/odograph/model/Instance" "start" "[J" .null) (P12 : Fld Z h a "com/example/odograph/odograph/model/Instance" "requests" "Lcom/example/odograph/odograph/model/Requests;" .null) (hx0 : 0 < x0.toInt) (hx1 : 0 < x1.toInt) : MeetsW l Z n0 (⟨"com/example/odograph/odograph/model/Instance", "<init>", "([J[J[J)V"⟩ : MethodName) prog_11_method_1_code 4 none ({ frames := 3, cells := 4, slots := 5, locals := 44 } : Room) #[(.ref a), (.ref b), .null, (.ref d)] h (fun v h' => ∃ (c : Addr), v = none ∧ Keep h h' [a] ∧ h.size ≤ c ∧ Fld Z h' a "com/example/odograph/odograph/model/Instance" "weights" "[J" (.ref c) ∧ Ary Z h' c .long [(.long x0), (.long x1)]) := by
  refine MeetsW.intro (plainFor_of_name pn_com_example_odograph_odograph_model_Instance) (L0 := #[.val (.ref a), .val (.ref b), .val .null, .val (.ref d)]) (fun m => by first | (simp [entryFrame, mkF, argsToLocals, Value.category]; done) | rfl) ?_
  intro m G K0
  have K : Cx l ({ frames := 3, cells := 4, slots := 5, locals := 44 } : Room) Z n0 _ "com/example/odograph/odograph/model/Instance" "<init>" prog_11_method_1_code 4 none m G := K0
  refine K.aloadN d2_0 (pc' := 1) rfl rfl rfl ?_
  refine K.aloadN d2_1 (pc' := 2) rfl rfl rfl ?_
  refine K.aloadN d2_2 (pc' := 3) rfl rfl rfl ?_
  refine K.aloadN d2_3 (pc' := 4) rfl rfl rfl ?_
  refine K.calls (argsL := [(.ref d)]) (rest := [.null, (.ref b), (.ref a)]) d2_4 (pc' := 7) rfl (c_of l Z a0 hw n0 h (a := d) Z0 P8 P9) (hw _ (List.mem_of_getElem? (i := 12) rfl)) (hw _ (List.mem_of_getElem? (i := 13) rfl)) (hw _ (List.mem_of_getElem? (i := 14) rfl)) (hw _ (List.mem_of_getElem? (i := 15) rfl)) (by decide) pd_1 rfl rfl (W := 3) (by simp [Value.category]) (by decide) (by decide) (by decide) (by decide) (fun v_3 h_1 q_2 => ?_)
  obtain ⟨w_4, rfl, K_5⟩ := q_2
  have f_6 : Exa Z h_1 a "com/example/odograph/odograph/model/Instance" := P1.keep K_5
  have f_7 : Ary Z h_1 b .long [(.long x0), (.long x1)] := P6.keep K_5 nin0
  have f_8 : Exa Z h_1 b "[J" := P7.keep K_5
  have f_9 : Ary Z h_1 d .long [] := P8.keep K_5 nin0
  have f_10 : Exa Z h_1 d "[J" := P9.keep K_5
  have f_11 : Fld Z h_1 a "com/example/odograph/odograph/model/Instance" "weights" "[J" .null := P10.keep K_5 nin0
  have f_12 : Fld Z h_1 a "com/example/odograph/odograph/model/Instance" "start" "[J" .null := P11.keep K_5 nin0
  have f_13 : Fld Z h_1 a "com/example/odograph/odograph/model/Instance" "requests" "Lcom/example/odograph/odograph/model/Requests;" .null := P12.keep K_5 nin0
  have kp_14 : Keep h h_1 [a] := (Keep.refl h [a]).trans K_5 all0
  have sz_15 : n0 ≤ h_1.size := Nat.le_trans Z0 K_5.1
  show G h_1 3 3 (mkF m 7 #[.val (.ref a), .val (.ref b), .val .null, .val (.ref d)] [(.ref w_4), .null, (.ref b), (.ref a)])
  refine K.callc (argsL := [(.ref b), .null, (.ref w_4)]) (rest := []) d2_7 (pc' := 10) rfl rfl (c_in2 l Z a0 hw n0 h_1 (a := a) (b := b) (r := w_4) (x0 := x0) (x1 := x1) f_6 sz_15 P3 P4 f_7 f_8 f_11 f_12 f_13 (by omega) (by omega)) (hw _ (List.mem_of_getElem? (i := 38) rfl)) (hw _ (List.mem_of_getElem? (i := 39) rfl)) (hw _ (List.mem_of_getElem? (i := 8) rfl)) (hw _ (List.mem_of_getElem? (i := 40) rfl)) (by decide) pd_2 rfl rfl (W := 0) (by simp [Value.category]) (by decide) (by decide) (by decide) (by decide) (fun v_18 h_16 q_17 => ?_)
  obtain ⟨c_20, rfl, K_21, f_22, f_23, f_24⟩ := q_17
  have ne_a_c_20 : a ≠ c_20 := Nat.ne_of_lt (Nat.lt_of_lt_of_le f_6.lt f_22)
  have ne_b_c_20 : b ≠ c_20 := Nat.ne_of_lt (Nat.lt_of_lt_of_le f_7.lt f_22)
  have ne_d_c_20 : d ≠ c_20 := Nat.ne_of_lt (Nat.lt_of_lt_of_le f_9.lt f_22)
  have sb_c_20 : h.size ≤ c_20 := Nat.le_trans kp_14.1 f_22
  have f_25 : Exa Z h_16 a "com/example/odograph/odograph/model/Instance" := f_6.keep K_21
  have f_26 : Ary Z h_16 b .long [(.long x0), (.long x1)] := f_7.keep K_21 (ninS P4 nin0)
  have f_27 : Exa Z h_16 b "[J" := f_8.keep K_21
  have f_28 : Ary Z h_16 d .long [] := f_9.keep K_21 (ninS P5 nin0)
  have f_29 : Exa Z h_16 d "[J" := f_10.keep K_21
  have kp_33 : Keep h h_16 [a] := kp_14.trans K_21 (allS (Or.inl (by simp)) all0)
  have sz_34 : n0 ≤ h_16.size := Nat.le_trans sz_15 K_21.1
  show G h_16 4 5 (mkF m 10 #[.val (.ref a), .val (.ref b), .val .null, .val (.ref d)] [])
  exact K.ret0 d2_10 (by decide) (by decide) ⟨c_20, rfl, kp_33, sb_c_20, f_23, f_24⟩
set_option maxRecDepth 65536 in
set_option maxHeartbeats 40000000 in
theorem c_eq2 (l : Launch) (Z : State) (a0 : Array Value) (hw : ∀ d ∈ tables_1, d.before a0 Z = true) (n0 : Nat) (h : Heap) (a : Addr) (c : Addr) (x0 : Int64) (x1 : Int64) (P1 : Exa Z h a "com/example/odograph/odograph/model/Instance") (P2 : Fld Z h a "com/example/odograph/odograph/model/Instance" "weights" "[J" (.ref c)) (P3 : Ary Z h c .long [(.long x0), (.long x1)]) : MeetsW l Z n0 (⟨"com/example/odograph/odograph/model/Instance", "equalWeights", "()Z"⟩ : MethodName) prog_11_method_5_code 6 (some .boolean) ({ frames := 0, cells := 0, slots := 0, locals := 0 } : Room) #[(.ref a)] h (fun v h' => v = some (.int (b2 (x0.toInt = x0.toInt ∧ x1.toInt = x0.toInt))) ∧ h = h') := by
  refine MeetsW.intro (plainFor_of_name pn_com_example_odograph_odograph_model_Instance) (L0 := #[.val (.ref a), .unset, .unset, .unset, .unset, .unset]) (fun m => by first | (simp [entryFrame, mkF, argsToLocals, Value.category]; done) | rfl) ?_
  intro m G K0
  have K : Cx l ({ frames := 0, cells := 0, slots := 0, locals := 0 } : Room) Z n0 _ "com/example/odograph/odograph/model/Instance" "equalWeights" prog_11_method_5_code 6 (some .boolean) m G := K0
  refine K.aloadN d7_0 (pc' := 1) rfl rfl rfl ?_
  refine K.getf d7_1 (pc' := 4) rfl (host := "") (Or.inl (hw _ (List.mem_of_getElem? (i := 44) rfl))) Via.refl P2 ?_
  refine K.astoreN d7_4 (pc' := 5) rfl rfl (L' := #[.val (.ref a), .val (.ref c), .unset, .unset, .unset, .unset]) rfl ?_
  refine K.aloadN d7_5 (pc' := 6) rfl rfl rfl ?_
  refine K.alen d7_6 (pc' := 7) rfl P3 (fun z6 e_z6 => ?_)
  have t_z6 : z6.toInt = 2 := e_z6
  refine K.istoreN d7_7 (pc' := 8) rfl (L' := #[.val (.ref a), .val (.ref c), .val (.int z6), .unset, .unset, .unset]) rfl ?_
  refine K.iconst d7_8 (pc' := 9) rfl (z := 0) rfl ?_
  refine K.istoreN d7_9 (pc' := 10) rfl (L' := #[.val (.ref a), .val (.ref c), .val (.int z6), .val (.int (0 : Int32)), .unset, .unset]) rfl ?_
  refine K.iloadN d7_10 (pc' := 11) rfl rfl ?_
  refine K.iloadN d7_11 (pc' := 12) rfl rfl ?_
  refine K.icmp_ge d7_12 (pc1 := 15) rfl (by decide) (pc2 := 40) (by decide) (a := 0) (b := z6.toInt) rfl rfl (fun c12 => ?_) (fun c12 => ?_)
  · exfalso; omega
  · refine K.aloadN d7_15 (pc' := 16) rfl rfl rfl ?_
    refine K.iloadN d7_16 (pc' := 17) rfl rfl ?_
    refine K.lald d7_17 (pc' := 18) rfl P3 (i := 0) rfl rfl ?_
    refine K.lstore d7_18 (pc' := 20) rfl (L' := #[.val (.ref a), .val (.ref c), .val (.int z6), .val (.int (0 : Int32)), .val (.long x0), .second]) rfl ?_
    refine K.lload d7_20 (pc' := 22) rfl rfl ?_
    refine K.aloadN d7_22 (pc' := 23) rfl rfl rfl ?_
    refine K.getf d7_23 (pc' := 26) rfl (host := "") (Or.inl (hw _ (List.mem_of_getElem? (i := 44) rfl))) Via.refl P2 ?_
    refine K.iconst d7_26 (pc' := 27) rfl (z := 0) rfl ?_
    refine K.lald d7_27 (pc' := 28) rfl P3 (i := 0) rfl rfl ?_
    refine K.lcmp_eq d7_28 d7_29 (pc1 := 32) rfl (by decide) (pc2 := 34) (by decide) (a := x0.toInt) (b := x0.toInt) rfl rfl (fun c28 => ?_) (fun c28 => ?_)
    · refine K.iinc d7_34 (pc' := 37) rfl rfl (z := (1 : Int32)) rfl (L' := #[.val (.ref a), .val (.ref c), .val (.int z6), .val (.int (1 : Int32)), .val (.long x0), .second]) rfl ?_
      refine K.goto d7_37 (by decide) (pc' := 10) (by decide) ?_
      refine K.iloadN d7_10 (pc' := 11) rfl rfl ?_
      refine K.iloadN d7_11 (pc' := 12) rfl rfl ?_
      refine K.icmp_ge d7_12 (pc1 := 15) rfl (by decide) (pc2 := 40) (by decide) (a := 1) (b := z6.toInt) rfl rfl (fun c12_1 => ?_) (fun c12_1 => ?_)
      · exfalso; omega
      · refine K.aloadN d7_15 (pc' := 16) rfl rfl rfl ?_
        refine K.iloadN d7_16 (pc' := 17) rfl rfl ?_
        refine K.lald d7_17 (pc' := 18) rfl P3 (i := 1) rfl rfl ?_
        refine K.lstore d7_18 (pc' := 20) rfl (L' := #[.val (.ref a), .val (.ref c), .val (.int z6), .val (.int (1 : Int32)), .val (.long x1), .second]) rfl ?_
        refine K.lload d7_20 (pc' := 22) rfl rfl ?_
        refine K.aloadN d7_22 (pc' := 23) rfl rfl rfl ?_
        refine K.getf d7_23 (pc' := 26) rfl (host := "") (Or.inl (hw _ (List.mem_of_getElem? (i := 44) rfl))) Via.refl P2 ?_
        refine K.iconst d7_26 (pc' := 27) rfl (z := 0) rfl ?_
        refine K.lald d7_27 (pc' := 28) rfl P3 (i := 0) rfl rfl ?_
        refine K.lcmp_eq d7_28 d7_29 (pc1 := 32) rfl (by decide) (pc2 := 34) (by decide) (a := x1.toInt) (b := x0.toInt) rfl rfl (fun c28_1 => ?_) (fun c28_1 => ?_)
        · refine K.iinc d7_34 (pc' := 37) rfl rfl (z := (2 : Int32)) rfl (L' := #[.val (.ref a), .val (.ref c), .val (.int z6), .val (.int (2 : Int32)), .val (.long x1), .second]) rfl ?_
          refine K.goto d7_37 (by decide) (pc' := 10) (by decide) ?_
          refine K.iloadN d7_10 (pc' := 11) rfl rfl ?_
          refine K.iloadN d7_11 (pc' := 12) rfl rfl ?_
          refine K.icmp_ge d7_12 (pc1 := 15) rfl (by decide) (pc2 := 40) (by decide) (a := 2) (b := z6.toInt) rfl rfl (fun c12_2 => ?_) (fun c12_2 => ?_)
          · refine K.iconst d7_40 (pc' := 41) rfl (z := 1) rfl ?_
            exact K.retz d7_41 (Or.inr rfl) (by decide) (by decide) ⟨by rw [b2_t (by omega)], rfl⟩
          · exfalso; omega
        · refine K.iconst d7_32 (pc' := 33) rfl (z := 0) rfl ?_
          exact K.retz d7_33 (Or.inl rfl) (by decide) (by decide) ⟨by rw [b2_f (by omega)], rfl⟩
    · refine K.iconst d7_32 (pc' := 33) rfl (z := 0) rfl ?_
      exact K.retz d7_33 (Or.inl rfl) (by decide) (by decide) ⟨by rw [b2_f (by omega)], rfl⟩
set_option maxRecDepth 65536 in
set_option maxHeartbeats 40000000 in
theorem c_in3 (l : Launch) (Z : State) (a0 : Array Value) (hw : ∀ d ∈ tables_1, d.before a0 Z = true) (n0 : Nat) (h : Heap) (a : Addr) (b : Addr) (r : Addr) (x0 : Int64) (x1 : Int64) (x2 : Int64) (P1 : Exa Z h a "com/example/odograph/odograph/model/Instance") (Z0 : n0 ≤ h.size) (P3 : n0 ≤ a) (P4 : b ≠ a) (P5 : Ary Z h b .long [(.long x0), (.long x1), (.long x2)]) (P6 : Exa Z h b "[J") (P7 : Fld Z h a "com/example/odograph/odograph/model/Instance" "weights" "[J" .null) (P8 : Fld Z h a "com/example/odograph/odograph/model/Instance" "start" "[J" .null) (P9 : Fld Z h a "com/example/odograph/odograph/model/Instance" "requests" "Lcom/example/odograph/odograph/model/Requests;" .null) (hx0 : 0 < x0.toInt) (hx1 : 0 < x1.toInt) (hx2 : 0 < x2.toInt) : MeetsW l Z n0 (⟨"com/example/odograph/odograph/model/Instance", "<init>", "([J[JLcom/example/odograph/odograph/model/Requests;)V"⟩ : MethodName) prog_11_method_2_code 5 none ({ frames := 1, cells := 1, slots := 3, locals := 15 } : Room) #[(.ref a), (.ref b), .null, (.ref r)] h (fun v h' => ∃ (c : Addr), v = none ∧ Keep h h' [a] ∧ h.size ≤ c ∧ Fld Z h' a "com/example/odograph/odograph/model/Instance" "weights" "[J" (.ref c) ∧ Ary Z h' c .long [(.long x0), (.long x1), (.long x2)]) := by
  refine MeetsW.intro (plainFor_of_name pn_com_example_odograph_odograph_model_Instance) (L0 := #[.val (.ref a), .val (.ref b), .val .null, .val (.ref r), .unset]) (fun m => by first | (simp [entryFrame, mkF, argsToLocals, Value.category]; done) | rfl) ?_
  intro m G K0
  have K : Cx l ({ frames := 1, cells := 1, slots := 3, locals := 15 } : Room) Z n0 _ "com/example/odograph/odograph/model/Instance" "<init>" prog_11_method_2_code 5 none m G := K0
  refine K.aloadN d6_0 (pc' := 1) rfl rfl rfl ?_
  refine K.init0 d6_1 (pc' := 4) rfl (hw _ (List.mem_of_getElem? (i := 41) rfl)) (hw _ (List.mem_of_getElem? (i := 32) rfl)) (hw _ (List.mem_of_getElem? (i := 33) rfl)) rfl (by decide) (W := 0) (by simp [Value.category]) (by decide) ?_
  refine K.aloadN d6_4 (pc' := 5) rfl rfl rfl ?_
  refine K.alen d6_5 (pc' := 6) rfl P5 (fun z5 e_z5 => ?_)
  have t_z5 : z5.toInt = 3 := e_z5
  refine K.if_ne d6_6 (pc1 := 9) rfl (by decide) (pc2 := 19) (by decide) (a := z5.toInt) rfl (fun c6 => ?_) (fun c6 => ?_)
  · refine K.iconst d6_19 (pc' := 20) rfl (z := 0) rfl ?_
    refine K.istore d6_20 (pc' := 22) rfl (L' := #[.val (.ref a), .val (.ref b), .val .null, .val (.ref r), .val (.int (0 : Int32))]) rfl ?_
    refine K.iload d6_22 (pc' := 24) rfl rfl ?_
    refine K.aloadN d6_24 (pc' := 25) rfl rfl rfl ?_
    refine K.alen d6_25 (pc' := 26) rfl P5 (fun z25 e_z25 => ?_)
    have t_z25 : z25.toInt = 3 := e_z25
    refine K.icmp_ge d6_26 (pc1 := 29) rfl (by decide) (pc2 := 81) (by decide) (a := 0) (b := z25.toInt) rfl rfl (fun c26 => ?_) (fun c26 => ?_)
    · exfalso; omega
    · refine K.aloadN d6_29 (pc' := 30) rfl rfl rfl ?_
      refine K.iload d6_30 (pc' := 32) rfl rfl ?_
      refine K.lald d6_32 (pc' := 33) rfl P5 (i := 0) rfl rfl ?_
      refine K.lconst d6_33 (pc' := 34) rfl (z := 0) rfl ?_
      refine K.lcmp_gt d6_34 d6_35 (pc1 := 38) rfl (by decide) (pc2 := 75) (by decide) (a := x0.toInt) (b := 0) rfl rfl (fun c34 => ?_) (fun c34 => ?_)
      · refine K.iinc d6_75 (pc' := 78) rfl rfl (z := (1 : Int32)) rfl (L' := #[.val (.ref a), .val (.ref b), .val .null, .val (.ref r), .val (.int (1 : Int32))]) rfl ?_
        refine K.goto d6_78 (by decide) (pc' := 22) (by decide) ?_
        refine K.iload d6_22 (pc' := 24) rfl rfl ?_
        refine K.aloadN d6_24 (pc' := 25) rfl rfl rfl ?_
        refine K.alen d6_25 (pc' := 26) rfl P5 (fun z25_1 e_z25_1 => ?_)
        have t_z25_1 : z25_1.toInt = 3 := e_z25_1
        refine K.icmp_ge d6_26 (pc1 := 29) rfl (by decide) (pc2 := 81) (by decide) (a := 1) (b := z25_1.toInt) rfl rfl (fun c26_1 => ?_) (fun c26_1 => ?_)
        · exfalso; omega
        · refine K.aloadN d6_29 (pc' := 30) rfl rfl rfl ?_
          refine K.iload d6_30 (pc' := 32) rfl rfl ?_
          refine K.lald d6_32 (pc' := 33) rfl P5 (i := 1) rfl rfl ?_
          refine K.lconst d6_33 (pc' := 34) rfl (z := 0) rfl ?_
          refine K.lcmp_gt d6_34 d6_35 (pc1 := 38) rfl (by decide) (pc2 := 75) (by decide) (a := x1.toInt) (b := 0) rfl rfl (fun c34_1 => ?_) (fun c34_1 => ?_)
          · refine K.iinc d6_75 (pc' := 78) rfl rfl (z := (2 : Int32)) rfl (L' := #[.val (.ref a), .val (.ref b), .val .null, .val (.ref r), .val (.int (2 : Int32))]) rfl ?_
            refine K.goto d6_78 (by decide) (pc' := 22) (by decide) ?_
            refine K.iload d6_22 (pc' := 24) rfl rfl ?_
            refine K.aloadN d6_24 (pc' := 25) rfl rfl rfl ?_
            refine K.alen d6_25 (pc' := 26) rfl P5 (fun z25_2 e_z25_2 => ?_)
            have t_z25_2 : z25_2.toInt = 3 := e_z25_2
            refine K.icmp_ge d6_26 (pc1 := 29) rfl (by decide) (pc2 := 81) (by decide) (a := 2) (b := z25_2.toInt) rfl rfl (fun c26_2 => ?_) (fun c26_2 => ?_)
            · exfalso; omega
            · refine K.aloadN d6_29 (pc' := 30) rfl rfl rfl ?_
              refine K.iload d6_30 (pc' := 32) rfl rfl ?_
              refine K.lald d6_32 (pc' := 33) rfl P5 (i := 2) rfl rfl ?_
              refine K.lconst d6_33 (pc' := 34) rfl (z := 0) rfl ?_
              refine K.lcmp_gt d6_34 d6_35 (pc1 := 38) rfl (by decide) (pc2 := 75) (by decide) (a := x2.toInt) (b := 0) rfl rfl (fun c34_2 => ?_) (fun c34_2 => ?_)
              · refine K.iinc d6_75 (pc' := 78) rfl rfl (z := (3 : Int32)) rfl (L' := #[.val (.ref a), .val (.ref b), .val .null, .val (.ref r), .val (.int (3 : Int32))]) rfl ?_
                refine K.goto d6_78 (by decide) (pc' := 22) (by decide) ?_
                refine K.iload d6_22 (pc' := 24) rfl rfl ?_
                refine K.aloadN d6_24 (pc' := 25) rfl rfl rfl ?_
                refine K.alen d6_25 (pc' := 26) rfl P5 (fun z25_3 e_z25_3 => ?_)
                have t_z25_3 : z25_3.toInt = 3 := e_z25_3
                refine K.icmp_ge d6_26 (pc1 := 29) rfl (by decide) (pc2 := 81) (by decide) (a := 3) (b := z25_3.toInt) rfl rfl (fun c26_3 => ?_) (fun c26_3 => ?_)
                · refine K.aloadN d6_81 (pc' := 82) rfl rfl rfl ?_
                  refine K.ifnull0 d6_82 (by decide) (pc2 := 125) (by decide) ?_
                  refine K.iconst d6_125 (pc' := 126) rfl (z := 0) rfl ?_
                  refine K.istore d6_126 (pc' := 128) rfl (L' := #[.val (.ref a), .val (.ref b), .val .null, .val (.ref r), .val (.int (0 : Int32))]) rfl ?_
                  refine K.iload d6_128 (pc' := 130) rfl rfl ?_
                  refine K.aloadN d6_130 (pc' := 131) rfl rfl rfl ?_
                  refine K.alen d6_131 (pc' := 132) rfl P5 (fun z131 e_z131 => ?_)
                  have t_z131 : z131.toInt = 3 := e_z131
                  refine K.icmp_ge d6_132 (pc1 := 135) rfl (by decide) (pc2 := 154) (by decide) (a := 0) (b := z131.toInt) rfl rfl (fun c132 => ?_) (fun c132 => ?_)
                  · exfalso; omega
                  · refine K.aloadN d6_135 (pc' := 136) rfl rfl rfl ?_
                    refine K.ifnull0 d6_136 (by decide) (pc2 := 154) (by decide) ?_
                    refine K.aloadN d6_154 (pc' := 155) rfl rfl rfl ?_
                    refine K.aloadN d6_155 (pc' := 156) rfl rfl rfl ?_
                    refine K.clone (.long (0 : Int64)) d6_156 (pc' := 159) rfl (hw _ (List.mem_of_getElem? (i := 42) rfl)) (hw _ (List.mem_of_getElem? (i := 20) rfl)) (hw _ (List.mem_of_getElem? (i := 24) rfl)) (hw _ (List.mem_of_getElem? (i := 22) rfl)) (hw _ (List.mem_of_getElem? (i := 23) rfl)) (hw _ (List.mem_of_getElem? (i := 25) rfl)) P5 P6 (by simp [fits]) rfl rfl (by decide) (W := 1) (by simp [Value.category]) (by decide) (cap := 3) (by simp) (by decide) (by decide) (fun h_1 o_4 g_o_4 E_2 A_3 x_o_4 => ?_)
                    have ne_a_o_4 : a ≠ o_4 := Nat.ne_of_lt (g_o_4 ▸ P1.lt)
                    have ne_b_o_4 : b ≠ o_4 := Nat.ne_of_lt (g_o_4 ▸ P5.lt)
                    have ge_o_4 : n0 ≤ o_4 := g_o_4 ▸ Z0
                    have sb_o_4 : h.size ≤ o_4 := g_o_4 ▸ (Keep.refl h [a]).1
                    have f_5 : Exa Z h_1 a "com/example/odograph/odograph/model/Instance" := P1.ext E_2
                    have f_6 : Ary Z h_1 b .long [(.long x0), (.long x1), (.long x2)] := P5.ext E_2
                    have f_7 : Exa Z h_1 b "[J" := P6.ext E_2
                    have f_8 : Fld Z h_1 a "com/example/odograph/odograph/model/Instance" "weights" "[J" .null := P7.ext E_2
                    have f_9 : Fld Z h_1 a "com/example/odograph/odograph/model/Instance" "start" "[J" .null := P8.ext E_2
                    have f_10 : Fld Z h_1 a "com/example/odograph/odograph/model/Instance" "requests" "Lcom/example/odograph/odograph/model/Requests;" .null := P9.ext E_2
                    have kp_11 : Keep h h_1 [a] := (Keep.refl h [a]).ext E_2
                    have sz_12 : n0 ≤ h_1.size := Nat.le_trans Z0 E_2.1
                    refine K.ccast d6_159 (pc' := 162) rfl (hw _ (List.mem_of_getElem? (i := 43) rfl)) (Ins.self x_o_4) ?_
                    refine K.putf d6_162 (pc' := 165) rfl (host := "") (Or.inl (hw _ (List.mem_of_getElem? (i := 44) rfl))) Via.refl f_8 f_5 (Or.inr ⟨(hw _ (List.mem_of_getElem? (i := 45) rfl)), rfl, rfl⟩) (hw _ (List.mem_of_getElem? (i := 7) rfl)) (ty := (.array .long)) (by decide) rfl rfl P3 (fun h_13 W_14 => ?_)
                    have f_15 : Exa Z h_13 a "com/example/odograph/odograph/model/Instance" := f_5.wr W_14
                    have f_16 : Ary Z h_13 b .long [(.long x0), (.long x1), (.long x2)] := f_6.other W_14 P4
                    have f_17 : Exa Z h_13 b "[J" := f_7.wr W_14
                    have f_18 : Fld Z h_13 a "com/example/odograph/odograph/model/Instance" "weights" "[J" (.ref o_4) := f_8.same W_14
                    have f_19 : Fld Z h_13 a "com/example/odograph/odograph/model/Instance" "start" "[J" .null := f_9.other W_14 (Or.inr (slot_ne (Or.inr (hw _ (List.mem_of_getElem? (i := 47) rfl))) (Or.inr (hw _ (List.mem_of_getElem? (i := 45) rfl))) (by decide) (t := (.array .long)) (t' := (.array .long)) (by decide) (by decide)))
                    have f_20 : Fld Z h_13 a "com/example/odograph/odograph/model/Instance" "requests" "Lcom/example/odograph/odograph/model/Requests;" .null := f_10.other W_14 (Or.inr (slot_ne (Or.inr (hw _ (List.mem_of_getElem? (i := 49) rfl))) (Or.inr (hw _ (List.mem_of_getElem? (i := 45) rfl))) (by decide) (t := (.object "com/example/odograph/odograph/model/Requests")) (t' := (.array .long)) (by decide) (by decide)))
                    have f_21 : Ary Z h_13 o_4 .long [(.long x0), (.long x1), (.long x2)] := A_3.other W_14 (Ne.symm ne_a_o_4)
                    have f_22 : Exa Z h_13 o_4 "[J" := x_o_4.wr W_14
                    have kp_23 : Keep h h_13 [a] := kp_11.wr W_14 (Or.inl (by simp))
                    have sz_24 : n0 ≤ h_13.size := Nat.le_trans sz_12 (Keep.of_wr W_14).1
                    refine K.aloadN d6_165 (pc' := 166) rfl rfl rfl ?_
                    refine K.aloadN d6_166 (pc' := 167) rfl rfl rfl ?_
                    refine K.ifnonnull0 d6_167 (pc' := 170) rfl ?_
                    refine K.anull d6_170 (pc' := 171) rfl ?_
                    refine K.goto d6_171 (by decide) (pc' := 181) (by decide) ?_
                    refine K.putf d6_181 (pc' := 184) rfl (host := "") (Or.inl (hw _ (List.mem_of_getElem? (i := 46) rfl))) Via.refl f_19 f_15 (Or.inr ⟨(hw _ (List.mem_of_getElem? (i := 47) rfl)), rfl, rfl⟩) (hw _ (List.mem_of_getElem? (i := 7) rfl)) (ty := (.array .long)) (by decide) rfl rfl P3 (fun h_25 W_26 => ?_)
                    have f_27 : Exa Z h_25 a "com/example/odograph/odograph/model/Instance" := f_15.wr W_26
                    have f_28 : Ary Z h_25 b .long [(.long x0), (.long x1), (.long x2)] := f_16.other W_26 P4
                    have f_29 : Exa Z h_25 b "[J" := f_17.wr W_26
                    have f_30 : Fld Z h_25 a "com/example/odograph/odograph/model/Instance" "weights" "[J" (.ref o_4) := f_18.other W_26 (Or.inr (slot_ne (Or.inr (hw _ (List.mem_of_getElem? (i := 45) rfl))) (Or.inr (hw _ (List.mem_of_getElem? (i := 47) rfl))) (by decide) (t := (.array .long)) (t' := (.array .long)) (by decide) (by decide)))
                    have f_31 : Fld Z h_25 a "com/example/odograph/odograph/model/Instance" "start" "[J" .null := f_19.same W_26
                    have f_32 : Fld Z h_25 a "com/example/odograph/odograph/model/Instance" "requests" "Lcom/example/odograph/odograph/model/Requests;" .null := f_20.other W_26 (Or.inr (slot_ne (Or.inr (hw _ (List.mem_of_getElem? (i := 49) rfl))) (Or.inr (hw _ (List.mem_of_getElem? (i := 47) rfl))) (by decide) (t := (.object "com/example/odograph/odograph/model/Requests")) (t' := (.array .long)) (by decide) (by decide)))
                    have f_33 : Ary Z h_25 o_4 .long [(.long x0), (.long x1), (.long x2)] := f_21.other W_26 (Ne.symm ne_a_o_4)
                    have f_34 : Exa Z h_25 o_4 "[J" := f_22.wr W_26
                    have kp_35 : Keep h h_25 [a] := kp_23.wr W_26 (Or.inl (by simp))
                    have sz_36 : n0 ≤ h_25.size := Nat.le_trans sz_24 (Keep.of_wr W_26).1
                    refine K.aloadN d6_184 (pc' := 185) rfl rfl rfl ?_
                    refine K.aloadN d6_185 (pc' := 186) rfl rfl rfl ?_
                    refine K.putf d6_186 (pc' := 189) rfl (host := "") (Or.inl (hw _ (List.mem_of_getElem? (i := 48) rfl))) Via.refl f_32 f_27 (Or.inr ⟨(hw _ (List.mem_of_getElem? (i := 49) rfl)), rfl, rfl⟩) (hw _ (List.mem_of_getElem? (i := 7) rfl)) (ty := (.object "com/example/odograph/odograph/model/Requests")) (by decide) rfl rfl P3 (fun h_37 W_38 => ?_)
                    have f_39 : Exa Z h_37 a "com/example/odograph/odograph/model/Instance" := f_27.wr W_38
                    have f_40 : Ary Z h_37 b .long [(.long x0), (.long x1), (.long x2)] := f_28.other W_38 P4
                    have f_41 : Exa Z h_37 b "[J" := f_29.wr W_38
                    have f_42 : Fld Z h_37 a "com/example/odograph/odograph/model/Instance" "weights" "[J" (.ref o_4) := f_30.other W_38 (Or.inr (slot_ne (Or.inr (hw _ (List.mem_of_getElem? (i := 45) rfl))) (Or.inr (hw _ (List.mem_of_getElem? (i := 49) rfl))) (by decide) (t := (.array .long)) (t' := (.object "com/example/odograph/odograph/model/Requests")) (by decide) (by decide)))
                    have f_43 : Fld Z h_37 a "com/example/odograph/odograph/model/Instance" "start" "[J" .null := f_31.other W_38 (Or.inr (slot_ne (Or.inr (hw _ (List.mem_of_getElem? (i := 47) rfl))) (Or.inr (hw _ (List.mem_of_getElem? (i := 49) rfl))) (by decide) (t := (.array .long)) (t' := (.object "com/example/odograph/odograph/model/Requests")) (by decide) (by decide)))
                    have f_44 : Fld Z h_37 a "com/example/odograph/odograph/model/Instance" "requests" "Lcom/example/odograph/odograph/model/Requests;" (.ref r) := f_32.same W_38
                    have f_45 : Ary Z h_37 o_4 .long [(.long x0), (.long x1), (.long x2)] := f_33.other W_38 (Ne.symm ne_a_o_4)
                    have f_46 : Exa Z h_37 o_4 "[J" := f_34.wr W_38
                    have kp_47 : Keep h h_37 [a] := kp_35.wr W_38 (Or.inl (by simp))
                    have sz_48 : n0 ≤ h_37.size := Nat.le_trans sz_36 (Keep.of_wr W_38).1
                    exact K.ret0 d6_189 (by decide) (by decide) ⟨o_4, rfl, kp_47, sb_o_4, f_42, f_45⟩
                · exfalso; omega
              · exfalso; omega
          · exfalso; omega
      · exfalso; omega
  · exfalso; omega
set_option maxRecDepth 65536 in
set_option maxHeartbeats 40000000 in
theorem c_inst3 (l : Launch) (Z : State) (a0 : Array Value) (hw : ∀ d ∈ tables_1, d.before a0 Z = true) (n0 : Nat) (h : Heap) (a : Addr) (b : Addr) (d : Addr) (x0 : Int64) (x1 : Int64) (x2 : Int64) (P1 : Exa Z h a "com/example/odograph/odograph/model/Instance") (Z0 : n0 ≤ h.size) (P3 : n0 ≤ a) (P4 : b ≠ a) (P5 : d ≠ a) (P6 : Ary Z h b .long [(.long x0), (.long x1), (.long x2)]) (P7 : Exa Z h b "[J") (P8 : Ary Z h d .long []) (P9 : Exa Z h d "[J") (P10 : Fld Z h a "com/example/odograph/odograph/model/Instance" "weights" "[J" .null) (P11 : Fld Z h a "com/example/odograph/odograph/model/Instance" "start" "[J" .null) (P12 : Fld Z h a "com/example/odograph/odograph/model/Instance" "requests" "Lcom/example/odograph/odograph/model/Requests;" .null) (hx0 : 0 < x0.toInt) (hx1 : 0 < x1.toInt) (hx2 : 0 < x2.toInt) : MeetsW l Z n0 (⟨"com/example/odograph/odograph/model/Instance", "<init>", "([J[J[J)V"⟩ : MethodName) prog_11_method_1_code 4 none ({ frames := 3, cells := 4, slots := 6, locals := 44 } : Room) #[(.ref a), (.ref b), .null, (.ref d)] h (fun v h' => ∃ (c : Addr), v = none ∧ Keep h h' [a] ∧ h.size ≤ c ∧ Fld Z h' a "com/example/odograph/odograph/model/Instance" "weights" "[J" (.ref c) ∧ Ary Z h' c .long [(.long x0), (.long x1), (.long x2)]) := by
  refine MeetsW.intro (plainFor_of_name pn_com_example_odograph_odograph_model_Instance) (L0 := #[.val (.ref a), .val (.ref b), .val .null, .val (.ref d)]) (fun m => by first | (simp [entryFrame, mkF, argsToLocals, Value.category]; done) | rfl) ?_
  intro m G K0
  have K : Cx l ({ frames := 3, cells := 4, slots := 6, locals := 44 } : Room) Z n0 _ "com/example/odograph/odograph/model/Instance" "<init>" prog_11_method_1_code 4 none m G := K0
  refine K.aloadN d2_0 (pc' := 1) rfl rfl rfl ?_
  refine K.aloadN d2_1 (pc' := 2) rfl rfl rfl ?_
  refine K.aloadN d2_2 (pc' := 3) rfl rfl rfl ?_
  refine K.aloadN d2_3 (pc' := 4) rfl rfl rfl ?_
  refine K.calls (argsL := [(.ref d)]) (rest := [.null, (.ref b), (.ref a)]) d2_4 (pc' := 7) rfl (c_of l Z a0 hw n0 h (a := d) Z0 P8 P9) (hw _ (List.mem_of_getElem? (i := 12) rfl)) (hw _ (List.mem_of_getElem? (i := 13) rfl)) (hw _ (List.mem_of_getElem? (i := 14) rfl)) (hw _ (List.mem_of_getElem? (i := 15) rfl)) (by decide) pd_1 rfl rfl (W := 3) (by simp [Value.category]) (by decide) (by decide) (by decide) (by decide) (fun v_3 h_1 q_2 => ?_)
  obtain ⟨w_4, rfl, K_5⟩ := q_2
  have f_6 : Exa Z h_1 a "com/example/odograph/odograph/model/Instance" := P1.keep K_5
  have f_7 : Ary Z h_1 b .long [(.long x0), (.long x1), (.long x2)] := P6.keep K_5 nin0
  have f_8 : Exa Z h_1 b "[J" := P7.keep K_5
  have f_9 : Ary Z h_1 d .long [] := P8.keep K_5 nin0
  have f_10 : Exa Z h_1 d "[J" := P9.keep K_5
  have f_11 : Fld Z h_1 a "com/example/odograph/odograph/model/Instance" "weights" "[J" .null := P10.keep K_5 nin0
  have f_12 : Fld Z h_1 a "com/example/odograph/odograph/model/Instance" "start" "[J" .null := P11.keep K_5 nin0
  have f_13 : Fld Z h_1 a "com/example/odograph/odograph/model/Instance" "requests" "Lcom/example/odograph/odograph/model/Requests;" .null := P12.keep K_5 nin0
  have kp_14 : Keep h h_1 [a] := (Keep.refl h [a]).trans K_5 all0
  have sz_15 : n0 ≤ h_1.size := Nat.le_trans Z0 K_5.1
  show G h_1 3 3 (mkF m 7 #[.val (.ref a), .val (.ref b), .val .null, .val (.ref d)] [(.ref w_4), .null, (.ref b), (.ref a)])
  refine K.callc (argsL := [(.ref b), .null, (.ref w_4)]) (rest := []) d2_7 (pc' := 10) rfl rfl (c_in3 l Z a0 hw n0 h_1 (a := a) (b := b) (r := w_4) (x0 := x0) (x1 := x1) (x2 := x2) f_6 sz_15 P3 P4 f_7 f_8 f_11 f_12 f_13 (by omega) (by omega) (by omega)) (hw _ (List.mem_of_getElem? (i := 38) rfl)) (hw _ (List.mem_of_getElem? (i := 39) rfl)) (hw _ (List.mem_of_getElem? (i := 8) rfl)) (hw _ (List.mem_of_getElem? (i := 40) rfl)) (by decide) pd_2 rfl rfl (W := 0) (by simp [Value.category]) (by decide) (by decide) (by decide) (by decide) (fun v_18 h_16 q_17 => ?_)
  obtain ⟨c_20, rfl, K_21, f_22, f_23, f_24⟩ := q_17
  have ne_a_c_20 : a ≠ c_20 := Nat.ne_of_lt (Nat.lt_of_lt_of_le f_6.lt f_22)
  have ne_b_c_20 : b ≠ c_20 := Nat.ne_of_lt (Nat.lt_of_lt_of_le f_7.lt f_22)
  have ne_d_c_20 : d ≠ c_20 := Nat.ne_of_lt (Nat.lt_of_lt_of_le f_9.lt f_22)
  have sb_c_20 : h.size ≤ c_20 := Nat.le_trans kp_14.1 f_22
  have f_25 : Exa Z h_16 a "com/example/odograph/odograph/model/Instance" := f_6.keep K_21
  have f_26 : Ary Z h_16 b .long [(.long x0), (.long x1), (.long x2)] := f_7.keep K_21 (ninS P4 nin0)
  have f_27 : Exa Z h_16 b "[J" := f_8.keep K_21
  have f_28 : Ary Z h_16 d .long [] := f_9.keep K_21 (ninS P5 nin0)
  have f_29 : Exa Z h_16 d "[J" := f_10.keep K_21
  have kp_33 : Keep h h_16 [a] := kp_14.trans K_21 (allS (Or.inl (by simp)) all0)
  have sz_34 : n0 ≤ h_16.size := Nat.le_trans sz_15 K_21.1
  show G h_16 4 6 (mkF m 10 #[.val (.ref a), .val (.ref b), .val .null, .val (.ref d)] [])
  exact K.ret0 d2_10 (by decide) (by decide) ⟨c_20, rfl, kp_33, sb_c_20, f_23, f_24⟩
set_option maxRecDepth 65536 in
set_option maxHeartbeats 40000000 in
theorem c_eq3 (l : Launch) (Z : State) (a0 : Array Value) (hw : ∀ d ∈ tables_1, d.before a0 Z = true) (n0 : Nat) (h : Heap) (a : Addr) (c : Addr) (x0 : Int64) (x1 : Int64) (x2 : Int64) (P1 : Exa Z h a "com/example/odograph/odograph/model/Instance") (P2 : Fld Z h a "com/example/odograph/odograph/model/Instance" "weights" "[J" (.ref c)) (P3 : Ary Z h c .long [(.long x0), (.long x1), (.long x2)]) : MeetsW l Z n0 (⟨"com/example/odograph/odograph/model/Instance", "equalWeights", "()Z"⟩ : MethodName) prog_11_method_5_code 6 (some .boolean) ({ frames := 0, cells := 0, slots := 0, locals := 0 } : Room) #[(.ref a)] h (fun v h' => v = some (.int (b2 (x0.toInt = x0.toInt ∧ x1.toInt = x0.toInt ∧ x2.toInt = x0.toInt))) ∧ h = h') := by
  refine MeetsW.intro (plainFor_of_name pn_com_example_odograph_odograph_model_Instance) (L0 := #[.val (.ref a), .unset, .unset, .unset, .unset, .unset]) (fun m => by first | (simp [entryFrame, mkF, argsToLocals, Value.category]; done) | rfl) ?_
  intro m G K0
  have K : Cx l ({ frames := 0, cells := 0, slots := 0, locals := 0 } : Room) Z n0 _ "com/example/odograph/odograph/model/Instance" "equalWeights" prog_11_method_5_code 6 (some .boolean) m G := K0
  refine K.aloadN d7_0 (pc' := 1) rfl rfl rfl ?_
  refine K.getf d7_1 (pc' := 4) rfl (host := "") (Or.inl (hw _ (List.mem_of_getElem? (i := 44) rfl))) Via.refl P2 ?_
  refine K.astoreN d7_4 (pc' := 5) rfl rfl (L' := #[.val (.ref a), .val (.ref c), .unset, .unset, .unset, .unset]) rfl ?_
  refine K.aloadN d7_5 (pc' := 6) rfl rfl rfl ?_
  refine K.alen d7_6 (pc' := 7) rfl P3 (fun z6 e_z6 => ?_)
  have t_z6 : z6.toInt = 3 := e_z6
  refine K.istoreN d7_7 (pc' := 8) rfl (L' := #[.val (.ref a), .val (.ref c), .val (.int z6), .unset, .unset, .unset]) rfl ?_
  refine K.iconst d7_8 (pc' := 9) rfl (z := 0) rfl ?_
  refine K.istoreN d7_9 (pc' := 10) rfl (L' := #[.val (.ref a), .val (.ref c), .val (.int z6), .val (.int (0 : Int32)), .unset, .unset]) rfl ?_
  refine K.iloadN d7_10 (pc' := 11) rfl rfl ?_
  refine K.iloadN d7_11 (pc' := 12) rfl rfl ?_
  refine K.icmp_ge d7_12 (pc1 := 15) rfl (by decide) (pc2 := 40) (by decide) (a := 0) (b := z6.toInt) rfl rfl (fun c12 => ?_) (fun c12 => ?_)
  · exfalso; omega
  · refine K.aloadN d7_15 (pc' := 16) rfl rfl rfl ?_
    refine K.iloadN d7_16 (pc' := 17) rfl rfl ?_
    refine K.lald d7_17 (pc' := 18) rfl P3 (i := 0) rfl rfl ?_
    refine K.lstore d7_18 (pc' := 20) rfl (L' := #[.val (.ref a), .val (.ref c), .val (.int z6), .val (.int (0 : Int32)), .val (.long x0), .second]) rfl ?_
    refine K.lload d7_20 (pc' := 22) rfl rfl ?_
    refine K.aloadN d7_22 (pc' := 23) rfl rfl rfl ?_
    refine K.getf d7_23 (pc' := 26) rfl (host := "") (Or.inl (hw _ (List.mem_of_getElem? (i := 44) rfl))) Via.refl P2 ?_
    refine K.iconst d7_26 (pc' := 27) rfl (z := 0) rfl ?_
    refine K.lald d7_27 (pc' := 28) rfl P3 (i := 0) rfl rfl ?_
    refine K.lcmp_eq d7_28 d7_29 (pc1 := 32) rfl (by decide) (pc2 := 34) (by decide) (a := x0.toInt) (b := x0.toInt) rfl rfl (fun c28 => ?_) (fun c28 => ?_)
    · refine K.iinc d7_34 (pc' := 37) rfl rfl (z := (1 : Int32)) rfl (L' := #[.val (.ref a), .val (.ref c), .val (.int z6), .val (.int (1 : Int32)), .val (.long x0), .second]) rfl ?_
      refine K.goto d7_37 (by decide) (pc' := 10) (by decide) ?_
      refine K.iloadN d7_10 (pc' := 11) rfl rfl ?_
      refine K.iloadN d7_11 (pc' := 12) rfl rfl ?_
      refine K.icmp_ge d7_12 (pc1 := 15) rfl (by decide) (pc2 := 40) (by decide) (a := 1) (b := z6.toInt) rfl rfl (fun c12_1 => ?_) (fun c12_1 => ?_)
      · exfalso; omega
      · refine K.aloadN d7_15 (pc' := 16) rfl rfl rfl ?_
        refine K.iloadN d7_16 (pc' := 17) rfl rfl ?_
        refine K.lald d7_17 (pc' := 18) rfl P3 (i := 1) rfl rfl ?_
        refine K.lstore d7_18 (pc' := 20) rfl (L' := #[.val (.ref a), .val (.ref c), .val (.int z6), .val (.int (1 : Int32)), .val (.long x1), .second]) rfl ?_
        refine K.lload d7_20 (pc' := 22) rfl rfl ?_
        refine K.aloadN d7_22 (pc' := 23) rfl rfl rfl ?_
        refine K.getf d7_23 (pc' := 26) rfl (host := "") (Or.inl (hw _ (List.mem_of_getElem? (i := 44) rfl))) Via.refl P2 ?_
        refine K.iconst d7_26 (pc' := 27) rfl (z := 0) rfl ?_
        refine K.lald d7_27 (pc' := 28) rfl P3 (i := 0) rfl rfl ?_
        refine K.lcmp_eq d7_28 d7_29 (pc1 := 32) rfl (by decide) (pc2 := 34) (by decide) (a := x1.toInt) (b := x0.toInt) rfl rfl (fun c28_1 => ?_) (fun c28_1 => ?_)
        · refine K.iinc d7_34 (pc' := 37) rfl rfl (z := (2 : Int32)) rfl (L' := #[.val (.ref a), .val (.ref c), .val (.int z6), .val (.int (2 : Int32)), .val (.long x1), .second]) rfl ?_
          refine K.goto d7_37 (by decide) (pc' := 10) (by decide) ?_
          refine K.iloadN d7_10 (pc' := 11) rfl rfl ?_
          refine K.iloadN d7_11 (pc' := 12) rfl rfl ?_
          refine K.icmp_ge d7_12 (pc1 := 15) rfl (by decide) (pc2 := 40) (by decide) (a := 2) (b := z6.toInt) rfl rfl (fun c12_2 => ?_) (fun c12_2 => ?_)
          · exfalso; omega
          · refine K.aloadN d7_15 (pc' := 16) rfl rfl rfl ?_
            refine K.iloadN d7_16 (pc' := 17) rfl rfl ?_
            refine K.lald d7_17 (pc' := 18) rfl P3 (i := 2) rfl rfl ?_
            refine K.lstore d7_18 (pc' := 20) rfl (L' := #[.val (.ref a), .val (.ref c), .val (.int z6), .val (.int (2 : Int32)), .val (.long x2), .second]) rfl ?_
            refine K.lload d7_20 (pc' := 22) rfl rfl ?_
            refine K.aloadN d7_22 (pc' := 23) rfl rfl rfl ?_
            refine K.getf d7_23 (pc' := 26) rfl (host := "") (Or.inl (hw _ (List.mem_of_getElem? (i := 44) rfl))) Via.refl P2 ?_
            refine K.iconst d7_26 (pc' := 27) rfl (z := 0) rfl ?_
            refine K.lald d7_27 (pc' := 28) rfl P3 (i := 0) rfl rfl ?_
            refine K.lcmp_eq d7_28 d7_29 (pc1 := 32) rfl (by decide) (pc2 := 34) (by decide) (a := x2.toInt) (b := x0.toInt) rfl rfl (fun c28_2 => ?_) (fun c28_2 => ?_)
            · refine K.iinc d7_34 (pc' := 37) rfl rfl (z := (3 : Int32)) rfl (L' := #[.val (.ref a), .val (.ref c), .val (.int z6), .val (.int (3 : Int32)), .val (.long x2), .second]) rfl ?_
              refine K.goto d7_37 (by decide) (pc' := 10) (by decide) ?_
              refine K.iloadN d7_10 (pc' := 11) rfl rfl ?_
              refine K.iloadN d7_11 (pc' := 12) rfl rfl ?_
              refine K.icmp_ge d7_12 (pc1 := 15) rfl (by decide) (pc2 := 40) (by decide) (a := 3) (b := z6.toInt) rfl rfl (fun c12_3 => ?_) (fun c12_3 => ?_)
              · refine K.iconst d7_40 (pc' := 41) rfl (z := 1) rfl ?_
                exact K.retz d7_41 (Or.inr rfl) (by decide) (by decide) ⟨by rw [b2_t (by omega)], rfl⟩
              · exfalso; omega
            · refine K.iconst d7_32 (pc' := 33) rfl (z := 0) rfl ?_
              exact K.retz d7_33 (Or.inl rfl) (by decide) (by decide) ⟨by rw [b2_f (by omega)], rfl⟩
        · refine K.iconst d7_32 (pc' := 33) rfl (z := 0) rfl ?_
          exact K.retz d7_33 (Or.inl rfl) (by decide) (by decide) ⟨by rw [b2_f (by omega)], rfl⟩
    · refine K.iconst d7_32 (pc' := 33) rfl (z := 0) rfl ?_
      exact K.retz d7_33 (Or.inl rfl) (by decide) (by decide) ⟨by rw [b2_f (by omega)], rfl⟩
set_option maxRecDepth 65536 in
set_option maxHeartbeats 40000000 in
theorem c_in4 (l : Launch) (Z : State) (a0 : Array Value) (hw : ∀ d ∈ tables_1, d.before a0 Z = true) (n0 : Nat) (h : Heap) (a : Addr) (b : Addr) (r : Addr) (x0 : Int64) (x1 : Int64) (x2 : Int64) (x3 : Int64) (P1 : Exa Z h a "com/example/odograph/odograph/model/Instance") (Z0 : n0 ≤ h.size) (P3 : n0 ≤ a) (P4 : b ≠ a) (P5 : Ary Z h b .long [(.long x0), (.long x1), (.long x2), (.long x3)]) (P6 : Exa Z h b "[J") (P7 : Fld Z h a "com/example/odograph/odograph/model/Instance" "weights" "[J" .null) (P8 : Fld Z h a "com/example/odograph/odograph/model/Instance" "start" "[J" .null) (P9 : Fld Z h a "com/example/odograph/odograph/model/Instance" "requests" "Lcom/example/odograph/odograph/model/Requests;" .null) (hx0 : 0 < x0.toInt) (hx1 : 0 < x1.toInt) (hx2 : 0 < x2.toInt) (hx3 : 0 < x3.toInt) : MeetsW l Z n0 (⟨"com/example/odograph/odograph/model/Instance", "<init>", "([J[JLcom/example/odograph/odograph/model/Requests;)V"⟩ : MethodName) prog_11_method_2_code 5 none ({ frames := 1, cells := 1, slots := 4, locals := 15 } : Room) #[(.ref a), (.ref b), .null, (.ref r)] h (fun v h' => ∃ (c : Addr), v = none ∧ Keep h h' [a] ∧ h.size ≤ c ∧ Fld Z h' a "com/example/odograph/odograph/model/Instance" "weights" "[J" (.ref c) ∧ Ary Z h' c .long [(.long x0), (.long x1), (.long x2), (.long x3)]) := by
  refine MeetsW.intro (plainFor_of_name pn_com_example_odograph_odograph_model_Instance) (L0 := #[.val (.ref a), .val (.ref b), .val .null, .val (.ref r), .unset]) (fun m => by first | (simp [entryFrame, mkF, argsToLocals, Value.category]; done) | rfl) ?_
  intro m G K0
  have K : Cx l ({ frames := 1, cells := 1, slots := 4, locals := 15 } : Room) Z n0 _ "com/example/odograph/odograph/model/Instance" "<init>" prog_11_method_2_code 5 none m G := K0
  refine K.aloadN d6_0 (pc' := 1) rfl rfl rfl ?_
  refine K.init0 d6_1 (pc' := 4) rfl (hw _ (List.mem_of_getElem? (i := 41) rfl)) (hw _ (List.mem_of_getElem? (i := 32) rfl)) (hw _ (List.mem_of_getElem? (i := 33) rfl)) rfl (by decide) (W := 0) (by simp [Value.category]) (by decide) ?_
  refine K.aloadN d6_4 (pc' := 5) rfl rfl rfl ?_
  refine K.alen d6_5 (pc' := 6) rfl P5 (fun z5 e_z5 => ?_)
  have t_z5 : z5.toInt = 4 := e_z5
  refine K.if_ne d6_6 (pc1 := 9) rfl (by decide) (pc2 := 19) (by decide) (a := z5.toInt) rfl (fun c6 => ?_) (fun c6 => ?_)
  · refine K.iconst d6_19 (pc' := 20) rfl (z := 0) rfl ?_
    refine K.istore d6_20 (pc' := 22) rfl (L' := #[.val (.ref a), .val (.ref b), .val .null, .val (.ref r), .val (.int (0 : Int32))]) rfl ?_
    refine K.iload d6_22 (pc' := 24) rfl rfl ?_
    refine K.aloadN d6_24 (pc' := 25) rfl rfl rfl ?_
    refine K.alen d6_25 (pc' := 26) rfl P5 (fun z25 e_z25 => ?_)
    have t_z25 : z25.toInt = 4 := e_z25
    refine K.icmp_ge d6_26 (pc1 := 29) rfl (by decide) (pc2 := 81) (by decide) (a := 0) (b := z25.toInt) rfl rfl (fun c26 => ?_) (fun c26 => ?_)
    · exfalso; omega
    · refine K.aloadN d6_29 (pc' := 30) rfl rfl rfl ?_
      refine K.iload d6_30 (pc' := 32) rfl rfl ?_
      refine K.lald d6_32 (pc' := 33) rfl P5 (i := 0) rfl rfl ?_
      refine K.lconst d6_33 (pc' := 34) rfl (z := 0) rfl ?_
      refine K.lcmp_gt d6_34 d6_35 (pc1 := 38) rfl (by decide) (pc2 := 75) (by decide) (a := x0.toInt) (b := 0) rfl rfl (fun c34 => ?_) (fun c34 => ?_)
      · refine K.iinc d6_75 (pc' := 78) rfl rfl (z := (1 : Int32)) rfl (L' := #[.val (.ref a), .val (.ref b), .val .null, .val (.ref r), .val (.int (1 : Int32))]) rfl ?_
        refine K.goto d6_78 (by decide) (pc' := 22) (by decide) ?_
        refine K.iload d6_22 (pc' := 24) rfl rfl ?_
        refine K.aloadN d6_24 (pc' := 25) rfl rfl rfl ?_
        refine K.alen d6_25 (pc' := 26) rfl P5 (fun z25_1 e_z25_1 => ?_)
        have t_z25_1 : z25_1.toInt = 4 := e_z25_1
        refine K.icmp_ge d6_26 (pc1 := 29) rfl (by decide) (pc2 := 81) (by decide) (a := 1) (b := z25_1.toInt) rfl rfl (fun c26_1 => ?_) (fun c26_1 => ?_)
        · exfalso; omega
        · refine K.aloadN d6_29 (pc' := 30) rfl rfl rfl ?_
          refine K.iload d6_30 (pc' := 32) rfl rfl ?_
          refine K.lald d6_32 (pc' := 33) rfl P5 (i := 1) rfl rfl ?_
          refine K.lconst d6_33 (pc' := 34) rfl (z := 0) rfl ?_
          refine K.lcmp_gt d6_34 d6_35 (pc1 := 38) rfl (by decide) (pc2 := 75) (by decide) (a := x1.toInt) (b := 0) rfl rfl (fun c34_1 => ?_) (fun c34_1 => ?_)
          · refine K.iinc d6_75 (pc' := 78) rfl rfl (z := (2 : Int32)) rfl (L' := #[.val (.ref a), .val (.ref b), .val .null, .val (.ref r), .val (.int (2 : Int32))]) rfl ?_
            refine K.goto d6_78 (by decide) (pc' := 22) (by decide) ?_
            refine K.iload d6_22 (pc' := 24) rfl rfl ?_
            refine K.aloadN d6_24 (pc' := 25) rfl rfl rfl ?_
            refine K.alen d6_25 (pc' := 26) rfl P5 (fun z25_2 e_z25_2 => ?_)
            have t_z25_2 : z25_2.toInt = 4 := e_z25_2
            refine K.icmp_ge d6_26 (pc1 := 29) rfl (by decide) (pc2 := 81) (by decide) (a := 2) (b := z25_2.toInt) rfl rfl (fun c26_2 => ?_) (fun c26_2 => ?_)
            · exfalso; omega
            · refine K.aloadN d6_29 (pc' := 30) rfl rfl rfl ?_
              refine K.iload d6_30 (pc' := 32) rfl rfl ?_
              refine K.lald d6_32 (pc' := 33) rfl P5 (i := 2) rfl rfl ?_
              refine K.lconst d6_33 (pc' := 34) rfl (z := 0) rfl ?_
              refine K.lcmp_gt d6_34 d6_35 (pc1 := 38) rfl (by decide) (pc2 := 75) (by decide) (a := x2.toInt) (b := 0) rfl rfl (fun c34_2 => ?_) (fun c34_2 => ?_)
              · refine K.iinc d6_75 (pc' := 78) rfl rfl (z := (3 : Int32)) rfl (L' := #[.val (.ref a), .val (.ref b), .val .null, .val (.ref r), .val (.int (3 : Int32))]) rfl ?_
                refine K.goto d6_78 (by decide) (pc' := 22) (by decide) ?_
                refine K.iload d6_22 (pc' := 24) rfl rfl ?_
                refine K.aloadN d6_24 (pc' := 25) rfl rfl rfl ?_
                refine K.alen d6_25 (pc' := 26) rfl P5 (fun z25_3 e_z25_3 => ?_)
                have t_z25_3 : z25_3.toInt = 4 := e_z25_3
                refine K.icmp_ge d6_26 (pc1 := 29) rfl (by decide) (pc2 := 81) (by decide) (a := 3) (b := z25_3.toInt) rfl rfl (fun c26_3 => ?_) (fun c26_3 => ?_)
                · exfalso; omega
                · refine K.aloadN d6_29 (pc' := 30) rfl rfl rfl ?_
                  refine K.iload d6_30 (pc' := 32) rfl rfl ?_
                  refine K.lald d6_32 (pc' := 33) rfl P5 (i := 3) rfl rfl ?_
                  refine K.lconst d6_33 (pc' := 34) rfl (z := 0) rfl ?_
                  refine K.lcmp_gt d6_34 d6_35 (pc1 := 38) rfl (by decide) (pc2 := 75) (by decide) (a := x3.toInt) (b := 0) rfl rfl (fun c34_3 => ?_) (fun c34_3 => ?_)
                  · refine K.iinc d6_75 (pc' := 78) rfl rfl (z := (4 : Int32)) rfl (L' := #[.val (.ref a), .val (.ref b), .val .null, .val (.ref r), .val (.int (4 : Int32))]) rfl ?_
                    refine K.goto d6_78 (by decide) (pc' := 22) (by decide) ?_
                    refine K.iload d6_22 (pc' := 24) rfl rfl ?_
                    refine K.aloadN d6_24 (pc' := 25) rfl rfl rfl ?_
                    refine K.alen d6_25 (pc' := 26) rfl P5 (fun z25_4 e_z25_4 => ?_)
                    have t_z25_4 : z25_4.toInt = 4 := e_z25_4
                    refine K.icmp_ge d6_26 (pc1 := 29) rfl (by decide) (pc2 := 81) (by decide) (a := 4) (b := z25_4.toInt) rfl rfl (fun c26_4 => ?_) (fun c26_4 => ?_)
                    · refine K.aloadN d6_81 (pc' := 82) rfl rfl rfl ?_
                      refine K.ifnull0 d6_82 (by decide) (pc2 := 125) (by decide) ?_
                      refine K.iconst d6_125 (pc' := 126) rfl (z := 0) rfl ?_
                      refine K.istore d6_126 (pc' := 128) rfl (L' := #[.val (.ref a), .val (.ref b), .val .null, .val (.ref r), .val (.int (0 : Int32))]) rfl ?_
                      refine K.iload d6_128 (pc' := 130) rfl rfl ?_
                      refine K.aloadN d6_130 (pc' := 131) rfl rfl rfl ?_
                      refine K.alen d6_131 (pc' := 132) rfl P5 (fun z131 e_z131 => ?_)
                      have t_z131 : z131.toInt = 4 := e_z131
                      refine K.icmp_ge d6_132 (pc1 := 135) rfl (by decide) (pc2 := 154) (by decide) (a := 0) (b := z131.toInt) rfl rfl (fun c132 => ?_) (fun c132 => ?_)
                      · exfalso; omega
                      · refine K.aloadN d6_135 (pc' := 136) rfl rfl rfl ?_
                        refine K.ifnull0 d6_136 (by decide) (pc2 := 154) (by decide) ?_
                        refine K.aloadN d6_154 (pc' := 155) rfl rfl rfl ?_
                        refine K.aloadN d6_155 (pc' := 156) rfl rfl rfl ?_
                        refine K.clone (.long (0 : Int64)) d6_156 (pc' := 159) rfl (hw _ (List.mem_of_getElem? (i := 42) rfl)) (hw _ (List.mem_of_getElem? (i := 20) rfl)) (hw _ (List.mem_of_getElem? (i := 24) rfl)) (hw _ (List.mem_of_getElem? (i := 22) rfl)) (hw _ (List.mem_of_getElem? (i := 23) rfl)) (hw _ (List.mem_of_getElem? (i := 25) rfl)) P5 P6 (by simp [fits]) rfl rfl (by decide) (W := 1) (by simp [Value.category]) (by decide) (cap := 4) (by simp) (by decide) (by decide) (fun h_1 o_4 g_o_4 E_2 A_3 x_o_4 => ?_)
                        have ne_a_o_4 : a ≠ o_4 := Nat.ne_of_lt (g_o_4 ▸ P1.lt)
                        have ne_b_o_4 : b ≠ o_4 := Nat.ne_of_lt (g_o_4 ▸ P5.lt)
                        have ge_o_4 : n0 ≤ o_4 := g_o_4 ▸ Z0
                        have sb_o_4 : h.size ≤ o_4 := g_o_4 ▸ (Keep.refl h [a]).1
                        have f_5 : Exa Z h_1 a "com/example/odograph/odograph/model/Instance" := P1.ext E_2
                        have f_6 : Ary Z h_1 b .long [(.long x0), (.long x1), (.long x2), (.long x3)] := P5.ext E_2
                        have f_7 : Exa Z h_1 b "[J" := P6.ext E_2
                        have f_8 : Fld Z h_1 a "com/example/odograph/odograph/model/Instance" "weights" "[J" .null := P7.ext E_2
                        have f_9 : Fld Z h_1 a "com/example/odograph/odograph/model/Instance" "start" "[J" .null := P8.ext E_2
                        have f_10 : Fld Z h_1 a "com/example/odograph/odograph/model/Instance" "requests" "Lcom/example/odograph/odograph/model/Requests;" .null := P9.ext E_2
                        have kp_11 : Keep h h_1 [a] := (Keep.refl h [a]).ext E_2
                        have sz_12 : n0 ≤ h_1.size := Nat.le_trans Z0 E_2.1
                        refine K.ccast d6_159 (pc' := 162) rfl (hw _ (List.mem_of_getElem? (i := 43) rfl)) (Ins.self x_o_4) ?_
                        refine K.putf d6_162 (pc' := 165) rfl (host := "") (Or.inl (hw _ (List.mem_of_getElem? (i := 44) rfl))) Via.refl f_8 f_5 (Or.inr ⟨(hw _ (List.mem_of_getElem? (i := 45) rfl)), rfl, rfl⟩) (hw _ (List.mem_of_getElem? (i := 7) rfl)) (ty := (.array .long)) (by decide) rfl rfl P3 (fun h_13 W_14 => ?_)
                        have f_15 : Exa Z h_13 a "com/example/odograph/odograph/model/Instance" := f_5.wr W_14
                        have f_16 : Ary Z h_13 b .long [(.long x0), (.long x1), (.long x2), (.long x3)] := f_6.other W_14 P4
                        have f_17 : Exa Z h_13 b "[J" := f_7.wr W_14
                        have f_18 : Fld Z h_13 a "com/example/odograph/odograph/model/Instance" "weights" "[J" (.ref o_4) := f_8.same W_14
                        have f_19 : Fld Z h_13 a "com/example/odograph/odograph/model/Instance" "start" "[J" .null := f_9.other W_14 (Or.inr (slot_ne (Or.inr (hw _ (List.mem_of_getElem? (i := 47) rfl))) (Or.inr (hw _ (List.mem_of_getElem? (i := 45) rfl))) (by decide) (t := (.array .long)) (t' := (.array .long)) (by decide) (by decide)))
                        have f_20 : Fld Z h_13 a "com/example/odograph/odograph/model/Instance" "requests" "Lcom/example/odograph/odograph/model/Requests;" .null := f_10.other W_14 (Or.inr (slot_ne (Or.inr (hw _ (List.mem_of_getElem? (i := 49) rfl))) (Or.inr (hw _ (List.mem_of_getElem? (i := 45) rfl))) (by decide) (t := (.object "com/example/odograph/odograph/model/Requests")) (t' := (.array .long)) (by decide) (by decide)))
                        have f_21 : Ary Z h_13 o_4 .long [(.long x0), (.long x1), (.long x2), (.long x3)] := A_3.other W_14 (Ne.symm ne_a_o_4)
                        have f_22 : Exa Z h_13 o_4 "[J" := x_o_4.wr W_14
                        have kp_23 : Keep h h_13 [a] := kp_11.wr W_14 (Or.inl (by simp))
                        have sz_24 : n0 ≤ h_13.size := Nat.le_trans sz_12 (Keep.of_wr W_14).1
                        refine K.aloadN d6_165 (pc' := 166) rfl rfl rfl ?_
                        refine K.aloadN d6_166 (pc' := 167) rfl rfl rfl ?_
                        refine K.ifnonnull0 d6_167 (pc' := 170) rfl ?_
                        refine K.anull d6_170 (pc' := 171) rfl ?_
                        refine K.goto d6_171 (by decide) (pc' := 181) (by decide) ?_
                        refine K.putf d6_181 (pc' := 184) rfl (host := "") (Or.inl (hw _ (List.mem_of_getElem? (i := 46) rfl))) Via.refl f_19 f_15 (Or.inr ⟨(hw _ (List.mem_of_getElem? (i := 47) rfl)), rfl, rfl⟩) (hw _ (List.mem_of_getElem? (i := 7) rfl)) (ty := (.array .long)) (by decide) rfl rfl P3 (fun h_25 W_26 => ?_)
                        have f_27 : Exa Z h_25 a "com/example/odograph/odograph/model/Instance" := f_15.wr W_26
                        have f_28 : Ary Z h_25 b .long [(.long x0), (.long x1), (.long x2), (.long x3)] := f_16.other W_26 P4
                        have f_29 : Exa Z h_25 b "[J" := f_17.wr W_26
                        have f_30 : Fld Z h_25 a "com/example/odograph/odograph/model/Instance" "weights" "[J" (.ref o_4) := f_18.other W_26 (Or.inr (slot_ne (Or.inr (hw _ (List.mem_of_getElem? (i := 45) rfl))) (Or.inr (hw _ (List.mem_of_getElem? (i := 47) rfl))) (by decide) (t := (.array .long)) (t' := (.array .long)) (by decide) (by decide)))
                        have f_31 : Fld Z h_25 a "com/example/odograph/odograph/model/Instance" "start" "[J" .null := f_19.same W_26
                        have f_32 : Fld Z h_25 a "com/example/odograph/odograph/model/Instance" "requests" "Lcom/example/odograph/odograph/model/Requests;" .null := f_20.other W_26 (Or.inr (slot_ne (Or.inr (hw _ (List.mem_of_getElem? (i := 49) rfl))) (Or.inr (hw _ (List.mem_of_getElem? (i := 47) rfl))) (by decide) (t := (.object "com/example/odograph/odograph/model/Requests")) (t' := (.array .long)) (by decide) (by decide)))
                        have f_33 : Ary Z h_25 o_4 .long [(.long x0), (.long x1), (.long x2), (.long x3)] := f_21.other W_26 (Ne.symm ne_a_o_4)
                        have f_34 : Exa Z h_25 o_4 "[J" := f_22.wr W_26
                        have kp_35 : Keep h h_25 [a] := kp_23.wr W_26 (Or.inl (by simp))
                        have sz_36 : n0 ≤ h_25.size := Nat.le_trans sz_24 (Keep.of_wr W_26).1
                        refine K.aloadN d6_184 (pc' := 185) rfl rfl rfl ?_
                        refine K.aloadN d6_185 (pc' := 186) rfl rfl rfl ?_
                        refine K.putf d6_186 (pc' := 189) rfl (host := "") (Or.inl (hw _ (List.mem_of_getElem? (i := 48) rfl))) Via.refl f_32 f_27 (Or.inr ⟨(hw _ (List.mem_of_getElem? (i := 49) rfl)), rfl, rfl⟩) (hw _ (List.mem_of_getElem? (i := 7) rfl)) (ty := (.object "com/example/odograph/odograph/model/Requests")) (by decide) rfl rfl P3 (fun h_37 W_38 => ?_)
                        have f_39 : Exa Z h_37 a "com/example/odograph/odograph/model/Instance" := f_27.wr W_38
                        have f_40 : Ary Z h_37 b .long [(.long x0), (.long x1), (.long x2), (.long x3)] := f_28.other W_38 P4
                        have f_41 : Exa Z h_37 b "[J" := f_29.wr W_38
                        have f_42 : Fld Z h_37 a "com/example/odograph/odograph/model/Instance" "weights" "[J" (.ref o_4) := f_30.other W_38 (Or.inr (slot_ne (Or.inr (hw _ (List.mem_of_getElem? (i := 45) rfl))) (Or.inr (hw _ (List.mem_of_getElem? (i := 49) rfl))) (by decide) (t := (.array .long)) (t' := (.object "com/example/odograph/odograph/model/Requests")) (by decide) (by decide)))
                        have f_43 : Fld Z h_37 a "com/example/odograph/odograph/model/Instance" "start" "[J" .null := f_31.other W_38 (Or.inr (slot_ne (Or.inr (hw _ (List.mem_of_getElem? (i := 47) rfl))) (Or.inr (hw _ (List.mem_of_getElem? (i := 49) rfl))) (by decide) (t := (.array .long)) (t' := (.object "com/example/odograph/odograph/model/Requests")) (by decide) (by decide)))
                        have f_44 : Fld Z h_37 a "com/example/odograph/odograph/model/Instance" "requests" "Lcom/example/odograph/odograph/model/Requests;" (.ref r) := f_32.same W_38
                        have f_45 : Ary Z h_37 o_4 .long [(.long x0), (.long x1), (.long x2), (.long x3)] := f_33.other W_38 (Ne.symm ne_a_o_4)
                        have f_46 : Exa Z h_37 o_4 "[J" := f_34.wr W_38
                        have kp_47 : Keep h h_37 [a] := kp_35.wr W_38 (Or.inl (by simp))
                        have sz_48 : n0 ≤ h_37.size := Nat.le_trans sz_36 (Keep.of_wr W_38).1
                        exact K.ret0 d6_189 (by decide) (by decide) ⟨o_4, rfl, kp_47, sb_o_4, f_42, f_45⟩
                    · exfalso; omega
                  · exfalso; omega
              · exfalso; omega
          · exfalso; omega
      · exfalso; omega
  · exfalso; omega
set_option maxRecDepth 65536 in
set_option maxHeartbeats 40000000 in
theorem c_inst4 (l : Launch) (Z : State) (a0 : Array Value) (hw : ∀ d ∈ tables_1, d.before a0 Z = true) (n0 : Nat) (h : Heap) (a : Addr) (b : Addr) (d : Addr) (x0 : Int64) (x1 : Int64) (x2 : Int64) (x3 : Int64) (P1 : Exa Z h a "com/example/odograph/odograph/model/Instance") (Z0 : n0 ≤ h.size) (P3 : n0 ≤ a) (P4 : b ≠ a) (P5 : d ≠ a) (P6 : Ary Z h b .long [(.long x0), (.long x1), (.long x2), (.long x3)]) (P7 : Exa Z h b "[J") (P8 : Ary Z h d .long []) (P9 : Exa Z h d "[J") (P10 : Fld Z h a "com/example/odograph/odograph/model/Instance" "weights" "[J" .null) (P11 : Fld Z h a "com/example/odograph/odograph/model/Instance" "start" "[J" .null) (P12 : Fld Z h a "com/example/odograph/odograph/model/Instance" "requests" "Lcom/example/odograph/odograph/model/Requests;" .null) (hx0 : 0 < x0.toInt) (hx1 : 0 < x1.toInt) (hx2 : 0 < x2.toInt) (hx3 : 0 < x3.toInt) : MeetsW l Z n0 (⟨"com/example/odograph/odograph/model/Instance", "<init>", "([J[J[J)V"⟩ : MethodName) prog_11_method_1_code 4 none ({ frames := 3, cells := 4, slots := 7, locals := 44 } : Room) #[(.ref a), (.ref b), .null, (.ref d)] h (fun v h' => ∃ (c : Addr), v = none ∧ Keep h h' [a] ∧ h.size ≤ c ∧ Fld Z h' a "com/example/odograph/odograph/model/Instance" "weights" "[J" (.ref c) ∧ Ary Z h' c .long [(.long x0), (.long x1), (.long x2), (.long x3)]) := by
  refine MeetsW.intro (plainFor_of_name pn_com_example_odograph_odograph_model_Instance) (L0 := #[.val (.ref a), .val (.ref b), .val .null, .val (.ref d)]) (fun m => by first | (simp [entryFrame, mkF, argsToLocals, Value.category]; done) | rfl) ?_
  intro m G K0
  have K : Cx l ({ frames := 3, cells := 4, slots := 7, locals := 44 } : Room) Z n0 _ "com/example/odograph/odograph/model/Instance" "<init>" prog_11_method_1_code 4 none m G := K0
  refine K.aloadN d2_0 (pc' := 1) rfl rfl rfl ?_
  refine K.aloadN d2_1 (pc' := 2) rfl rfl rfl ?_
  refine K.aloadN d2_2 (pc' := 3) rfl rfl rfl ?_
  refine K.aloadN d2_3 (pc' := 4) rfl rfl rfl ?_
  refine K.calls (argsL := [(.ref d)]) (rest := [.null, (.ref b), (.ref a)]) d2_4 (pc' := 7) rfl (c_of l Z a0 hw n0 h (a := d) Z0 P8 P9) (hw _ (List.mem_of_getElem? (i := 12) rfl)) (hw _ (List.mem_of_getElem? (i := 13) rfl)) (hw _ (List.mem_of_getElem? (i := 14) rfl)) (hw _ (List.mem_of_getElem? (i := 15) rfl)) (by decide) pd_1 rfl rfl (W := 3) (by simp [Value.category]) (by decide) (by decide) (by decide) (by decide) (fun v_3 h_1 q_2 => ?_)
  obtain ⟨w_4, rfl, K_5⟩ := q_2
  have f_6 : Exa Z h_1 a "com/example/odograph/odograph/model/Instance" := P1.keep K_5
  have f_7 : Ary Z h_1 b .long [(.long x0), (.long x1), (.long x2), (.long x3)] := P6.keep K_5 nin0
  have f_8 : Exa Z h_1 b "[J" := P7.keep K_5
  have f_9 : Ary Z h_1 d .long [] := P8.keep K_5 nin0
  have f_10 : Exa Z h_1 d "[J" := P9.keep K_5
  have f_11 : Fld Z h_1 a "com/example/odograph/odograph/model/Instance" "weights" "[J" .null := P10.keep K_5 nin0
  have f_12 : Fld Z h_1 a "com/example/odograph/odograph/model/Instance" "start" "[J" .null := P11.keep K_5 nin0
  have f_13 : Fld Z h_1 a "com/example/odograph/odograph/model/Instance" "requests" "Lcom/example/odograph/odograph/model/Requests;" .null := P12.keep K_5 nin0
  have kp_14 : Keep h h_1 [a] := (Keep.refl h [a]).trans K_5 all0
  have sz_15 : n0 ≤ h_1.size := Nat.le_trans Z0 K_5.1
  show G h_1 3 3 (mkF m 7 #[.val (.ref a), .val (.ref b), .val .null, .val (.ref d)] [(.ref w_4), .null, (.ref b), (.ref a)])
  refine K.callc (argsL := [(.ref b), .null, (.ref w_4)]) (rest := []) d2_7 (pc' := 10) rfl rfl (c_in4 l Z a0 hw n0 h_1 (a := a) (b := b) (r := w_4) (x0 := x0) (x1 := x1) (x2 := x2) (x3 := x3) f_6 sz_15 P3 P4 f_7 f_8 f_11 f_12 f_13 (by omega) (by omega) (by omega) (by omega)) (hw _ (List.mem_of_getElem? (i := 38) rfl)) (hw _ (List.mem_of_getElem? (i := 39) rfl)) (hw _ (List.mem_of_getElem? (i := 8) rfl)) (hw _ (List.mem_of_getElem? (i := 40) rfl)) (by decide) pd_2 rfl rfl (W := 0) (by simp [Value.category]) (by decide) (by decide) (by decide) (by decide) (fun v_18 h_16 q_17 => ?_)
  obtain ⟨c_20, rfl, K_21, f_22, f_23, f_24⟩ := q_17
  have ne_a_c_20 : a ≠ c_20 := Nat.ne_of_lt (Nat.lt_of_lt_of_le f_6.lt f_22)
  have ne_b_c_20 : b ≠ c_20 := Nat.ne_of_lt (Nat.lt_of_lt_of_le f_7.lt f_22)
  have ne_d_c_20 : d ≠ c_20 := Nat.ne_of_lt (Nat.lt_of_lt_of_le f_9.lt f_22)
  have sb_c_20 : h.size ≤ c_20 := Nat.le_trans kp_14.1 f_22
  have f_25 : Exa Z h_16 a "com/example/odograph/odograph/model/Instance" := f_6.keep K_21
  have f_26 : Ary Z h_16 b .long [(.long x0), (.long x1), (.long x2), (.long x3)] := f_7.keep K_21 (ninS P4 nin0)
  have f_27 : Exa Z h_16 b "[J" := f_8.keep K_21
  have f_28 : Ary Z h_16 d .long [] := f_9.keep K_21 (ninS P5 nin0)
  have f_29 : Exa Z h_16 d "[J" := f_10.keep K_21
  have kp_33 : Keep h h_16 [a] := kp_14.trans K_21 (allS (Or.inl (by simp)) all0)
  have sz_34 : n0 ≤ h_16.size := Nat.le_trans sz_15 K_21.1
  show G h_16 4 7 (mkF m 10 #[.val (.ref a), .val (.ref b), .val .null, .val (.ref d)] [])
  exact K.ret0 d2_10 (by decide) (by decide) ⟨c_20, rfl, kp_33, sb_c_20, f_23, f_24⟩
set_option maxRecDepth 65536 in
set_option maxHeartbeats 40000000 in
theorem c_eq4 (l : Launch) (Z : State) (a0 : Array Value) (hw : ∀ d ∈ tables_1, d.before a0 Z = true) (n0 : Nat) (h : Heap) (a : Addr) (c : Addr) (x0 : Int64) (x1 : Int64) (x2 : Int64) (x3 : Int64) (P1 : Exa Z h a "com/example/odograph/odograph/model/Instance") (P2 : Fld Z h a "com/example/odograph/odograph/model/Instance" "weights" "[J" (.ref c)) (P3 : Ary Z h c .long [(.long x0), (.long x1), (.long x2), (.long x3)]) : MeetsW l Z n0 (⟨"com/example/odograph/odograph/model/Instance", "equalWeights", "()Z"⟩ : MethodName) prog_11_method_5_code 6 (some .boolean) ({ frames := 0, cells := 0, slots := 0, locals := 0 } : Room) #[(.ref a)] h (fun v h' => v = some (.int (b2 (x0.toInt = x0.toInt ∧ x1.toInt = x0.toInt ∧ x2.toInt = x0.toInt ∧ x3.toInt = x0.toInt))) ∧ h = h') := by
  refine MeetsW.intro (plainFor_of_name pn_com_example_odograph_odograph_model_Instance) (L0 := #[.val (.ref a), .unset, .unset, .unset, .unset, .unset]) (fun m => by first | (simp [entryFrame, mkF, argsToLocals, Value.category]; done) | rfl) ?_
  intro m G K0
  have K : Cx l ({ frames := 0, cells := 0, slots := 0, locals := 0 } : Room) Z n0 _ "com/example/odograph/odograph/model/Instance" "equalWeights" prog_11_method_5_code 6 (some .boolean) m G := K0
  refine K.aloadN d7_0 (pc' := 1) rfl rfl rfl ?_
  refine K.getf d7_1 (pc' := 4) rfl (host := "") (Or.inl (hw _ (List.mem_of_getElem? (i := 44) rfl))) Via.refl P2 ?_
  refine K.astoreN d7_4 (pc' := 5) rfl rfl (L' := #[.val (.ref a), .val (.ref c), .unset, .unset, .unset, .unset]) rfl ?_
  refine K.aloadN d7_5 (pc' := 6) rfl rfl rfl ?_
  refine K.alen d7_6 (pc' := 7) rfl P3 (fun z6 e_z6 => ?_)
  have t_z6 : z6.toInt = 4 := e_z6
  refine K.istoreN d7_7 (pc' := 8) rfl (L' := #[.val (.ref a), .val (.ref c), .val (.int z6), .unset, .unset, .unset]) rfl ?_
  refine K.iconst d7_8 (pc' := 9) rfl (z := 0) rfl ?_
  refine K.istoreN d7_9 (pc' := 10) rfl (L' := #[.val (.ref a), .val (.ref c), .val (.int z6), .val (.int (0 : Int32)), .unset, .unset]) rfl ?_
  refine K.iloadN d7_10 (pc' := 11) rfl rfl ?_
  refine K.iloadN d7_11 (pc' := 12) rfl rfl ?_
  refine K.icmp_ge d7_12 (pc1 := 15) rfl (by decide) (pc2 := 40) (by decide) (a := 0) (b := z6.toInt) rfl rfl (fun c12 => ?_) (fun c12 => ?_)
  · exfalso; omega
  · refine K.aloadN d7_15 (pc' := 16) rfl rfl rfl ?_
    refine K.iloadN d7_16 (pc' := 17) rfl rfl ?_
    refine K.lald d7_17 (pc' := 18) rfl P3 (i := 0) rfl rfl ?_
    refine K.lstore d7_18 (pc' := 20) rfl (L' := #[.val (.ref a), .val (.ref c), .val (.int z6), .val (.int (0 : Int32)), .val (.long x0), .second]) rfl ?_
    refine K.lload d7_20 (pc' := 22) rfl rfl ?_
    refine K.aloadN d7_22 (pc' := 23) rfl rfl rfl ?_
    refine K.getf d7_23 (pc' := 26) rfl (host := "") (Or.inl (hw _ (List.mem_of_getElem? (i := 44) rfl))) Via.refl P2 ?_
    refine K.iconst d7_26 (pc' := 27) rfl (z := 0) rfl ?_
    refine K.lald d7_27 (pc' := 28) rfl P3 (i := 0) rfl rfl ?_
    refine K.lcmp_eq d7_28 d7_29 (pc1 := 32) rfl (by decide) (pc2 := 34) (by decide) (a := x0.toInt) (b := x0.toInt) rfl rfl (fun c28 => ?_) (fun c28 => ?_)
    · refine K.iinc d7_34 (pc' := 37) rfl rfl (z := (1 : Int32)) rfl (L' := #[.val (.ref a), .val (.ref c), .val (.int z6), .val (.int (1 : Int32)), .val (.long x0), .second]) rfl ?_
      refine K.goto d7_37 (by decide) (pc' := 10) (by decide) ?_
      refine K.iloadN d7_10 (pc' := 11) rfl rfl ?_
      refine K.iloadN d7_11 (pc' := 12) rfl rfl ?_
      refine K.icmp_ge d7_12 (pc1 := 15) rfl (by decide) (pc2 := 40) (by decide) (a := 1) (b := z6.toInt) rfl rfl (fun c12_1 => ?_) (fun c12_1 => ?_)
      · exfalso; omega
      · refine K.aloadN d7_15 (pc' := 16) rfl rfl rfl ?_
        refine K.iloadN d7_16 (pc' := 17) rfl rfl ?_
        refine K.lald d7_17 (pc' := 18) rfl P3 (i := 1) rfl rfl ?_
        refine K.lstore d7_18 (pc' := 20) rfl (L' := #[.val (.ref a), .val (.ref c), .val (.int z6), .val (.int (1 : Int32)), .val (.long x1), .second]) rfl ?_
        refine K.lload d7_20 (pc' := 22) rfl rfl ?_
        refine K.aloadN d7_22 (pc' := 23) rfl rfl rfl ?_
        refine K.getf d7_23 (pc' := 26) rfl (host := "") (Or.inl (hw _ (List.mem_of_getElem? (i := 44) rfl))) Via.refl P2 ?_
        refine K.iconst d7_26 (pc' := 27) rfl (z := 0) rfl ?_
        refine K.lald d7_27 (pc' := 28) rfl P3 (i := 0) rfl rfl ?_
        refine K.lcmp_eq d7_28 d7_29 (pc1 := 32) rfl (by decide) (pc2 := 34) (by decide) (a := x1.toInt) (b := x0.toInt) rfl rfl (fun c28_1 => ?_) (fun c28_1 => ?_)
        · refine K.iinc d7_34 (pc' := 37) rfl rfl (z := (2 : Int32)) rfl (L' := #[.val (.ref a), .val (.ref c), .val (.int z6), .val (.int (2 : Int32)), .val (.long x1), .second]) rfl ?_
          refine K.goto d7_37 (by decide) (pc' := 10) (by decide) ?_
          refine K.iloadN d7_10 (pc' := 11) rfl rfl ?_
          refine K.iloadN d7_11 (pc' := 12) rfl rfl ?_
          refine K.icmp_ge d7_12 (pc1 := 15) rfl (by decide) (pc2 := 40) (by decide) (a := 2) (b := z6.toInt) rfl rfl (fun c12_2 => ?_) (fun c12_2 => ?_)
          · exfalso; omega
          · refine K.aloadN d7_15 (pc' := 16) rfl rfl rfl ?_
            refine K.iloadN d7_16 (pc' := 17) rfl rfl ?_
            refine K.lald d7_17 (pc' := 18) rfl P3 (i := 2) rfl rfl ?_
            refine K.lstore d7_18 (pc' := 20) rfl (L' := #[.val (.ref a), .val (.ref c), .val (.int z6), .val (.int (2 : Int32)), .val (.long x2), .second]) rfl ?_
            refine K.lload d7_20 (pc' := 22) rfl rfl ?_
            refine K.aloadN d7_22 (pc' := 23) rfl rfl rfl ?_
            refine K.getf d7_23 (pc' := 26) rfl (host := "") (Or.inl (hw _ (List.mem_of_getElem? (i := 44) rfl))) Via.refl P2 ?_
            refine K.iconst d7_26 (pc' := 27) rfl (z := 0) rfl ?_
            refine K.lald d7_27 (pc' := 28) rfl P3 (i := 0) rfl rfl ?_
            refine K.lcmp_eq d7_28 d7_29 (pc1 := 32) rfl (by decide) (pc2 := 34) (by decide) (a := x2.toInt) (b := x0.toInt) rfl rfl (fun c28_2 => ?_) (fun c28_2 => ?_)
            · refine K.iinc d7_34 (pc' := 37) rfl rfl (z := (3 : Int32)) rfl (L' := #[.val (.ref a), .val (.ref c), .val (.int z6), .val (.int (3 : Int32)), .val (.long x2), .second]) rfl ?_
              refine K.goto d7_37 (by decide) (pc' := 10) (by decide) ?_
              refine K.iloadN d7_10 (pc' := 11) rfl rfl ?_
              refine K.iloadN d7_11 (pc' := 12) rfl rfl ?_
              refine K.icmp_ge d7_12 (pc1 := 15) rfl (by decide) (pc2 := 40) (by decide) (a := 3) (b := z6.toInt) rfl rfl (fun c12_3 => ?_) (fun c12_3 => ?_)
              · exfalso; omega
              · refine K.aloadN d7_15 (pc' := 16) rfl rfl rfl ?_
                refine K.iloadN d7_16 (pc' := 17) rfl rfl ?_
                refine K.lald d7_17 (pc' := 18) rfl P3 (i := 3) rfl rfl ?_
                refine K.lstore d7_18 (pc' := 20) rfl (L' := #[.val (.ref a), .val (.ref c), .val (.int z6), .val (.int (3 : Int32)), .val (.long x3), .second]) rfl ?_
                refine K.lload d7_20 (pc' := 22) rfl rfl ?_
                refine K.aloadN d7_22 (pc' := 23) rfl rfl rfl ?_
                refine K.getf d7_23 (pc' := 26) rfl (host := "") (Or.inl (hw _ (List.mem_of_getElem? (i := 44) rfl))) Via.refl P2 ?_
                refine K.iconst d7_26 (pc' := 27) rfl (z := 0) rfl ?_
                refine K.lald d7_27 (pc' := 28) rfl P3 (i := 0) rfl rfl ?_
                refine K.lcmp_eq d7_28 d7_29 (pc1 := 32) rfl (by decide) (pc2 := 34) (by decide) (a := x3.toInt) (b := x0.toInt) rfl rfl (fun c28_3 => ?_) (fun c28_3 => ?_)
                · refine K.iinc d7_34 (pc' := 37) rfl rfl (z := (4 : Int32)) rfl (L' := #[.val (.ref a), .val (.ref c), .val (.int z6), .val (.int (4 : Int32)), .val (.long x3), .second]) rfl ?_
                  refine K.goto d7_37 (by decide) (pc' := 10) (by decide) ?_
                  refine K.iloadN d7_10 (pc' := 11) rfl rfl ?_
                  refine K.iloadN d7_11 (pc' := 12) rfl rfl ?_
                  refine K.icmp_ge d7_12 (pc1 := 15) rfl (by decide) (pc2 := 40) (by decide) (a := 4) (b := z6.toInt) rfl rfl (fun c12_4 => ?_) (fun c12_4 => ?_)
                  · refine K.iconst d7_40 (pc' := 41) rfl (z := 1) rfl ?_
                    exact K.retz d7_41 (Or.inr rfl) (by decide) (by decide) ⟨by rw [b2_t (by omega)], rfl⟩
                  · exfalso; omega
                · refine K.iconst d7_32 (pc' := 33) rfl (z := 0) rfl ?_
                  exact K.retz d7_33 (Or.inl rfl) (by decide) (by decide) ⟨by rw [b2_f (by omega)], rfl⟩
            · refine K.iconst d7_32 (pc' := 33) rfl (z := 0) rfl ?_
              exact K.retz d7_33 (Or.inl rfl) (by decide) (by decide) ⟨by rw [b2_f (by omega)], rfl⟩
        · refine K.iconst d7_32 (pc' := 33) rfl (z := 0) rfl ?_
          exact K.retz d7_33 (Or.inl rfl) (by decide) (by decide) ⟨by rw [b2_f (by omega)], rfl⟩
    · refine K.iconst d7_32 (pc' := 33) rfl (z := 0) rfl ?_
      exact K.retz d7_33 (Or.inl rfl) (by decide) (by decide) ⟨by rw [b2_f (by omega)], rfl⟩
theorem pd_3 : parseMethodDescriptor "(J)J" = some ⟨[.long], some .long⟩ := by decide +kernel
theorem pd_4 : parseMethodDescriptor "([J[J[J)V" = some ⟨[(.array .long), (.array .long), (.array .long)], none⟩ := by decide +kernel
theorem pd_5 : parseMethodDescriptor "()Z" = some ⟨[], some .boolean⟩ := by decide +kernel
set_option maxRecDepth 65536 in
set_option maxHeartbeats 40000000 in
theorem c_law (l : Launch) (Z : State) (a0 : Array Value) (hw : ∀ d ∈ tables_1, d.before a0 Z = true) (n0 : Nat) (h : Heap) (kk : Int32) (w0 : Int64) (w1 : Int64) (w2 : Int64) (w3 : Int64) (eq : Int32) (Z0 : n0 ≤ h.size) : MeetsW l Z n0 x code maxLocals ret room_1 #[(.int kk), (.long w0), (.long w1), (.long w2), (.long w3), (.int eq)] h (fun v h' => v = some (.int 1)) := by
  refine MeetsW.intro (plainFor_of_name pn_com_example_odograph_odograph_model_InstanceEqualWeightsPinLaw) (L0 := #[.val (.int kk), .val (.long w0), .second, .val (.long w1), .second, .val (.long w2), .second, .val (.long w3), .second, .val (.int eq), .unset, .unset, .unset, .unset, .unset, .unset, .unset, .unset, .unset, .unset, .unset, .unset, .unset]) (fun m => by first | (simp [entryFrame, mkF, argsToLocals, Value.category, maxLocals]; done) | rfl) ?_
  intro m G K0
  have K : Cx l room_1 Z n0 _ "com/example/odograph/odograph/model/InstanceEqualWeightsPinLaw" "law" code 23 (some .boolean) m G := K0
  refine K.iconst at_0 (pc' := 1) rfl (z := 1) rfl ?_
  refine K.iloadN at_1 (pc' := 2) rfl rfl ?_
  refine K.iconst at_2 (pc' := 3) rfl (z := 3) rfl ?_
  obtain ⟨z3, e_z3⟩ : ∃ z, kk &&& (3 : Int32) = z := ⟨_, rfl⟩
  have r_z3 : z3.toInt = kk.toInt % 4 := by have q := c_mask kk (3 : Int32) 2 (by decide) (by decide); rw [e_z3] at q; exact q
  refine K.iand at_3 (pc' := 4) rfl e_z3 ?_
  obtain ⟨n, e_n⟩ : ∃ z, (1 : Int32) + z3 = z := ⟨_, rfl⟩
  have r_n : (n.toInt - (1 + z3.toInt)) % 4294967296 = 0 := by have q := c_iadd (1 : Int32) z3; rw [e_n] at q; exact q
  have g_n := rng32 n
  have t_n : 1 ≤ n.toInt ∧ n.toInt ≤ 4 := by omega
  clear r_n
  clear g_n
  refine K.iadd at_4 (pc' := 5) rfl e_n ?_
  refine K.istore at_5 (pc' := 7) rfl (L' := #[.val (.int kk), .val (.long w0), .second, .val (.long w1), .second, .val (.long w2), .second, .val (.long w3), .second, .val (.int eq), .val (.int n), .unset, .unset, .unset, .unset, .unset, .unset, .unset, .unset, .unset, .unset, .unset, .unset]) rfl ?_
  refine K.lloadN at_7 (pc' := 8) rfl rfl ?_
  refine K.calls (argsL := [(.long w0)]) (rest := []) at_8 (pc' := 11) rfl (c_pos l Z a0 hw n0 h (q := w0) ) (hw _ (List.mem_of_getElem? (i := 0) rfl)) (hw _ (List.mem_of_getElem? (i := 1) rfl)) (hw _ (List.mem_of_getElem? (i := 2) rfl)) (hw _ (List.mem_of_getElem? (i := 3) rfl)) (by decide) pd_3 rfl rfl (W := 0) (by simp [Value.category]) (by decide) (by decide) (by decide) (by decide) (fun v_3 h_1 q_2 => ?_)
  obtain ⟨y0, rfl, t_y0, rfl⟩ := q_2
  show G h 0 0 (mkF m 11 #[.val (.int kk), .val (.long w0), .second, .val (.long w1), .second, .val (.long w2), .second, .val (.long w3), .second, .val (.int eq), .val (.int n), .unset, .unset, .unset, .unset, .unset, .unset, .unset, .unset, .unset, .unset, .unset, .unset] [(.long y0)])
  refine K.lstore at_11 (pc' := 13) rfl (L' := #[.val (.int kk), .val (.long w0), .second, .val (.long w1), .second, .val (.long w2), .second, .val (.long w3), .second, .val (.int eq), .val (.int n), .val (.long y0), .second, .unset, .unset, .unset, .unset, .unset, .unset, .unset, .unset, .unset, .unset]) rfl ?_
  refine K.iload at_13 (pc' := 15) rfl rfl ?_
  refine K.iconst at_15 (pc' := 16) rfl (z := 1) rfl ?_
  obtain ⟨z16, e_z16⟩ : ∃ z, eq &&& (1 : Int32) = z := ⟨_, rfl⟩
  refine K.iand at_16 (pc' := 17) rfl e_z16 ?_
  have J29 : ∀ (y1 : Int64), (0 < y1.toInt) → G h 0 0 (mkF m 29 #[.val (.int kk), .val (.long w0), .second, .val (.long w1), .second, .val (.long w2), .second, .val (.long w3), .second, .val (.int eq), .val (.int n), .val (.long y0), .second, .unset, .unset, .unset, .unset, .unset, .unset, .unset, .unset, .unset, .unset] [(.long y1)]) := by
    intro y1 hj29
    refine K.lstore at_29 (pc' := 31) rfl (L' := #[.val (.int kk), .val (.long w0), .second, .val (.long w1), .second, .val (.long w2), .second, .val (.long w3), .second, .val (.int eq), .val (.int n), .val (.long y0), .second, .val (.long y1), .second, .unset, .unset, .unset, .unset, .unset, .unset, .unset, .unset]) rfl ?_
    refine K.iload at_31 (pc' := 33) rfl rfl ?_
    refine K.iconst at_33 (pc' := 34) rfl (z := 2) rfl ?_
    obtain ⟨z34, e_z34⟩ : ∃ z, eq &&& (2 : Int32) = z := ⟨_, rfl⟩
    refine K.iand at_34 (pc' := 35) rfl e_z34 ?_
    have J48 : ∀ (y2 : Int64), (0 < y2.toInt) → G h 0 0 (mkF m 48 #[.val (.int kk), .val (.long w0), .second, .val (.long w1), .second, .val (.long w2), .second, .val (.long w3), .second, .val (.int eq), .val (.int n), .val (.long y0), .second, .val (.long y1), .second, .unset, .unset, .unset, .unset, .unset, .unset, .unset, .unset] [(.long y2)]) := by
      intro y2 hj48
      refine K.lstore at_48 (pc' := 50) rfl (L' := #[.val (.int kk), .val (.long w0), .second, .val (.long w1), .second, .val (.long w2), .second, .val (.long w3), .second, .val (.int eq), .val (.int n), .val (.long y0), .second, .val (.long y1), .second, .val (.long y2), .second, .unset, .unset, .unset, .unset, .unset, .unset]) rfl ?_
      refine K.iload at_50 (pc' := 52) rfl rfl ?_
      refine K.iconst at_52 (pc' := 53) rfl (z := 4) rfl ?_
      obtain ⟨z53, e_z53⟩ : ∃ z, eq &&& (4 : Int32) = z := ⟨_, rfl⟩
      refine K.iand at_53 (pc' := 54) rfl e_z53 ?_
      have J67 : ∀ (y3 : Int64), (0 < y3.toInt) → G h 0 0 (mkF m 67 #[.val (.int kk), .val (.long w0), .second, .val (.long w1), .second, .val (.long w2), .second, .val (.long w3), .second, .val (.int eq), .val (.int n), .val (.long y0), .second, .val (.long y1), .second, .val (.long y2), .second, .unset, .unset, .unset, .unset, .unset, .unset] [(.long y3)]) := by
        intro y3 hj67
        refine K.lstore at_67 (pc' := 69) rfl (L' := #[.val (.int kk), .val (.long w0), .second, .val (.long w1), .second, .val (.long w2), .second, .val (.long w3), .second, .val (.int eq), .val (.int n), .val (.long y0), .second, .val (.long y1), .second, .val (.long y2), .second, .val (.long y3), .second, .unset, .unset, .unset, .unset]) rfl ?_
        have cs_n : n = 1 ∨ n = 2 ∨ n = 3 ∨ n = 4 := by
          have q : n.toInt = 1 ∨ n.toInt = 2 ∨ n.toInt = 3 ∨ n.toInt = 4 := by omega
          rcases q with q | q | q | q
          · exact Or.inl (eqI q)
          · exact Or.inr (Or.inl (eqI q))
          · exact Or.inr (Or.inr (Or.inl (eqI q)))
          · exact Or.inr (Or.inr (Or.inr (eqI q)))
        rcases cs_n with rfl | rfl | rfl | rfl
        · refine K.iload at_69 (pc' := 71) rfl rfl ?_
          refine K.newa at_71 (pc' := 73) rfl (hw _ (List.mem_of_getElem? (i := 5) rfl)) (k := 1) (cap := 1) rfl (by decide) (by decide) (by decide) (by decide) (ad := "[J") (by decide) (fun h_5 a_4 g_a_4 E_6 A_7 x_a_4 => ?_)
          have ge_a_4 : n0 ≤ a_4 := g_a_4 ▸ Z0
          have sz_8 : n0 ≤ h_5.size := Nat.le_trans Z0 E_6.1
          have A_9 : Ary Z h_5 a_4 .long [(.long (0 : Int64))] := A_7
          refine K.astore at_73 (pc' := 75) rfl rfl (L' := #[.val (.int kk), .val (.long w0), .second, .val (.long w1), .second, .val (.long w2), .second, .val (.long w3), .second, .val (.int eq), .val (.int (1 : Int32)), .val (.long y0), .second, .val (.long y1), .second, .val (.long y2), .second, .val (.long y3), .second, .val (.ref a_4), .unset, .unset, .unset]) rfl ?_
          refine K.aload at_75 (pc' := 77) rfl rfl rfl ?_
          refine K.iconst at_77 (pc' := 78) rfl (z := 0) rfl ?_
          refine K.lload at_78 (pc' := 80) rfl rfl ?_
          refine K.last at_80 (pc' := 81) rfl A_9 (i := 0) rfl (show 0 < 1 by decide) ge_a_4 (fun h_10 W_11 A_12 => ?_)
          have f_13 : Exa Z h_10 a_4 "[J" := x_a_4.wr W_11
          have sz_15 : n0 ≤ h_10.size := Nat.le_trans sz_8 (Keep.of_wr W_11).1
          have A_16 : Ary Z h_10 a_4 .long [(.long y0)] := A_12
          refine K.iload at_81 (pc' := 83) rfl rfl ?_
          refine K.iconst at_83 (pc' := 84) rfl (z := 1) rfl ?_
          refine K.icmp_le at_84 (pc1 := 87) rfl (by decide) (pc2 := 93) (by decide) (a := 1) (b := 1) rfl rfl (fun c84 => ?_) (fun c84 => ?_)
          · refine K.iload at_93 (pc' := 95) rfl rfl ?_
            refine K.iconst at_95 (pc' := 96) rfl (z := 2) rfl ?_
            refine K.icmp_le at_96 (pc1 := 99) rfl (by decide) (pc2 := 105) (by decide) (a := 1) (b := 2) rfl rfl (fun c96 => ?_) (fun c96 => ?_)
            · refine K.iload at_105 (pc' := 107) rfl rfl ?_
              refine K.iconst at_107 (pc' := 108) rfl (z := 3) rfl ?_
              refine K.icmp_le at_108 (pc1 := 111) rfl (by decide) (pc2 := 117) (by decide) (a := 1) (b := 3) rfl rfl (fun c108 => ?_) (fun c108 => ?_)
              · refine K.iconst at_117 (pc' := 118) rfl (z := 0) rfl ?_
                refine K.newa at_118 (pc' := 120) rfl (hw _ (List.mem_of_getElem? (i := 5) rfl)) (k := 0) (cap := 0) rfl (by decide) (by decide) (by decide) (by decide) (ad := "[J") (by decide) (fun h_18 a_17 g_a_17 E_19 A_20 x_a_17 => ?_)
                have ne_a_4_a_17 : a_4 ≠ a_17 := Nat.ne_of_lt (g_a_17 ▸ f_13.lt)
                have ge_a_17 : n0 ≤ a_17 := g_a_17 ▸ sz_15
                have f_21 : Exa Z h_18 a_4 "[J" := f_13.ext E_19
                have f_22 : Ary Z h_18 a_4 .long [(.long y0)] := A_16.ext E_19
                have sz_23 : n0 ≤ h_18.size := Nat.le_trans sz_15 E_19.1
                have A_24 : Ary Z h_18 a_17 .long [] := A_20
                refine K.astore at_120 (pc' := 122) rfl rfl (L' := #[.val (.int kk), .val (.long w0), .second, .val (.long w1), .second, .val (.long w2), .second, .val (.long w3), .second, .val (.int eq), .val (.int (1 : Int32)), .val (.long y0), .second, .val (.long y1), .second, .val (.long y2), .second, .val (.long y3), .second, .val (.ref a_4), .val (.ref a_17), .unset, .unset]) rfl ?_
                refine K.newo at_122 (pc' := 125) rfl (hw _ (List.mem_of_getElem? (i := 6) rfl)) (hw _ (List.mem_of_getElem? (i := 7) rfl)) (hw _ (List.mem_of_getElem? (i := 8) rfl)) (by decide) (by decide) (fun h_26 o_25 g_o_25 E_27 x_o_25 D_o_25 => ?_)
                have ne_a_4_o_25 : a_4 ≠ o_25 := Nat.ne_of_lt (g_o_25 ▸ f_21.lt)
                have ne_a_17_o_25 : a_17 ≠ o_25 := Nat.ne_of_lt (g_o_25 ▸ x_a_17.lt)
                have ge_o_25 : n0 ≤ o_25 := g_o_25 ▸ sz_23
                have f_28 : Exa Z h_26 a_4 "[J" := f_21.ext E_27
                have f_29 : Ary Z h_26 a_4 .long [(.long y0)] := f_22.ext E_27
                have f_30 : Exa Z h_26 a_17 "[J" := x_a_17.ext E_27
                have f_31 : Ary Z h_26 a_17 .long [] := A_24.ext E_27
                have sz_32 : n0 ≤ h_26.size := Nat.le_trans sz_23 E_27.1
                have f_33 : Fld Z h_26 o_25 "com/example/odograph/odograph/model/Instance" "weights" "[J" .null := D_o_25 (Or.inr (hw _ (List.mem_of_getElem? (i := 45) rfl))) (ty := (.array .long)) (by decide)
                have f_34 : Fld Z h_26 o_25 "com/example/odograph/odograph/model/Instance" "start" "[J" .null := D_o_25 (Or.inr (hw _ (List.mem_of_getElem? (i := 47) rfl))) (ty := (.array .long)) (by decide)
                have f_35 : Fld Z h_26 o_25 "com/example/odograph/odograph/model/Instance" "requests" "Lcom/example/odograph/odograph/model/Requests;" .null := D_o_25 (Or.inr (hw _ (List.mem_of_getElem? (i := 49) rfl))) (ty := (.object "com/example/odograph/odograph/model/Requests")) (by decide)
                refine K.dup at_125 (pc' := 126) rfl rfl ?_
                refine K.aload at_126 (pc' := 128) rfl rfl rfl ?_
                refine K.anull at_128 (pc' := 129) rfl ?_
                refine K.aload at_129 (pc' := 131) rfl rfl rfl ?_
                refine K.callc (argsL := [(.ref a_4), .null, (.ref a_17)]) (rest := [(.ref o_25)]) at_131 (pc' := 134) rfl rfl (c_inst1 l Z a0 hw n0 h_26 (a := o_25) (b := a_4) (d := a_17) (x0 := y0) x_o_25 sz_32 ge_o_25 ne_a_4_o_25 ne_a_17_o_25 f_29 f_28 f_31 f_30 f_33 f_34 f_35 (by omega)) (hw _ (List.mem_of_getElem? (i := 9) rfl)) (hw _ (List.mem_of_getElem? (i := 10) rfl)) (hw _ (List.mem_of_getElem? (i := 8) rfl)) (hw _ (List.mem_of_getElem? (i := 11) rfl)) (by decide) pd_4 rfl rfl (W := 1) (by simp [Value.category]) (by decide) (by decide) (by decide) (by decide) (fun v_38 h_36 q_37 => ?_)
                obtain ⟨c_40, rfl, K_41, f_42, f_43, f_44⟩ := q_37
                have ne_a_4_c_40 : a_4 ≠ c_40 := Nat.ne_of_lt (Nat.lt_of_lt_of_le f_28.lt f_42)
                have ne_a_17_c_40 : a_17 ≠ c_40 := Nat.ne_of_lt (Nat.lt_of_lt_of_le f_30.lt f_42)
                have ne_o_25_c_40 : o_25 ≠ c_40 := Nat.ne_of_lt (Nat.lt_of_lt_of_le x_o_25.lt f_42)
                have f_45 : Exa Z h_36 a_4 "[J" := f_28.keep K_41
                have f_46 : Ary Z h_36 a_4 .long [(.long y0)] := f_29.keep K_41 (ninS ne_a_4_o_25 nin0)
                have f_47 : Exa Z h_36 a_17 "[J" := f_30.keep K_41
                have f_48 : Ary Z h_36 a_17 .long [] := f_31.keep K_41 (ninS ne_a_17_o_25 nin0)
                have f_49 : Exa Z h_36 o_25 "com/example/odograph/odograph/model/Instance" := x_o_25.keep K_41
                have sz_53 : n0 ≤ h_36.size := Nat.le_trans sz_32 K_41.1
                show G h_36 7 8 (mkF m 134 #[.val (.int kk), .val (.long w0), .second, .val (.long w1), .second, .val (.long w2), .second, .val (.long w3), .second, .val (.int eq), .val (.int (1 : Int32)), .val (.long y0), .second, .val (.long y1), .second, .val (.long y2), .second, .val (.long y3), .second, .val (.ref a_4), .val (.ref a_17), .unset, .unset] [(.ref o_25)])
                refine K.astore at_134 (pc' := 136) rfl rfl (L' := #[.val (.int kk), .val (.long w0), .second, .val (.long w1), .second, .val (.long w2), .second, .val (.long w3), .second, .val (.int eq), .val (.int (1 : Int32)), .val (.long y0), .second, .val (.long y1), .second, .val (.long y2), .second, .val (.long y3), .second, .val (.ref a_4), .val (.ref a_17), .val (.ref o_25), .unset]) rfl ?_
                have J183 : ∀ jb : Int32, jb = b2 (y0.toInt = y0.toInt) → G h_36 7 8 (mkF m 183 #[.val (.int kk), .val (.long w0), .second, .val (.long w1), .second, .val (.long w2), .second, .val (.long w3), .second, .val (.int eq), .val (.int (1 : Int32)), .val (.long y0), .second, .val (.long y1), .second, .val (.long y2), .second, .val (.long y3), .second, .val (.ref a_4), .val (.ref a_17), .val (.ref o_25), .unset] [(.int jb)]) := by
                  intro jb hjb; subst hjb
                  refine K.istore at_183 (pc' := 185) rfl (L' := #[.val (.int kk), .val (.long w0), .second, .val (.long w1), .second, .val (.long w2), .second, .val (.long w3), .second, .val (.int eq), .val (.int (1 : Int32)), .val (.long y0), .second, .val (.long y1), .second, .val (.long y2), .second, .val (.long y3), .second, .val (.ref a_4), .val (.ref a_17), .val (.ref o_25), .val (.int (b2 (y0.toInt = y0.toInt)))]) rfl ?_
                  refine K.aload at_185 (pc' := 187) rfl rfl rfl ?_
                  refine K.callv (z := (⟨"com/example/odograph/odograph/model/Instance", "equalWeights", "()Z"⟩ : MethodName)) (argsL := []) (rest := []) at_187 (pc' := 190) rfl (c_eq1 l Z a0 hw n0 h_36 (a := o_25) (c := c_40) (x0 := y0) f_49 f_43 f_44) f_49 (hw _ (List.mem_of_getElem? (i := 50) rfl)) (hw _ (List.mem_of_getElem? (i := 51) rfl)) (nf_sel (hw _ (List.mem_of_getElem? (i := 53) rfl)) rfl) (hw _ (List.mem_of_getElem? (i := 53) rfl)) (hw _ (List.mem_of_getElem? (i := 52) rfl)) (hw _ (List.mem_of_getElem? (i := 8) rfl)) (hw _ (List.mem_of_getElem? (i := 54) rfl)) (by decide) pd_5 rfl rfl (W := 0) (by simp [Value.category]) (by decide) (by decide) (by decide) (by decide) (fun v_56 h_54 q_55 => ?_)
                  obtain ⟨rfl, rfl⟩ := q_55
                  show G h_36 7 8 (mkF m 190 #[.val (.int kk), .val (.long w0), .second, .val (.long w1), .second, .val (.long w2), .second, .val (.long w3), .second, .val (.int eq), .val (.int (1 : Int32)), .val (.long y0), .second, .val (.long y1), .second, .val (.long y2), .second, .val (.long y3), .second, .val (.ref a_4), .val (.ref a_17), .val (.ref o_25), .val (.int (b2 (y0.toInt = y0.toInt)))] [(.int (b2 (y0.toInt = y0.toInt)))])
                  refine K.iload at_190 (pc' := 192) rfl rfl ?_
                  refine K.icmpneB at_192 (pc1 := 195) rfl (by decide) (pc2 := 199) (by decide) (fun c192 => ?_) (fun c192 => ?_)
                  · exfalso; exact c192 Iff.rfl
                  · refine K.iconst at_195 (pc' := 196) rfl (z := 1) rfl ?_
                    refine K.goto at_196 (by decide) (pc' := 200) (by decide) ?_
                    exact K.retz at_200 (Or.inr rfl) (by decide) (by decide) rfl
                refine K.iload at_136 (pc' := 138) rfl rfl ?_
                refine K.iconst at_138 (pc' := 139) rfl (z := 2) rfl ?_
                refine K.icmp_lt at_139 (pc1 := 142) rfl (by decide) (pc2 := 150) (by decide) (a := 1) (b := 2) rfl rfl (fun c139 => ?_) (fun c139 => ?_)
                · refine K.iload at_150 (pc' := 152) rfl rfl ?_
                  refine K.iconst at_152 (pc' := 153) rfl (z := 3) rfl ?_
                  refine K.icmp_lt at_153 (pc1 := 156) rfl (by decide) (pc2 := 164) (by decide) (a := 1) (b := 3) rfl rfl (fun c153 => ?_) (fun c153 => ?_)
                  · refine K.iload at_164 (pc' := 166) rfl rfl ?_
                    refine K.iconst at_166 (pc' := 167) rfl (z := 4) rfl ?_
                    refine K.icmp_lt at_167 (pc1 := 170) rfl (by decide) (pc2 := 178) (by decide) (a := 1) (b := 4) rfl rfl (fun c167 => ?_) (fun c167 => ?_)
                    · refine K.iconst at_178 (pc' := 179) rfl (z := 1) rfl ?_
                      refine K.goto at_179 (by decide) (pc' := 183) (by decide) ?_
                      exact J183 _ (b2_t (by omega)).symm
                    · exfalso; omega
                  · exfalso; omega
                · exfalso; omega
              · exfalso; omega
            · exfalso; omega
          · exfalso; omega
        · refine K.iload at_69 (pc' := 71) rfl rfl ?_
          refine K.newa at_71 (pc' := 73) rfl (hw _ (List.mem_of_getElem? (i := 5) rfl)) (k := 2) (cap := 2) rfl (by decide) (by decide) (by decide) (by decide) (ad := "[J") (by decide) (fun h_59 a_58 g_a_58 E_60 A_61 x_a_58 => ?_)
          have ge_a_58 : n0 ≤ a_58 := g_a_58 ▸ Z0
          have sz_62 : n0 ≤ h_59.size := Nat.le_trans Z0 E_60.1
          have A_63 : Ary Z h_59 a_58 .long [(.long (0 : Int64)), (.long (0 : Int64))] := A_61
          refine K.astore at_73 (pc' := 75) rfl rfl (L' := #[.val (.int kk), .val (.long w0), .second, .val (.long w1), .second, .val (.long w2), .second, .val (.long w3), .second, .val (.int eq), .val (.int (2 : Int32)), .val (.long y0), .second, .val (.long y1), .second, .val (.long y2), .second, .val (.long y3), .second, .val (.ref a_58), .unset, .unset, .unset]) rfl ?_
          refine K.aload at_75 (pc' := 77) rfl rfl rfl ?_
          refine K.iconst at_77 (pc' := 78) rfl (z := 0) rfl ?_
          refine K.lload at_78 (pc' := 80) rfl rfl ?_
          refine K.last at_80 (pc' := 81) rfl A_63 (i := 0) rfl (show 0 < 2 by decide) ge_a_58 (fun h_64 W_65 A_66 => ?_)
          have f_67 : Exa Z h_64 a_58 "[J" := x_a_58.wr W_65
          have sz_69 : n0 ≤ h_64.size := Nat.le_trans sz_62 (Keep.of_wr W_65).1
          have A_70 : Ary Z h_64 a_58 .long [(.long y0), (.long (0 : Int64))] := A_66
          refine K.iload at_81 (pc' := 83) rfl rfl ?_
          refine K.iconst at_83 (pc' := 84) rfl (z := 1) rfl ?_
          refine K.icmp_le at_84 (pc1 := 87) rfl (by decide) (pc2 := 93) (by decide) (a := 2) (b := 1) rfl rfl (fun c84 => ?_) (fun c84 => ?_)
          · exfalso; omega
          · refine K.aload at_87 (pc' := 89) rfl rfl rfl ?_
            refine K.iconst at_89 (pc' := 90) rfl (z := 1) rfl ?_
            refine K.lload at_90 (pc' := 92) rfl rfl ?_
            refine K.last at_92 (pc' := 93) rfl A_70 (i := 1) rfl (show 1 < 2 by decide) ge_a_58 (fun h_71 W_72 A_73 => ?_)
            have f_74 : Exa Z h_71 a_58 "[J" := f_67.wr W_72
            have sz_76 : n0 ≤ h_71.size := Nat.le_trans sz_69 (Keep.of_wr W_72).1
            have A_77 : Ary Z h_71 a_58 .long [(.long y0), (.long y1)] := A_73
            refine K.iload at_93 (pc' := 95) rfl rfl ?_
            refine K.iconst at_95 (pc' := 96) rfl (z := 2) rfl ?_
            refine K.icmp_le at_96 (pc1 := 99) rfl (by decide) (pc2 := 105) (by decide) (a := 2) (b := 2) rfl rfl (fun c96 => ?_) (fun c96 => ?_)
            · refine K.iload at_105 (pc' := 107) rfl rfl ?_
              refine K.iconst at_107 (pc' := 108) rfl (z := 3) rfl ?_
              refine K.icmp_le at_108 (pc1 := 111) rfl (by decide) (pc2 := 117) (by decide) (a := 2) (b := 3) rfl rfl (fun c108 => ?_) (fun c108 => ?_)
              · refine K.iconst at_117 (pc' := 118) rfl (z := 0) rfl ?_
                refine K.newa at_118 (pc' := 120) rfl (hw _ (List.mem_of_getElem? (i := 5) rfl)) (k := 0) (cap := 0) rfl (by decide) (by decide) (by decide) (by decide) (ad := "[J") (by decide) (fun h_79 a_78 g_a_78 E_80 A_81 x_a_78 => ?_)
                have ne_a_58_a_78 : a_58 ≠ a_78 := Nat.ne_of_lt (g_a_78 ▸ f_74.lt)
                have ge_a_78 : n0 ≤ a_78 := g_a_78 ▸ sz_76
                have f_82 : Exa Z h_79 a_58 "[J" := f_74.ext E_80
                have f_83 : Ary Z h_79 a_58 .long [(.long y0), (.long y1)] := A_77.ext E_80
                have sz_84 : n0 ≤ h_79.size := Nat.le_trans sz_76 E_80.1
                have A_85 : Ary Z h_79 a_78 .long [] := A_81
                refine K.astore at_120 (pc' := 122) rfl rfl (L' := #[.val (.int kk), .val (.long w0), .second, .val (.long w1), .second, .val (.long w2), .second, .val (.long w3), .second, .val (.int eq), .val (.int (2 : Int32)), .val (.long y0), .second, .val (.long y1), .second, .val (.long y2), .second, .val (.long y3), .second, .val (.ref a_58), .val (.ref a_78), .unset, .unset]) rfl ?_
                refine K.newo at_122 (pc' := 125) rfl (hw _ (List.mem_of_getElem? (i := 6) rfl)) (hw _ (List.mem_of_getElem? (i := 7) rfl)) (hw _ (List.mem_of_getElem? (i := 8) rfl)) (by decide) (by decide) (fun h_87 o_86 g_o_86 E_88 x_o_86 D_o_86 => ?_)
                have ne_a_58_o_86 : a_58 ≠ o_86 := Nat.ne_of_lt (g_o_86 ▸ f_82.lt)
                have ne_a_78_o_86 : a_78 ≠ o_86 := Nat.ne_of_lt (g_o_86 ▸ x_a_78.lt)
                have ge_o_86 : n0 ≤ o_86 := g_o_86 ▸ sz_84
                have f_89 : Exa Z h_87 a_58 "[J" := f_82.ext E_88
                have f_90 : Ary Z h_87 a_58 .long [(.long y0), (.long y1)] := f_83.ext E_88
                have f_91 : Exa Z h_87 a_78 "[J" := x_a_78.ext E_88
                have f_92 : Ary Z h_87 a_78 .long [] := A_85.ext E_88
                have sz_93 : n0 ≤ h_87.size := Nat.le_trans sz_84 E_88.1
                have f_94 : Fld Z h_87 o_86 "com/example/odograph/odograph/model/Instance" "weights" "[J" .null := D_o_86 (Or.inr (hw _ (List.mem_of_getElem? (i := 45) rfl))) (ty := (.array .long)) (by decide)
                have f_95 : Fld Z h_87 o_86 "com/example/odograph/odograph/model/Instance" "start" "[J" .null := D_o_86 (Or.inr (hw _ (List.mem_of_getElem? (i := 47) rfl))) (ty := (.array .long)) (by decide)
                have f_96 : Fld Z h_87 o_86 "com/example/odograph/odograph/model/Instance" "requests" "Lcom/example/odograph/odograph/model/Requests;" .null := D_o_86 (Or.inr (hw _ (List.mem_of_getElem? (i := 49) rfl))) (ty := (.object "com/example/odograph/odograph/model/Requests")) (by decide)
                refine K.dup at_125 (pc' := 126) rfl rfl ?_
                refine K.aload at_126 (pc' := 128) rfl rfl rfl ?_
                refine K.anull at_128 (pc' := 129) rfl ?_
                refine K.aload at_129 (pc' := 131) rfl rfl rfl ?_
                refine K.callc (argsL := [(.ref a_58), .null, (.ref a_78)]) (rest := [(.ref o_86)]) at_131 (pc' := 134) rfl rfl (c_inst2 l Z a0 hw n0 h_87 (a := o_86) (b := a_58) (d := a_78) (x0 := y0) (x1 := y1) x_o_86 sz_93 ge_o_86 ne_a_58_o_86 ne_a_78_o_86 f_90 f_89 f_92 f_91 f_94 f_95 f_96 (by omega) (by omega)) (hw _ (List.mem_of_getElem? (i := 9) rfl)) (hw _ (List.mem_of_getElem? (i := 10) rfl)) (hw _ (List.mem_of_getElem? (i := 8) rfl)) (hw _ (List.mem_of_getElem? (i := 11) rfl)) (by decide) pd_4 rfl rfl (W := 1) (by simp [Value.category]) (by decide) (by decide) (by decide) (by decide) (fun v_99 h_97 q_98 => ?_)
                obtain ⟨c_101, rfl, K_102, f_103, f_104, f_105⟩ := q_98
                have ne_a_58_c_101 : a_58 ≠ c_101 := Nat.ne_of_lt (Nat.lt_of_lt_of_le f_89.lt f_103)
                have ne_a_78_c_101 : a_78 ≠ c_101 := Nat.ne_of_lt (Nat.lt_of_lt_of_le f_91.lt f_103)
                have ne_o_86_c_101 : o_86 ≠ c_101 := Nat.ne_of_lt (Nat.lt_of_lt_of_le x_o_86.lt f_103)
                have f_106 : Exa Z h_97 a_58 "[J" := f_89.keep K_102
                have f_107 : Ary Z h_97 a_58 .long [(.long y0), (.long y1)] := f_90.keep K_102 (ninS ne_a_58_o_86 nin0)
                have f_108 : Exa Z h_97 a_78 "[J" := f_91.keep K_102
                have f_109 : Ary Z h_97 a_78 .long [] := f_92.keep K_102 (ninS ne_a_78_o_86 nin0)
                have f_110 : Exa Z h_97 o_86 "com/example/odograph/odograph/model/Instance" := x_o_86.keep K_102
                have sz_114 : n0 ≤ h_97.size := Nat.le_trans sz_93 K_102.1
                show G h_97 7 10 (mkF m 134 #[.val (.int kk), .val (.long w0), .second, .val (.long w1), .second, .val (.long w2), .second, .val (.long w3), .second, .val (.int eq), .val (.int (2 : Int32)), .val (.long y0), .second, .val (.long y1), .second, .val (.long y2), .second, .val (.long y3), .second, .val (.ref a_58), .val (.ref a_78), .unset, .unset] [(.ref o_86)])
                refine K.astore at_134 (pc' := 136) rfl rfl (L' := #[.val (.int kk), .val (.long w0), .second, .val (.long w1), .second, .val (.long w2), .second, .val (.long w3), .second, .val (.int eq), .val (.int (2 : Int32)), .val (.long y0), .second, .val (.long y1), .second, .val (.long y2), .second, .val (.long y3), .second, .val (.ref a_58), .val (.ref a_78), .val (.ref o_86), .unset]) rfl ?_
                have J183 : ∀ jb : Int32, jb = b2 (y0.toInt = y0.toInt ∧ y1.toInt = y0.toInt) → G h_97 7 10 (mkF m 183 #[.val (.int kk), .val (.long w0), .second, .val (.long w1), .second, .val (.long w2), .second, .val (.long w3), .second, .val (.int eq), .val (.int (2 : Int32)), .val (.long y0), .second, .val (.long y1), .second, .val (.long y2), .second, .val (.long y3), .second, .val (.ref a_58), .val (.ref a_78), .val (.ref o_86), .unset] [(.int jb)]) := by
                  intro jb hjb; subst hjb
                  refine K.istore at_183 (pc' := 185) rfl (L' := #[.val (.int kk), .val (.long w0), .second, .val (.long w1), .second, .val (.long w2), .second, .val (.long w3), .second, .val (.int eq), .val (.int (2 : Int32)), .val (.long y0), .second, .val (.long y1), .second, .val (.long y2), .second, .val (.long y3), .second, .val (.ref a_58), .val (.ref a_78), .val (.ref o_86), .val (.int (b2 (y0.toInt = y0.toInt ∧ y1.toInt = y0.toInt)))]) rfl ?_
                  refine K.aload at_185 (pc' := 187) rfl rfl rfl ?_
                  refine K.callv (z := (⟨"com/example/odograph/odograph/model/Instance", "equalWeights", "()Z"⟩ : MethodName)) (argsL := []) (rest := []) at_187 (pc' := 190) rfl (c_eq2 l Z a0 hw n0 h_97 (a := o_86) (c := c_101) (x0 := y0) (x1 := y1) f_110 f_104 f_105) f_110 (hw _ (List.mem_of_getElem? (i := 50) rfl)) (hw _ (List.mem_of_getElem? (i := 51) rfl)) (nf_sel (hw _ (List.mem_of_getElem? (i := 53) rfl)) rfl) (hw _ (List.mem_of_getElem? (i := 53) rfl)) (hw _ (List.mem_of_getElem? (i := 52) rfl)) (hw _ (List.mem_of_getElem? (i := 8) rfl)) (hw _ (List.mem_of_getElem? (i := 54) rfl)) (by decide) pd_5 rfl rfl (W := 0) (by simp [Value.category]) (by decide) (by decide) (by decide) (by decide) (fun v_117 h_115 q_116 => ?_)
                  obtain ⟨rfl, rfl⟩ := q_116
                  show G h_97 7 10 (mkF m 190 #[.val (.int kk), .val (.long w0), .second, .val (.long w1), .second, .val (.long w2), .second, .val (.long w3), .second, .val (.int eq), .val (.int (2 : Int32)), .val (.long y0), .second, .val (.long y1), .second, .val (.long y2), .second, .val (.long y3), .second, .val (.ref a_58), .val (.ref a_78), .val (.ref o_86), .val (.int (b2 (y0.toInt = y0.toInt ∧ y1.toInt = y0.toInt)))] [(.int (b2 (y0.toInt = y0.toInt ∧ y1.toInt = y0.toInt)))])
                  refine K.iload at_190 (pc' := 192) rfl rfl ?_
                  refine K.icmpneB at_192 (pc1 := 195) rfl (by decide) (pc2 := 199) (by decide) (fun c192 => ?_) (fun c192 => ?_)
                  · exfalso; exact c192 Iff.rfl
                  · refine K.iconst at_195 (pc' := 196) rfl (z := 1) rfl ?_
                    refine K.goto at_196 (by decide) (pc' := 200) (by decide) ?_
                    exact K.retz at_200 (Or.inr rfl) (by decide) (by decide) rfl
                refine K.iload at_136 (pc' := 138) rfl rfl ?_
                refine K.iconst at_138 (pc' := 139) rfl (z := 2) rfl ?_
                refine K.icmp_lt at_139 (pc1 := 142) rfl (by decide) (pc2 := 150) (by decide) (a := 2) (b := 2) rfl rfl (fun c139 => ?_) (fun c139 => ?_)
                · exfalso; omega
                · refine K.lload at_142 (pc' := 144) rfl rfl ?_
                  refine K.lload at_144 (pc' := 146) rfl rfl ?_
                  refine K.lcmp_ne at_146 at_147 (pc1 := 150) rfl (by decide) (pc2 := 182) (by decide) (a := y1.toInt) (b := y0.toInt) rfl rfl (fun c146 => ?_) (fun c146 => ?_)
                  · refine K.iconst at_182 (pc' := 183) rfl (z := 0) rfl ?_
                    exact J183 _ (b2_f (by omega)).symm
                  · refine K.iload at_150 (pc' := 152) rfl rfl ?_
                    refine K.iconst at_152 (pc' := 153) rfl (z := 3) rfl ?_
                    refine K.icmp_lt at_153 (pc1 := 156) rfl (by decide) (pc2 := 164) (by decide) (a := 2) (b := 3) rfl rfl (fun c153 => ?_) (fun c153 => ?_)
                    · refine K.iload at_164 (pc' := 166) rfl rfl ?_
                      refine K.iconst at_166 (pc' := 167) rfl (z := 4) rfl ?_
                      refine K.icmp_lt at_167 (pc1 := 170) rfl (by decide) (pc2 := 178) (by decide) (a := 2) (b := 4) rfl rfl (fun c167 => ?_) (fun c167 => ?_)
                      · refine K.iconst at_178 (pc' := 179) rfl (z := 1) rfl ?_
                        refine K.goto at_179 (by decide) (pc' := 183) (by decide) ?_
                        exact J183 _ (b2_t (by omega)).symm
                      · exfalso; omega
                    · exfalso; omega
              · exfalso; omega
            · exfalso; omega
        · refine K.iload at_69 (pc' := 71) rfl rfl ?_
          refine K.newa at_71 (pc' := 73) rfl (hw _ (List.mem_of_getElem? (i := 5) rfl)) (k := 3) (cap := 3) rfl (by decide) (by decide) (by decide) (by decide) (ad := "[J") (by decide) (fun h_120 a_119 g_a_119 E_121 A_122 x_a_119 => ?_)
          have ge_a_119 : n0 ≤ a_119 := g_a_119 ▸ Z0
          have sz_123 : n0 ≤ h_120.size := Nat.le_trans Z0 E_121.1
          have A_124 : Ary Z h_120 a_119 .long [(.long (0 : Int64)), (.long (0 : Int64)), (.long (0 : Int64))] := A_122
          refine K.astore at_73 (pc' := 75) rfl rfl (L' := #[.val (.int kk), .val (.long w0), .second, .val (.long w1), .second, .val (.long w2), .second, .val (.long w3), .second, .val (.int eq), .val (.int (3 : Int32)), .val (.long y0), .second, .val (.long y1), .second, .val (.long y2), .second, .val (.long y3), .second, .val (.ref a_119), .unset, .unset, .unset]) rfl ?_
          refine K.aload at_75 (pc' := 77) rfl rfl rfl ?_
          refine K.iconst at_77 (pc' := 78) rfl (z := 0) rfl ?_
          refine K.lload at_78 (pc' := 80) rfl rfl ?_
          refine K.last at_80 (pc' := 81) rfl A_124 (i := 0) rfl (show 0 < 3 by decide) ge_a_119 (fun h_125 W_126 A_127 => ?_)
          have f_128 : Exa Z h_125 a_119 "[J" := x_a_119.wr W_126
          have sz_130 : n0 ≤ h_125.size := Nat.le_trans sz_123 (Keep.of_wr W_126).1
          have A_131 : Ary Z h_125 a_119 .long [(.long y0), (.long (0 : Int64)), (.long (0 : Int64))] := A_127
          refine K.iload at_81 (pc' := 83) rfl rfl ?_
          refine K.iconst at_83 (pc' := 84) rfl (z := 1) rfl ?_
          refine K.icmp_le at_84 (pc1 := 87) rfl (by decide) (pc2 := 93) (by decide) (a := 3) (b := 1) rfl rfl (fun c84 => ?_) (fun c84 => ?_)
          · exfalso; omega
          · refine K.aload at_87 (pc' := 89) rfl rfl rfl ?_
            refine K.iconst at_89 (pc' := 90) rfl (z := 1) rfl ?_
            refine K.lload at_90 (pc' := 92) rfl rfl ?_
            refine K.last at_92 (pc' := 93) rfl A_131 (i := 1) rfl (show 1 < 3 by decide) ge_a_119 (fun h_132 W_133 A_134 => ?_)
            have f_135 : Exa Z h_132 a_119 "[J" := f_128.wr W_133
            have sz_137 : n0 ≤ h_132.size := Nat.le_trans sz_130 (Keep.of_wr W_133).1
            have A_138 : Ary Z h_132 a_119 .long [(.long y0), (.long y1), (.long (0 : Int64))] := A_134
            refine K.iload at_93 (pc' := 95) rfl rfl ?_
            refine K.iconst at_95 (pc' := 96) rfl (z := 2) rfl ?_
            refine K.icmp_le at_96 (pc1 := 99) rfl (by decide) (pc2 := 105) (by decide) (a := 3) (b := 2) rfl rfl (fun c96 => ?_) (fun c96 => ?_)
            · exfalso; omega
            · refine K.aload at_99 (pc' := 101) rfl rfl rfl ?_
              refine K.iconst at_101 (pc' := 102) rfl (z := 2) rfl ?_
              refine K.lload at_102 (pc' := 104) rfl rfl ?_
              refine K.last at_104 (pc' := 105) rfl A_138 (i := 2) rfl (show 2 < 3 by decide) ge_a_119 (fun h_139 W_140 A_141 => ?_)
              have f_142 : Exa Z h_139 a_119 "[J" := f_135.wr W_140
              have sz_144 : n0 ≤ h_139.size := Nat.le_trans sz_137 (Keep.of_wr W_140).1
              have A_145 : Ary Z h_139 a_119 .long [(.long y0), (.long y1), (.long y2)] := A_141
              refine K.iload at_105 (pc' := 107) rfl rfl ?_
              refine K.iconst at_107 (pc' := 108) rfl (z := 3) rfl ?_
              refine K.icmp_le at_108 (pc1 := 111) rfl (by decide) (pc2 := 117) (by decide) (a := 3) (b := 3) rfl rfl (fun c108 => ?_) (fun c108 => ?_)
              · refine K.iconst at_117 (pc' := 118) rfl (z := 0) rfl ?_
                refine K.newa at_118 (pc' := 120) rfl (hw _ (List.mem_of_getElem? (i := 5) rfl)) (k := 0) (cap := 0) rfl (by decide) (by decide) (by decide) (by decide) (ad := "[J") (by decide) (fun h_147 a_146 g_a_146 E_148 A_149 x_a_146 => ?_)
                have ne_a_119_a_146 : a_119 ≠ a_146 := Nat.ne_of_lt (g_a_146 ▸ f_142.lt)
                have ge_a_146 : n0 ≤ a_146 := g_a_146 ▸ sz_144
                have f_150 : Exa Z h_147 a_119 "[J" := f_142.ext E_148
                have f_151 : Ary Z h_147 a_119 .long [(.long y0), (.long y1), (.long y2)] := A_145.ext E_148
                have sz_152 : n0 ≤ h_147.size := Nat.le_trans sz_144 E_148.1
                have A_153 : Ary Z h_147 a_146 .long [] := A_149
                refine K.astore at_120 (pc' := 122) rfl rfl (L' := #[.val (.int kk), .val (.long w0), .second, .val (.long w1), .second, .val (.long w2), .second, .val (.long w3), .second, .val (.int eq), .val (.int (3 : Int32)), .val (.long y0), .second, .val (.long y1), .second, .val (.long y2), .second, .val (.long y3), .second, .val (.ref a_119), .val (.ref a_146), .unset, .unset]) rfl ?_
                refine K.newo at_122 (pc' := 125) rfl (hw _ (List.mem_of_getElem? (i := 6) rfl)) (hw _ (List.mem_of_getElem? (i := 7) rfl)) (hw _ (List.mem_of_getElem? (i := 8) rfl)) (by decide) (by decide) (fun h_155 o_154 g_o_154 E_156 x_o_154 D_o_154 => ?_)
                have ne_a_119_o_154 : a_119 ≠ o_154 := Nat.ne_of_lt (g_o_154 ▸ f_150.lt)
                have ne_a_146_o_154 : a_146 ≠ o_154 := Nat.ne_of_lt (g_o_154 ▸ x_a_146.lt)
                have ge_o_154 : n0 ≤ o_154 := g_o_154 ▸ sz_152
                have f_157 : Exa Z h_155 a_119 "[J" := f_150.ext E_156
                have f_158 : Ary Z h_155 a_119 .long [(.long y0), (.long y1), (.long y2)] := f_151.ext E_156
                have f_159 : Exa Z h_155 a_146 "[J" := x_a_146.ext E_156
                have f_160 : Ary Z h_155 a_146 .long [] := A_153.ext E_156
                have sz_161 : n0 ≤ h_155.size := Nat.le_trans sz_152 E_156.1
                have f_162 : Fld Z h_155 o_154 "com/example/odograph/odograph/model/Instance" "weights" "[J" .null := D_o_154 (Or.inr (hw _ (List.mem_of_getElem? (i := 45) rfl))) (ty := (.array .long)) (by decide)
                have f_163 : Fld Z h_155 o_154 "com/example/odograph/odograph/model/Instance" "start" "[J" .null := D_o_154 (Or.inr (hw _ (List.mem_of_getElem? (i := 47) rfl))) (ty := (.array .long)) (by decide)
                have f_164 : Fld Z h_155 o_154 "com/example/odograph/odograph/model/Instance" "requests" "Lcom/example/odograph/odograph/model/Requests;" .null := D_o_154 (Or.inr (hw _ (List.mem_of_getElem? (i := 49) rfl))) (ty := (.object "com/example/odograph/odograph/model/Requests")) (by decide)
                refine K.dup at_125 (pc' := 126) rfl rfl ?_
                refine K.aload at_126 (pc' := 128) rfl rfl rfl ?_
                refine K.anull at_128 (pc' := 129) rfl ?_
                refine K.aload at_129 (pc' := 131) rfl rfl rfl ?_
                refine K.callc (argsL := [(.ref a_119), .null, (.ref a_146)]) (rest := [(.ref o_154)]) at_131 (pc' := 134) rfl rfl (c_inst3 l Z a0 hw n0 h_155 (a := o_154) (b := a_119) (d := a_146) (x0 := y0) (x1 := y1) (x2 := y2) x_o_154 sz_161 ge_o_154 ne_a_119_o_154 ne_a_146_o_154 f_158 f_157 f_160 f_159 f_162 f_163 f_164 (by omega) (by omega) (by omega)) (hw _ (List.mem_of_getElem? (i := 9) rfl)) (hw _ (List.mem_of_getElem? (i := 10) rfl)) (hw _ (List.mem_of_getElem? (i := 8) rfl)) (hw _ (List.mem_of_getElem? (i := 11) rfl)) (by decide) pd_4 rfl rfl (W := 1) (by simp [Value.category]) (by decide) (by decide) (by decide) (by decide) (fun v_167 h_165 q_166 => ?_)
                obtain ⟨c_169, rfl, K_170, f_171, f_172, f_173⟩ := q_166
                have ne_a_119_c_169 : a_119 ≠ c_169 := Nat.ne_of_lt (Nat.lt_of_lt_of_le f_157.lt f_171)
                have ne_a_146_c_169 : a_146 ≠ c_169 := Nat.ne_of_lt (Nat.lt_of_lt_of_le f_159.lt f_171)
                have ne_o_154_c_169 : o_154 ≠ c_169 := Nat.ne_of_lt (Nat.lt_of_lt_of_le x_o_154.lt f_171)
                have f_174 : Exa Z h_165 a_119 "[J" := f_157.keep K_170
                have f_175 : Ary Z h_165 a_119 .long [(.long y0), (.long y1), (.long y2)] := f_158.keep K_170 (ninS ne_a_119_o_154 nin0)
                have f_176 : Exa Z h_165 a_146 "[J" := f_159.keep K_170
                have f_177 : Ary Z h_165 a_146 .long [] := f_160.keep K_170 (ninS ne_a_146_o_154 nin0)
                have f_178 : Exa Z h_165 o_154 "com/example/odograph/odograph/model/Instance" := x_o_154.keep K_170
                have sz_182 : n0 ≤ h_165.size := Nat.le_trans sz_161 K_170.1
                show G h_165 7 12 (mkF m 134 #[.val (.int kk), .val (.long w0), .second, .val (.long w1), .second, .val (.long w2), .second, .val (.long w3), .second, .val (.int eq), .val (.int (3 : Int32)), .val (.long y0), .second, .val (.long y1), .second, .val (.long y2), .second, .val (.long y3), .second, .val (.ref a_119), .val (.ref a_146), .unset, .unset] [(.ref o_154)])
                refine K.astore at_134 (pc' := 136) rfl rfl (L' := #[.val (.int kk), .val (.long w0), .second, .val (.long w1), .second, .val (.long w2), .second, .val (.long w3), .second, .val (.int eq), .val (.int (3 : Int32)), .val (.long y0), .second, .val (.long y1), .second, .val (.long y2), .second, .val (.long y3), .second, .val (.ref a_119), .val (.ref a_146), .val (.ref o_154), .unset]) rfl ?_
                have J183 : ∀ jb : Int32, jb = b2 (y0.toInt = y0.toInt ∧ y1.toInt = y0.toInt ∧ y2.toInt = y0.toInt) → G h_165 7 12 (mkF m 183 #[.val (.int kk), .val (.long w0), .second, .val (.long w1), .second, .val (.long w2), .second, .val (.long w3), .second, .val (.int eq), .val (.int (3 : Int32)), .val (.long y0), .second, .val (.long y1), .second, .val (.long y2), .second, .val (.long y3), .second, .val (.ref a_119), .val (.ref a_146), .val (.ref o_154), .unset] [(.int jb)]) := by
                  intro jb hjb; subst hjb
                  refine K.istore at_183 (pc' := 185) rfl (L' := #[.val (.int kk), .val (.long w0), .second, .val (.long w1), .second, .val (.long w2), .second, .val (.long w3), .second, .val (.int eq), .val (.int (3 : Int32)), .val (.long y0), .second, .val (.long y1), .second, .val (.long y2), .second, .val (.long y3), .second, .val (.ref a_119), .val (.ref a_146), .val (.ref o_154), .val (.int (b2 (y0.toInt = y0.toInt ∧ y1.toInt = y0.toInt ∧ y2.toInt = y0.toInt)))]) rfl ?_
                  refine K.aload at_185 (pc' := 187) rfl rfl rfl ?_
                  refine K.callv (z := (⟨"com/example/odograph/odograph/model/Instance", "equalWeights", "()Z"⟩ : MethodName)) (argsL := []) (rest := []) at_187 (pc' := 190) rfl (c_eq3 l Z a0 hw n0 h_165 (a := o_154) (c := c_169) (x0 := y0) (x1 := y1) (x2 := y2) f_178 f_172 f_173) f_178 (hw _ (List.mem_of_getElem? (i := 50) rfl)) (hw _ (List.mem_of_getElem? (i := 51) rfl)) (nf_sel (hw _ (List.mem_of_getElem? (i := 53) rfl)) rfl) (hw _ (List.mem_of_getElem? (i := 53) rfl)) (hw _ (List.mem_of_getElem? (i := 52) rfl)) (hw _ (List.mem_of_getElem? (i := 8) rfl)) (hw _ (List.mem_of_getElem? (i := 54) rfl)) (by decide) pd_5 rfl rfl (W := 0) (by simp [Value.category]) (by decide) (by decide) (by decide) (by decide) (fun v_185 h_183 q_184 => ?_)
                  obtain ⟨rfl, rfl⟩ := q_184
                  show G h_165 7 12 (mkF m 190 #[.val (.int kk), .val (.long w0), .second, .val (.long w1), .second, .val (.long w2), .second, .val (.long w3), .second, .val (.int eq), .val (.int (3 : Int32)), .val (.long y0), .second, .val (.long y1), .second, .val (.long y2), .second, .val (.long y3), .second, .val (.ref a_119), .val (.ref a_146), .val (.ref o_154), .val (.int (b2 (y0.toInt = y0.toInt ∧ y1.toInt = y0.toInt ∧ y2.toInt = y0.toInt)))] [(.int (b2 (y0.toInt = y0.toInt ∧ y1.toInt = y0.toInt ∧ y2.toInt = y0.toInt)))])
                  refine K.iload at_190 (pc' := 192) rfl rfl ?_
                  refine K.icmpneB at_192 (pc1 := 195) rfl (by decide) (pc2 := 199) (by decide) (fun c192 => ?_) (fun c192 => ?_)
                  · exfalso; exact c192 Iff.rfl
                  · refine K.iconst at_195 (pc' := 196) rfl (z := 1) rfl ?_
                    refine K.goto at_196 (by decide) (pc' := 200) (by decide) ?_
                    exact K.retz at_200 (Or.inr rfl) (by decide) (by decide) rfl
                refine K.iload at_136 (pc' := 138) rfl rfl ?_
                refine K.iconst at_138 (pc' := 139) rfl (z := 2) rfl ?_
                refine K.icmp_lt at_139 (pc1 := 142) rfl (by decide) (pc2 := 150) (by decide) (a := 3) (b := 2) rfl rfl (fun c139 => ?_) (fun c139 => ?_)
                · exfalso; omega
                · refine K.lload at_142 (pc' := 144) rfl rfl ?_
                  refine K.lload at_144 (pc' := 146) rfl rfl ?_
                  refine K.lcmp_ne at_146 at_147 (pc1 := 150) rfl (by decide) (pc2 := 182) (by decide) (a := y1.toInt) (b := y0.toInt) rfl rfl (fun c146 => ?_) (fun c146 => ?_)
                  · refine K.iconst at_182 (pc' := 183) rfl (z := 0) rfl ?_
                    exact J183 _ (b2_f (by omega)).symm
                  · refine K.iload at_150 (pc' := 152) rfl rfl ?_
                    refine K.iconst at_152 (pc' := 153) rfl (z := 3) rfl ?_
                    refine K.icmp_lt at_153 (pc1 := 156) rfl (by decide) (pc2 := 164) (by decide) (a := 3) (b := 3) rfl rfl (fun c153 => ?_) (fun c153 => ?_)
                    · exfalso; omega
                    · refine K.lload at_156 (pc' := 158) rfl rfl ?_
                      refine K.lload at_158 (pc' := 160) rfl rfl ?_
                      refine K.lcmp_ne at_160 at_161 (pc1 := 164) rfl (by decide) (pc2 := 182) (by decide) (a := y2.toInt) (b := y0.toInt) rfl rfl (fun c160 => ?_) (fun c160 => ?_)
                      · refine K.iconst at_182 (pc' := 183) rfl (z := 0) rfl ?_
                        exact J183 _ (b2_f (by omega)).symm
                      · refine K.iload at_164 (pc' := 166) rfl rfl ?_
                        refine K.iconst at_166 (pc' := 167) rfl (z := 4) rfl ?_
                        refine K.icmp_lt at_167 (pc1 := 170) rfl (by decide) (pc2 := 178) (by decide) (a := 3) (b := 4) rfl rfl (fun c167 => ?_) (fun c167 => ?_)
                        · refine K.iconst at_178 (pc' := 179) rfl (z := 1) rfl ?_
                          refine K.goto at_179 (by decide) (pc' := 183) (by decide) ?_
                          exact J183 _ (b2_t (by omega)).symm
                        · exfalso; omega
              · exfalso; omega
        · refine K.iload at_69 (pc' := 71) rfl rfl ?_
          refine K.newa at_71 (pc' := 73) rfl (hw _ (List.mem_of_getElem? (i := 5) rfl)) (k := 4) (cap := 4) rfl (by decide) (by decide) (by decide) (by decide) (ad := "[J") (by decide) (fun h_188 a_187 g_a_187 E_189 A_190 x_a_187 => ?_)
          have ge_a_187 : n0 ≤ a_187 := g_a_187 ▸ Z0
          have sz_191 : n0 ≤ h_188.size := Nat.le_trans Z0 E_189.1
          have A_192 : Ary Z h_188 a_187 .long [(.long (0 : Int64)), (.long (0 : Int64)), (.long (0 : Int64)), (.long (0 : Int64))] := A_190
          refine K.astore at_73 (pc' := 75) rfl rfl (L' := #[.val (.int kk), .val (.long w0), .second, .val (.long w1), .second, .val (.long w2), .second, .val (.long w3), .second, .val (.int eq), .val (.int (4 : Int32)), .val (.long y0), .second, .val (.long y1), .second, .val (.long y2), .second, .val (.long y3), .second, .val (.ref a_187), .unset, .unset, .unset]) rfl ?_
          refine K.aload at_75 (pc' := 77) rfl rfl rfl ?_
          refine K.iconst at_77 (pc' := 78) rfl (z := 0) rfl ?_
          refine K.lload at_78 (pc' := 80) rfl rfl ?_
          refine K.last at_80 (pc' := 81) rfl A_192 (i := 0) rfl (show 0 < 4 by decide) ge_a_187 (fun h_193 W_194 A_195 => ?_)
          have f_196 : Exa Z h_193 a_187 "[J" := x_a_187.wr W_194
          have sz_198 : n0 ≤ h_193.size := Nat.le_trans sz_191 (Keep.of_wr W_194).1
          have A_199 : Ary Z h_193 a_187 .long [(.long y0), (.long (0 : Int64)), (.long (0 : Int64)), (.long (0 : Int64))] := A_195
          refine K.iload at_81 (pc' := 83) rfl rfl ?_
          refine K.iconst at_83 (pc' := 84) rfl (z := 1) rfl ?_
          refine K.icmp_le at_84 (pc1 := 87) rfl (by decide) (pc2 := 93) (by decide) (a := 4) (b := 1) rfl rfl (fun c84 => ?_) (fun c84 => ?_)
          · exfalso; omega
          · refine K.aload at_87 (pc' := 89) rfl rfl rfl ?_
            refine K.iconst at_89 (pc' := 90) rfl (z := 1) rfl ?_
            refine K.lload at_90 (pc' := 92) rfl rfl ?_
            refine K.last at_92 (pc' := 93) rfl A_199 (i := 1) rfl (show 1 < 4 by decide) ge_a_187 (fun h_200 W_201 A_202 => ?_)
            have f_203 : Exa Z h_200 a_187 "[J" := f_196.wr W_201
            have sz_205 : n0 ≤ h_200.size := Nat.le_trans sz_198 (Keep.of_wr W_201).1
            have A_206 : Ary Z h_200 a_187 .long [(.long y0), (.long y1), (.long (0 : Int64)), (.long (0 : Int64))] := A_202
            refine K.iload at_93 (pc' := 95) rfl rfl ?_
            refine K.iconst at_95 (pc' := 96) rfl (z := 2) rfl ?_
            refine K.icmp_le at_96 (pc1 := 99) rfl (by decide) (pc2 := 105) (by decide) (a := 4) (b := 2) rfl rfl (fun c96 => ?_) (fun c96 => ?_)
            · exfalso; omega
            · refine K.aload at_99 (pc' := 101) rfl rfl rfl ?_
              refine K.iconst at_101 (pc' := 102) rfl (z := 2) rfl ?_
              refine K.lload at_102 (pc' := 104) rfl rfl ?_
              refine K.last at_104 (pc' := 105) rfl A_206 (i := 2) rfl (show 2 < 4 by decide) ge_a_187 (fun h_207 W_208 A_209 => ?_)
              have f_210 : Exa Z h_207 a_187 "[J" := f_203.wr W_208
              have sz_212 : n0 ≤ h_207.size := Nat.le_trans sz_205 (Keep.of_wr W_208).1
              have A_213 : Ary Z h_207 a_187 .long [(.long y0), (.long y1), (.long y2), (.long (0 : Int64))] := A_209
              refine K.iload at_105 (pc' := 107) rfl rfl ?_
              refine K.iconst at_107 (pc' := 108) rfl (z := 3) rfl ?_
              refine K.icmp_le at_108 (pc1 := 111) rfl (by decide) (pc2 := 117) (by decide) (a := 4) (b := 3) rfl rfl (fun c108 => ?_) (fun c108 => ?_)
              · exfalso; omega
              · refine K.aload at_111 (pc' := 113) rfl rfl rfl ?_
                refine K.iconst at_113 (pc' := 114) rfl (z := 3) rfl ?_
                refine K.lload at_114 (pc' := 116) rfl rfl ?_
                refine K.last at_116 (pc' := 117) rfl A_213 (i := 3) rfl (show 3 < 4 by decide) ge_a_187 (fun h_214 W_215 A_216 => ?_)
                have f_217 : Exa Z h_214 a_187 "[J" := f_210.wr W_215
                have sz_219 : n0 ≤ h_214.size := Nat.le_trans sz_212 (Keep.of_wr W_215).1
                have A_220 : Ary Z h_214 a_187 .long [(.long y0), (.long y1), (.long y2), (.long y3)] := A_216
                refine K.iconst at_117 (pc' := 118) rfl (z := 0) rfl ?_
                refine K.newa at_118 (pc' := 120) rfl (hw _ (List.mem_of_getElem? (i := 5) rfl)) (k := 0) (cap := 0) rfl (by decide) (by decide) (by decide) (by decide) (ad := "[J") (by decide) (fun h_222 a_221 g_a_221 E_223 A_224 x_a_221 => ?_)
                have ne_a_187_a_221 : a_187 ≠ a_221 := Nat.ne_of_lt (g_a_221 ▸ f_217.lt)
                have ge_a_221 : n0 ≤ a_221 := g_a_221 ▸ sz_219
                have f_225 : Exa Z h_222 a_187 "[J" := f_217.ext E_223
                have f_226 : Ary Z h_222 a_187 .long [(.long y0), (.long y1), (.long y2), (.long y3)] := A_220.ext E_223
                have sz_227 : n0 ≤ h_222.size := Nat.le_trans sz_219 E_223.1
                have A_228 : Ary Z h_222 a_221 .long [] := A_224
                refine K.astore at_120 (pc' := 122) rfl rfl (L' := #[.val (.int kk), .val (.long w0), .second, .val (.long w1), .second, .val (.long w2), .second, .val (.long w3), .second, .val (.int eq), .val (.int (4 : Int32)), .val (.long y0), .second, .val (.long y1), .second, .val (.long y2), .second, .val (.long y3), .second, .val (.ref a_187), .val (.ref a_221), .unset, .unset]) rfl ?_
                refine K.newo at_122 (pc' := 125) rfl (hw _ (List.mem_of_getElem? (i := 6) rfl)) (hw _ (List.mem_of_getElem? (i := 7) rfl)) (hw _ (List.mem_of_getElem? (i := 8) rfl)) (by decide) (by decide) (fun h_230 o_229 g_o_229 E_231 x_o_229 D_o_229 => ?_)
                have ne_a_187_o_229 : a_187 ≠ o_229 := Nat.ne_of_lt (g_o_229 ▸ f_225.lt)
                have ne_a_221_o_229 : a_221 ≠ o_229 := Nat.ne_of_lt (g_o_229 ▸ x_a_221.lt)
                have ge_o_229 : n0 ≤ o_229 := g_o_229 ▸ sz_227
                have f_232 : Exa Z h_230 a_187 "[J" := f_225.ext E_231
                have f_233 : Ary Z h_230 a_187 .long [(.long y0), (.long y1), (.long y2), (.long y3)] := f_226.ext E_231
                have f_234 : Exa Z h_230 a_221 "[J" := x_a_221.ext E_231
                have f_235 : Ary Z h_230 a_221 .long [] := A_228.ext E_231
                have sz_236 : n0 ≤ h_230.size := Nat.le_trans sz_227 E_231.1
                have f_237 : Fld Z h_230 o_229 "com/example/odograph/odograph/model/Instance" "weights" "[J" .null := D_o_229 (Or.inr (hw _ (List.mem_of_getElem? (i := 45) rfl))) (ty := (.array .long)) (by decide)
                have f_238 : Fld Z h_230 o_229 "com/example/odograph/odograph/model/Instance" "start" "[J" .null := D_o_229 (Or.inr (hw _ (List.mem_of_getElem? (i := 47) rfl))) (ty := (.array .long)) (by decide)
                have f_239 : Fld Z h_230 o_229 "com/example/odograph/odograph/model/Instance" "requests" "Lcom/example/odograph/odograph/model/Requests;" .null := D_o_229 (Or.inr (hw _ (List.mem_of_getElem? (i := 49) rfl))) (ty := (.object "com/example/odograph/odograph/model/Requests")) (by decide)
                refine K.dup at_125 (pc' := 126) rfl rfl ?_
                refine K.aload at_126 (pc' := 128) rfl rfl rfl ?_
                refine K.anull at_128 (pc' := 129) rfl ?_
                refine K.aload at_129 (pc' := 131) rfl rfl rfl ?_
                refine K.callc (argsL := [(.ref a_187), .null, (.ref a_221)]) (rest := [(.ref o_229)]) at_131 (pc' := 134) rfl rfl (c_inst4 l Z a0 hw n0 h_230 (a := o_229) (b := a_187) (d := a_221) (x0 := y0) (x1 := y1) (x2 := y2) (x3 := y3) x_o_229 sz_236 ge_o_229 ne_a_187_o_229 ne_a_221_o_229 f_233 f_232 f_235 f_234 f_237 f_238 f_239 (by omega) (by omega) (by omega) (by omega)) (hw _ (List.mem_of_getElem? (i := 9) rfl)) (hw _ (List.mem_of_getElem? (i := 10) rfl)) (hw _ (List.mem_of_getElem? (i := 8) rfl)) (hw _ (List.mem_of_getElem? (i := 11) rfl)) (by decide) pd_4 rfl rfl (W := 1) (by simp [Value.category]) (by decide) (by decide) (by decide) (by decide) (fun v_242 h_240 q_241 => ?_)
                obtain ⟨c_244, rfl, K_245, f_246, f_247, f_248⟩ := q_241
                have ne_a_187_c_244 : a_187 ≠ c_244 := Nat.ne_of_lt (Nat.lt_of_lt_of_le f_232.lt f_246)
                have ne_a_221_c_244 : a_221 ≠ c_244 := Nat.ne_of_lt (Nat.lt_of_lt_of_le f_234.lt f_246)
                have ne_o_229_c_244 : o_229 ≠ c_244 := Nat.ne_of_lt (Nat.lt_of_lt_of_le x_o_229.lt f_246)
                have f_249 : Exa Z h_240 a_187 "[J" := f_232.keep K_245
                have f_250 : Ary Z h_240 a_187 .long [(.long y0), (.long y1), (.long y2), (.long y3)] := f_233.keep K_245 (ninS ne_a_187_o_229 nin0)
                have f_251 : Exa Z h_240 a_221 "[J" := f_234.keep K_245
                have f_252 : Ary Z h_240 a_221 .long [] := f_235.keep K_245 (ninS ne_a_221_o_229 nin0)
                have f_253 : Exa Z h_240 o_229 "com/example/odograph/odograph/model/Instance" := x_o_229.keep K_245
                have sz_257 : n0 ≤ h_240.size := Nat.le_trans sz_236 K_245.1
                show G h_240 7 14 (mkF m 134 #[.val (.int kk), .val (.long w0), .second, .val (.long w1), .second, .val (.long w2), .second, .val (.long w3), .second, .val (.int eq), .val (.int (4 : Int32)), .val (.long y0), .second, .val (.long y1), .second, .val (.long y2), .second, .val (.long y3), .second, .val (.ref a_187), .val (.ref a_221), .unset, .unset] [(.ref o_229)])
                refine K.astore at_134 (pc' := 136) rfl rfl (L' := #[.val (.int kk), .val (.long w0), .second, .val (.long w1), .second, .val (.long w2), .second, .val (.long w3), .second, .val (.int eq), .val (.int (4 : Int32)), .val (.long y0), .second, .val (.long y1), .second, .val (.long y2), .second, .val (.long y3), .second, .val (.ref a_187), .val (.ref a_221), .val (.ref o_229), .unset]) rfl ?_
                have J183 : ∀ jb : Int32, jb = b2 (y0.toInt = y0.toInt ∧ y1.toInt = y0.toInt ∧ y2.toInt = y0.toInt ∧ y3.toInt = y0.toInt) → G h_240 7 14 (mkF m 183 #[.val (.int kk), .val (.long w0), .second, .val (.long w1), .second, .val (.long w2), .second, .val (.long w3), .second, .val (.int eq), .val (.int (4 : Int32)), .val (.long y0), .second, .val (.long y1), .second, .val (.long y2), .second, .val (.long y3), .second, .val (.ref a_187), .val (.ref a_221), .val (.ref o_229), .unset] [(.int jb)]) := by
                  intro jb hjb; subst hjb
                  refine K.istore at_183 (pc' := 185) rfl (L' := #[.val (.int kk), .val (.long w0), .second, .val (.long w1), .second, .val (.long w2), .second, .val (.long w3), .second, .val (.int eq), .val (.int (4 : Int32)), .val (.long y0), .second, .val (.long y1), .second, .val (.long y2), .second, .val (.long y3), .second, .val (.ref a_187), .val (.ref a_221), .val (.ref o_229), .val (.int (b2 (y0.toInt = y0.toInt ∧ y1.toInt = y0.toInt ∧ y2.toInt = y0.toInt ∧ y3.toInt = y0.toInt)))]) rfl ?_
                  refine K.aload at_185 (pc' := 187) rfl rfl rfl ?_
                  refine K.callv (z := (⟨"com/example/odograph/odograph/model/Instance", "equalWeights", "()Z"⟩ : MethodName)) (argsL := []) (rest := []) at_187 (pc' := 190) rfl (c_eq4 l Z a0 hw n0 h_240 (a := o_229) (c := c_244) (x0 := y0) (x1 := y1) (x2 := y2) (x3 := y3) f_253 f_247 f_248) f_253 (hw _ (List.mem_of_getElem? (i := 50) rfl)) (hw _ (List.mem_of_getElem? (i := 51) rfl)) (nf_sel (hw _ (List.mem_of_getElem? (i := 53) rfl)) rfl) (hw _ (List.mem_of_getElem? (i := 53) rfl)) (hw _ (List.mem_of_getElem? (i := 52) rfl)) (hw _ (List.mem_of_getElem? (i := 8) rfl)) (hw _ (List.mem_of_getElem? (i := 54) rfl)) (by decide) pd_5 rfl rfl (W := 0) (by simp [Value.category]) (by decide) (by decide) (by decide) (by decide) (fun v_260 h_258 q_259 => ?_)
                  obtain ⟨rfl, rfl⟩ := q_259
                  show G h_240 7 14 (mkF m 190 #[.val (.int kk), .val (.long w0), .second, .val (.long w1), .second, .val (.long w2), .second, .val (.long w3), .second, .val (.int eq), .val (.int (4 : Int32)), .val (.long y0), .second, .val (.long y1), .second, .val (.long y2), .second, .val (.long y3), .second, .val (.ref a_187), .val (.ref a_221), .val (.ref o_229), .val (.int (b2 (y0.toInt = y0.toInt ∧ y1.toInt = y0.toInt ∧ y2.toInt = y0.toInt ∧ y3.toInt = y0.toInt)))] [(.int (b2 (y0.toInt = y0.toInt ∧ y1.toInt = y0.toInt ∧ y2.toInt = y0.toInt ∧ y3.toInt = y0.toInt)))])
                  refine K.iload at_190 (pc' := 192) rfl rfl ?_
                  refine K.icmpneB at_192 (pc1 := 195) rfl (by decide) (pc2 := 199) (by decide) (fun c192 => ?_) (fun c192 => ?_)
                  · exfalso; exact c192 Iff.rfl
                  · refine K.iconst at_195 (pc' := 196) rfl (z := 1) rfl ?_
                    refine K.goto at_196 (by decide) (pc' := 200) (by decide) ?_
                    exact K.retz at_200 (Or.inr rfl) (by decide) (by decide) rfl
                refine K.iload at_136 (pc' := 138) rfl rfl ?_
                refine K.iconst at_138 (pc' := 139) rfl (z := 2) rfl ?_
                refine K.icmp_lt at_139 (pc1 := 142) rfl (by decide) (pc2 := 150) (by decide) (a := 4) (b := 2) rfl rfl (fun c139 => ?_) (fun c139 => ?_)
                · exfalso; omega
                · refine K.lload at_142 (pc' := 144) rfl rfl ?_
                  refine K.lload at_144 (pc' := 146) rfl rfl ?_
                  refine K.lcmp_ne at_146 at_147 (pc1 := 150) rfl (by decide) (pc2 := 182) (by decide) (a := y1.toInt) (b := y0.toInt) rfl rfl (fun c146 => ?_) (fun c146 => ?_)
                  · refine K.iconst at_182 (pc' := 183) rfl (z := 0) rfl ?_
                    exact J183 _ (b2_f (by omega)).symm
                  · refine K.iload at_150 (pc' := 152) rfl rfl ?_
                    refine K.iconst at_152 (pc' := 153) rfl (z := 3) rfl ?_
                    refine K.icmp_lt at_153 (pc1 := 156) rfl (by decide) (pc2 := 164) (by decide) (a := 4) (b := 3) rfl rfl (fun c153 => ?_) (fun c153 => ?_)
                    · exfalso; omega
                    · refine K.lload at_156 (pc' := 158) rfl rfl ?_
                      refine K.lload at_158 (pc' := 160) rfl rfl ?_
                      refine K.lcmp_ne at_160 at_161 (pc1 := 164) rfl (by decide) (pc2 := 182) (by decide) (a := y2.toInt) (b := y0.toInt) rfl rfl (fun c160 => ?_) (fun c160 => ?_)
                      · refine K.iconst at_182 (pc' := 183) rfl (z := 0) rfl ?_
                        exact J183 _ (b2_f (by omega)).symm
                      · refine K.iload at_164 (pc' := 166) rfl rfl ?_
                        refine K.iconst at_166 (pc' := 167) rfl (z := 4) rfl ?_
                        refine K.icmp_lt at_167 (pc1 := 170) rfl (by decide) (pc2 := 178) (by decide) (a := 4) (b := 4) rfl rfl (fun c167 => ?_) (fun c167 => ?_)
                        · exfalso; omega
                        · refine K.lload at_170 (pc' := 172) rfl rfl ?_
                          refine K.lload at_172 (pc' := 174) rfl rfl ?_
                          refine K.lcmp_ne at_174 at_175 (pc1 := 178) rfl (by decide) (pc2 := 182) (by decide) (a := y3.toInt) (b := y0.toInt) rfl rfl (fun c174 => ?_) (fun c174 => ?_)
                          · refine K.iconst at_182 (pc' := 183) rfl (z := 0) rfl ?_
                            exact J183 _ (b2_f (by omega)).symm
                          · refine K.iconst at_178 (pc' := 179) rfl (z := 1) rfl ?_
                            refine K.goto at_179 (by decide) (pc' := 183) (by decide) ?_
                            exact J183 _ (b2_t (by omega)).symm
      refine K.if_eq at_54 (pc1 := 57) rfl (by decide) (pc2 := 62) (by decide) (a := z53.toInt) rfl (fun c54 => ?_) (fun c54 => ?_)
      · refine K.lload at_62 (pc' := 64) rfl rfl ?_
        refine K.calls (argsL := [(.long w3)]) (rest := []) at_64 (pc' := 67) rfl (c_pos l Z a0 hw n0 h (q := w3) ) (hw _ (List.mem_of_getElem? (i := 0) rfl)) (hw _ (List.mem_of_getElem? (i := 1) rfl)) (hw _ (List.mem_of_getElem? (i := 2) rfl)) (hw _ (List.mem_of_getElem? (i := 3) rfl)) (by decide) pd_3 rfl rfl (W := 0) (by simp [Value.category]) (by decide) (by decide) (by decide) (by decide) (fun v_264 h_262 q_263 => ?_)
        obtain ⟨w_265, rfl, t_w_265, rfl⟩ := q_263
        show G h 0 0 (mkF m 67 #[.val (.int kk), .val (.long w0), .second, .val (.long w1), .second, .val (.long w2), .second, .val (.long w3), .second, .val (.int eq), .val (.int n), .val (.long y0), .second, .val (.long y1), .second, .val (.long y2), .second, .unset, .unset, .unset, .unset, .unset, .unset] [(.long w_265)])
        exact J67 _ (by omega)
      · refine K.lload at_57 (pc' := 59) rfl rfl ?_
        refine K.goto at_59 (by decide) (pc' := 67) (by decide) ?_
        exact J67 _ (by omega)
    refine K.if_eq at_35 (pc1 := 38) rfl (by decide) (pc2 := 43) (by decide) (a := z34.toInt) rfl (fun c35 => ?_) (fun c35 => ?_)
    · refine K.lload at_43 (pc' := 45) rfl rfl ?_
      refine K.calls (argsL := [(.long w2)]) (rest := []) at_45 (pc' := 48) rfl (c_pos l Z a0 hw n0 h (q := w2) ) (hw _ (List.mem_of_getElem? (i := 0) rfl)) (hw _ (List.mem_of_getElem? (i := 1) rfl)) (hw _ (List.mem_of_getElem? (i := 2) rfl)) (hw _ (List.mem_of_getElem? (i := 3) rfl)) (by decide) pd_3 rfl rfl (W := 0) (by simp [Value.category]) (by decide) (by decide) (by decide) (by decide) (fun v_268 h_266 q_267 => ?_)
      obtain ⟨w_269, rfl, t_w_269, rfl⟩ := q_267
      show G h 0 0 (mkF m 48 #[.val (.int kk), .val (.long w0), .second, .val (.long w1), .second, .val (.long w2), .second, .val (.long w3), .second, .val (.int eq), .val (.int n), .val (.long y0), .second, .val (.long y1), .second, .unset, .unset, .unset, .unset, .unset, .unset, .unset, .unset] [(.long w_269)])
      exact J48 _ (by omega)
    · refine K.lload at_38 (pc' := 40) rfl rfl ?_
      refine K.goto at_40 (by decide) (pc' := 48) (by decide) ?_
      exact J48 _ (by omega)
  refine K.if_eq at_17 (pc1 := 20) rfl (by decide) (pc2 := 25) (by decide) (a := z16.toInt) rfl (fun c17 => ?_) (fun c17 => ?_)
  · refine K.lloadN at_25 (pc' := 26) rfl rfl ?_
    refine K.calls (argsL := [(.long w1)]) (rest := []) at_26 (pc' := 29) rfl (c_pos l Z a0 hw n0 h (q := w1) ) (hw _ (List.mem_of_getElem? (i := 0) rfl)) (hw _ (List.mem_of_getElem? (i := 1) rfl)) (hw _ (List.mem_of_getElem? (i := 2) rfl)) (hw _ (List.mem_of_getElem? (i := 3) rfl)) (by decide) pd_3 rfl rfl (W := 0) (by simp [Value.category]) (by decide) (by decide) (by decide) (by decide) (fun v_272 h_270 q_271 => ?_)
    obtain ⟨w_273, rfl, t_w_273, rfl⟩ := q_271
    show G h 0 0 (mkF m 29 #[.val (.int kk), .val (.long w0), .second, .val (.long w1), .second, .val (.long w2), .second, .val (.long w3), .second, .val (.int eq), .val (.int n), .val (.long y0), .second, .unset, .unset, .unset, .unset, .unset, .unset, .unset, .unset, .unset, .unset] [(.long w_273)])
    exact J29 _ (by omega)
  · refine K.lload at_20 (pc' := 22) rfl rfl ?_
    refine K.goto at_22 (by decide) (pc' := 29) (by decide) ?_
    exact J29 _ (by omega)
set_option maxRecDepth 65536 in
set_option maxHeartbeats 40000000 in
theorem comes_1 {Post : Tables → Env → Array Value → State → Outcome → State → Prop} (hpost : ∀ tb e args s v u, (limb_1_1.after args s (.returned v) u = true ∧ limb_1_2.after args s (.returned v) u = true ∧ True) → FrameEnd s (.returned v) u (Jvm.fieldLocs frame_1_writes args s ++ Jvm.arrayLocs frame_1_arrays args s ++ Jvm.staticLocs frame_1_statics s) 24 128 → Post tb e args s (.returned v) u) :
    ArmFor flags0 classFile x code maxLocals ret World_1 tables_1 room_1 Calls_1 rest_1 Pre_1 Post := by
  intro l hfl _ _ p e ha hc hk s m args below hf hA hF happ hP
  obtain ⟨hcalls, hrest, hpre⟩ := hP
  obtain ⟨-, -, -, hnamed, -, -, -, hat⟩ := (Spec.applies_iff hf).mp happ
  obtain ⟨hg, hn⟩ := and_e (Cond.before_iff.mp (show (Jvm.Cond.and given_1 narrow_1).before args s = true from hpre))
  obtain ⟨k0, j0⟩ := and_e hg
  obtain ⟨k1, j1⟩ := and_e j0
  obtain ⟨k2, j2⟩ := and_e j1
  obtain ⟨k3, j3⟩ := and_e j2
  obtain ⟨k4, j4⟩ := and_e j3
  obtain ⟨k5, j5⟩ := and_e j4
  obtain ⟨w0, w1, w2, w3, w4, w5, rfl⟩ : ∃ w0 w1 w2 w3 w4 w5 : Value, args = #[w0, w1, w2, w3, w4, w5] := by
    have hs : args.size = 6 := by simpa [Cond.value, given_1] using k0
    obtain ⟨L⟩ := args
    match L, hs with
    | [w0, w1, w2, w3, w4, w5], _ => exact ⟨w0, w1, w2, w3, w4, w5, rfl⟩
  have hw := fun d (hd : d ∈ tables_1) => atoms_spec (ws := Jvm.Cond.code x code maxLocals ret :: tables_1) hat d (List.mem_cons_of_mem _ hd)
  have hfit : Fit s := fun {y c} hc i hi => by
    obtain ⟨ha, rfl⟩ := Array.getElem?_eq_some_iff.mp hc
    have q := List.all_eq_true.mp ((Array.all_eq_true_iff_forall_mem.mp hF) _ (Array.getElem_mem ha)) i (List.mem_range.mpr hi)
    simpa [Array.getElem?_eq_getElem hi] using q
  obtain ⟨i0, ei0⟩ := is_v k1
  obtain rfl : w0 = (.int i0) := Option.some.inj ei0
  obtain ⟨i1, ei1⟩ := isL_v k2
  obtain rfl : w1 = (.long i1) := Option.some.inj ei1
  obtain ⟨i2, ei2⟩ := isL_v k3
  obtain rfl : w2 = (.long i2) := Option.some.inj ei2
  obtain ⟨i3, ei3⟩ := isL_v k4
  obtain rfl : w3 = (.long i3) := Option.some.inj ei3
  obtain ⟨i4, ei4⟩ := isL_v k5
  obtain rfl : w4 = (.long i4) := Option.some.inj ei4
  obtain ⟨i5, ei5⟩ := is_v j5
  obtain rfl : w5 = (.int i5) := Option.some.inj ei5
  obtain ⟨n, o, h1, h2, h3, _, L, rfl, ⟨rfl, N⟩, hq⟩ := c_law l s _ hw s.heap.size s.heap i0 i1 i2 i3 i4 i5 (Nat.le_refl _)  tables_1 p e ha hc hk s m _ below hf ((Spec.applies_iff_loose hf).mp happ).1 ⟨rfl, State.Warmed39.refl s, rfl⟩ trivial
  refine ⟨n, _, h1, h2, h3, hpost _ _ _ _ _ _ ⟨Cond.after_iff.mpr rfl, Cond.after_iff.mpr (eq_i res_at (Term.int_eval (1)) rfl), trivial⟩ ⟨hq.1, hq.2.1, (hq.2.2.sift fun y hy => Or.inr (N y hy)).mono (by decide) (by decide)⟩⟩
theorem main_1_1 : Claimed_1_1 := comes_1 fun _ _ _ _ _ _ h hF => ⟨h.1, hF⟩
theorem main_1_2 : Claimed_1_2 := comes_1 fun _ _ _ _ _ _ h hF => ⟨h.2.1, hF⟩
end Jvm.Pilot.@@N@@
namespace Jvm.Pilot.@@N@@
open Jvm Jvm.ClassFile Sem Op Lib Jvm.Free Jvm.Stand Jvm.Pilot.@@N@@.Jvm.D
/-! MADE BY PROGRAM (witnessworld.py) out of the Statement's table words and the real class files: 12 classes; the members and pool entries that the words name. The judged class is class 1, her method 2. -/
namespace start1
open Jvm.ClassFile
def u (s : String) : CpInfo := .utf8 (stringToUtf16 s)
/-- a pool by its gaps: so many unusable entries, then the entry; so many at the end -/
def gap : Nat → List CpInfo → List CpInfo
  | 0, r => r
  | n + 1, r => .unusable :: gap n r
def poolList (es : List (Nat × CpInfo)) (last : Nat) : List CpInfo := es.foldr (fun e r => gap e.1 (e.2 :: r)) (gap last [])
def pool (es : List (Nat × CpInfo)) (last : Nat) : Array CpInfo := ⟨poolList es last⟩
def fileOf (pool : Array CpInfo) (this : Nat) (attrs : Array Attribute := #[]) (ms : Array MethodInfo := #[]) (fl : Nat := 33) (sup : Nat := 0) (ifs : Array Nat := #[]) (fds : Array FieldInfo := #[]) : ClassFile where
  minorVersion := 0
  majorVersion := 65
  constantPool := pool
  accessFlags := fl
  thisClass := this
  superClass := sup
  interfaces := ifs
  fields := fds
  methods := ms
  attributes := attrs
def plain (name : String) (sup : Option ClassId) : Class where
  name := name
  kind := .ordinary
  loader := none
  accessFlags := 33
  super := sup
  interfaces := #[]
  cf := none
  fields := #[]
  methods := #[]
  instanceTypes := #[]
  staticTypes := #[]
  resolved := #[]
  callSites := []
  init := .initialized
  statics := none
  mirror := none

def pool0 : Array CpInfo := pool [(5, u "<init>"), (0, u "()V"), (1, .class_ 10), (1, u "java/lang/Object"), (85, u "clone"), (0, u "()Ljava/lang/Object;")] 26

def k0c0 : Code := { maxStack := 0, maxLocals := 1, code := object_method_1_code, exceptionTable := #[], attributes := #[] }
def k0m0 : Method := { name := "<init>", desc := "()V", sig := { parameters := [], returnType := none }, accessFlags := 1, code := some k0c0 }
def k0m1 : Method := { name := "clone", desc := "()Ljava/lang/Object;", sig := { parameters := [], returnType := some (.object "java/lang/Object") }, accessFlags := 260, code := none }
/-- java/lang/Object -/
def k0 : Class := { plain "java/lang/Object" none with
  accessFlags := 33
  interfaces := #[]
  cf := some (fileOf pool0 8 #[] #[{ accessFlags := 1, nameIndex := 5, descriptorIndex := 6, attributes := #[] }, { accessFlags := 260, nameIndex := 96, descriptorIndex := 97, attributes := #[] }] 33 0 #[] #[])
  fields := #[]
  methods := #[k0m0, k0m1]
  instanceTypes := #[]
  staticTypes := #[]
  resolved := Array.replicate 124 none
  statics := none }

def pool1 : Array CpInfo := pool [(2, .class_ 4), (1, u "java/lang/Object"), (0, u "<init>"), (0, u "()V"), (2, .long 9223372036854775807), (1, .methodref 12 13), (0, .class_ 14), (0, .nameAndType 15 16), (0, u "com/example/odograph/odograph/model/InstanceEqualWeightsPinLaw"), (0, u "pos"), (0, u "(J)J"), (0, .class_ 18), (0, u "com/example/odograph/odograph/model/Instance"), (0, .methodref 17 20), (0, .nameAndType 5 21), (0, u "([J[J[J)V"), (0, .methodref 17 23), (0, .nameAndType 24 25), (0, u "equalWeights"), (0, u "()Z"), (3, u "law"), (0, u "(IJJJJI)Z")] 4

def k1m0 : Method := { name := "<init>", desc := "()V", sig := { parameters := [], returnType := none }, accessFlags := 1, code := none }
def k1c1 : Code := { maxStack := 4, maxLocals := 4, code := method_2_code, exceptionTable := #[], attributes := #[] }
def k1m1 : Method := { name := "pos", desc := "(J)J", sig := { parameters := [.long], returnType := some .long }, accessFlags := 10, code := some k1c1 }
def k1c2 : Code := { maxStack := 5, maxLocals := 23, code := code, exceptionTable := #[], attributes := #[] }
def k1m2 : Method := { name := "law", desc := "(IJJJJI)Z", sig := { parameters := [.int, .long, .long, .long, .long, .int], returnType := some .boolean }, accessFlags := 9, code := some k1c2 }
/-- com/example/odograph/odograph/model/InstanceEqualWeightsPinLaw -/
def k1 : Class := { plain "com/example/odograph/odograph/model/InstanceEqualWeightsPinLaw" (some 0) with
  accessFlags := 49
  interfaces := #[]
  cf := some (fileOf pool1 12 #[] #[{ accessFlags := 1, nameIndex := 5, descriptorIndex := 6, attributes := #[] }, { accessFlags := 10, nameIndex := 15, descriptorIndex := 16, attributes := #[] }, { accessFlags := 9, nameIndex := 29, descriptorIndex := 30, attributes := #[] }] 49 2 #[] #[])
  fields := #[]
  methods := #[k1m0, k1m1, k1m2]
  instanceTypes := #[]
  staticTypes := #[]
  resolved := Array.replicate 35 none
  statics := none }

def pool2 : Array CpInfo := pool [(1, .methodref 2 3), (0, .class_ 4), (0, .nameAndType 5 6), (0, u "com/example/odograph/odograph/model/Requests"), (0, u "ofPoints"), (0, u "([J)Lcom/example/odograph/odograph/model/Requests;"), (0, .methodref 8 9), (0, .class_ 10), (0, .nameAndType 11 12), (0, u "com/example/odograph/odograph/model/Instance"), (0, u "<init>"), (0, u "([J[JLcom/example/odograph/odograph/model/Requests;)V"), (0, .methodref 14 15), (0, .class_ 16), (0, .nameAndType 11 17), (0, u "java/lang/Object"), (0, u "()V"), (34, .methodref 53 54), (0, .class_ 55), (0, .nameAndType 56 57), (0, u "[J"), (0, u "clone"), (0, u "()Ljava/lang/Object;"), (0, .fieldref 8 59), (0, .nameAndType 60 55), (0, u "weights"), (0, .fieldref 8 62), (0, .nameAndType 63 55), (0, u "start"), (0, .fieldref 8 65), (0, .nameAndType 66 67), (0, u "requests"), (0, u "Lcom/example/odograph/odograph/model/Requests;"), (20, u "()Z"), (40, u "([J[J[J)V"), (6, u "equalWeights")] 25

def k2c0 : Code := { maxStack := 4, maxLocals := 4, code := prog_11_method_1_code, exceptionTable := #[], attributes := #[] }
def k2m0 : Method := { name := "<init>", desc := "([J[J[J)V", sig := { parameters := [(.array .long), (.array .long), (.array .long)], returnType := none }, accessFlags := 1, code := some k2c0 }
def k2c1 : Code := { maxStack := 8, maxLocals := 5, code := prog_11_method_2_code, exceptionTable := #[], attributes := #[] }
def k2m1 : Method := { name := "<init>", desc := "([J[JLcom/example/odograph/odograph/model/Requests;)V", sig := { parameters := [(.array .long), (.array .long), (.object "com/example/odograph/odograph/model/Requests")], returnType := none }, accessFlags := 1, code := some k2c1 }
def k2c2 : Code := { maxStack := 4, maxLocals := 6, code := prog_11_method_5_code, exceptionTable := #[], attributes := #[] }
def k2m2 : Method := { name := "equalWeights", desc := "()Z", sig := { parameters := [], returnType := some .boolean }, accessFlags := 1, code := some k2c2 }
/-- com/example/odograph/odograph/model/Instance -/
def k2 : Class := { plain "com/example/odograph/odograph/model/Instance" (some 0) with
  accessFlags := 49
  interfaces := #[]
  cf := some (fileOf pool2 8 #[] #[{ accessFlags := 1, nameIndex := 11, descriptorIndex := 129, attributes := #[] }, { accessFlags := 1, nameIndex := 11, descriptorIndex := 12, attributes := #[] }, { accessFlags := 1, nameIndex := 136, descriptorIndex := 88, attributes := #[] }] 49 14 #[] #[{ accessFlags := 18, nameIndex := 60, descriptorIndex := 55, attributes := #[] }, { accessFlags := 18, nameIndex := 63, descriptorIndex := 55, attributes := #[] }, { accessFlags := 18, nameIndex := 66, descriptorIndex := 67, attributes := #[] }])
  fields := #[{ name := "weights", type := (.array .long), accessFlags := 18, slot := 0, constantValue := 0 }, { name := "start", type := (.array .long), accessFlags := 18, slot := 1, constantValue := 0 }, { name := "requests", type := (.object "com/example/odograph/odograph/model/Requests"), accessFlags := 18, slot := 2, constantValue := 0 }]
  methods := #[k2m0, k2m1, k2m2]
  instanceTypes := #[(.array .long), (.array .long), (.object "com/example/odograph/odograph/model/Requests")]
  staticTypes := #[]
  resolved := Array.replicate 162 none
  statics := none }

def pool3 : Array CpInfo := pool [(3, .methodref 4 5), (0, .class_ 6), (0, .nameAndType 7 8), (0, u "java/lang/Object"), (0, u "<init>"), (0, u "()V"), (0, .fieldref 10 11), (0, .class_ 12), (0, .nameAndType 13 14), (0, u "com/example/odograph/odograph/model/Requests"), (0, u "points"), (0, u "[J"), (0, .fieldref 10 16), (0, .nameAndType 17 18), (0, u "bounds"), (0, u "[I"), (0, .class_ 20), (0, u "com/example/odograph/odograph/model/Requests$Builder"), (19, .methodref 41 42), (0, .class_ 14), (0, .nameAndType 43 44), (0, u "clone"), (0, u "()Ljava/lang/Object;"), (0, .methodref 10 46), (0, .nameAndType 7 47), (0, u "([J[I)V"), (57, u "MAX_POINTS"), (0, u "I"), (9, u "ofPoints"), (0, u "([J)Lcom/example/odograph/odograph/model/Requests;")] 13

def k3c0 : Code := { maxStack := 2, maxLocals := 3, code := prog_14_method_1_code, exceptionTable := #[], attributes := #[] }
def k3m0 : Method := { name := "<init>", desc := "([J[I)V", sig := { parameters := [(.array .long), (.array .int)], returnType := none }, accessFlags := 2, code := some k3c0 }
def k3c1 : Code := { maxStack := 4, maxLocals := 3, code := prog_14_method_3_code, exceptionTable := #[], attributes := #[] }
def k3m1 : Method := { name := "ofPoints", desc := "([J)Lcom/example/odograph/odograph/model/Requests;", sig := { parameters := [(.array .long)], returnType := some (.object "com/example/odograph/odograph/model/Requests") }, accessFlags := 137, code := some k3c1 }
/-- com/example/odograph/odograph/model/Requests -/
def k3 : Class := { plain "com/example/odograph/odograph/model/Requests" (some 0) with
  accessFlags := 49
  interfaces := #[]
  cf := some (fileOf pool3 10 #[.nestMembers #[19]] #[{ accessFlags := 2, nameIndex := 7, descriptorIndex := 47, attributes := #[] }, { accessFlags := 137, nameIndex := 116, descriptorIndex := 117, attributes := #[] }] 49 4 #[] #[{ accessFlags := 26, nameIndex := 105, descriptorIndex := 106, attributes := #[] }, { accessFlags := 18, nameIndex := 13, descriptorIndex := 14, attributes := #[] }, { accessFlags := 18, nameIndex := 17, descriptorIndex := 18, attributes := #[] }])
  fields := #[{ name := "MAX_POINTS", type := .int, accessFlags := 26, slot := 0, constantValue := 0 }, { name := "points", type := (.array .long), accessFlags := 18, slot := 0, constantValue := 0 }, { name := "bounds", type := (.array .int), accessFlags := 18, slot := 1, constantValue := 0 }]
  methods := #[k3m0, k3m1]
  instanceTypes := #[(.array .long), (.array .int)]
  staticTypes := #[.int]
  resolved := Array.replicate 131 none
  statics := none }

def pool4 : Array CpInfo := pool [(1, .class_ 2), (0, u "java/lang/Cloneable"), (0, .class_ 4), (0, u "java/lang/Object")] 2

/-- java/lang/Cloneable -/
def k4 : Class := { plain "java/lang/Cloneable" (some 0) with
  accessFlags := 1537
  interfaces := #[]
  cf := some (fileOf pool4 1 #[] #[] 1537 3 #[] #[])
  fields := #[]
  methods := #[]
  instanceTypes := #[]
  staticTypes := #[]
  resolved := Array.replicate 7 none
  statics := none }

def pool5 : Array CpInfo := pool [(1, u "java/io/Serializable"), (0, .class_ 1), (0, u "java/lang/Object"), (0, .class_ 3)] 3

/-- java/io/Serializable -/
def k5 : Class := { plain "java/io/Serializable" (some 0) with
  accessFlags := 1537
  interfaces := #[]
  cf := some (fileOf pool5 2 #[] #[] 1537 4 #[] #[])
  fields := #[]
  methods := #[]
  instanceTypes := #[]
  staticTypes := #[]
  resolved := Array.replicate 8 none
  statics := none }

/-- the primitive byte -/
def k6 : Class := { plain "byte" none with kind := .primitive 'B', accessFlags := 0x411 }
/-- [B -/
def k7 : Class := { plain "[B" (some 0) with kind := .array 6 .byte, interfaces := #[4, 5], accessFlags := 1041 }

/-- the primitive int -/
def k8 : Class := { plain "int" none with kind := .primitive 'I', accessFlags := 0x411 }
/-- [I -/
def k9 : Class := { plain "[I" (some 0) with kind := .array 8 .int, interfaces := #[4, 5], accessFlags := 1041 }

/-- the primitive long -/
def k10 : Class := { plain "long" none with kind := .primitive 'J', accessFlags := 0x411 }
/-- [J -/
def k11 : Class := { plain "[J" (some 0) with kind := .array 10 .long, interfaces := #[4, 5], accessFlags := 1041 }

def heap : Heap := #[]
def classes : Array Class := #[k0, k1, k2, k3, k4, k5, k6, k7, k8, k9, k10, k11]
def interned : List (Array UInt16 × Addr) := []
def slotsUsed : Nat := 0
def theMethod : MethodId := ⟨1, 2⟩
def args0 : Array Value := #[.int 5, .long 7, .long 1, .long 1, .long 3, .int 3]
def aboutOver (below : List Frame) : State where
  vm := { classes := classes, interned := interned.toArray }
  heap := heap
  slotsUsed := slotsUsed
  threads := #[{ frames := .invoking theMethod args0 :: below }]
def below0 : List Frame := [.native { method := ⟨0, 0⟩, args := #[] }]
def about1 : State := aboutOver below0
def p0 : Program := .bare "" "" ""
def e0 : Env := launch0.env 0 0 0
theorem w_frames : about1.frames = Frame.invoking theMethod args0 :: below0 := rfl
set_option maxRecDepth 65536 in
theorem w_args : argsFit about1.vm theMethod args0 = true := by decide +kernel
set_option maxRecDepth 65536 in
theorem w_heap : heapFits about1 = true := by decide +kernel
set_option maxRecDepth 65536 in
theorem w_runnable : about1.curStatus? = some .runnable := by decide +kernel
set_option maxRecDepth 65536 in
theorem w_alone : about1.alone = true := by decide +kernel
set_option maxRecDepth 65536 in
theorem w_named : about1.methodNamed? x = some theMethod := by decide +kernel
set_option maxRecDepth 65536 in
theorem w_hears : about1.hears theMethod below0 = true := by decide +kernel
set_option maxRecDepth 65536 in
theorem w_ripe : about1.ripe theMethod args0 below0 = true := by decide +kernel
theorem w_running : about1.status = .running := rfl
set_option maxRecDepth 65536 in
theorem w_room : about1.hasRoom e0.platform room_1 = true :=
  launch0.hasRoom_least _ room_1 (by decide +kernel) (by decide +kernel) (by decide +kernel) (by decide +kernel) (by decide +kernel) (by decide +kernel)
theorem allAtoms_all (ts : List Jvm.Cond) (a : Array Jvm.Value) (st : Jvm.State) : (allAtoms ts).before a st = ts.all (fun c => c.before a st) := by
  induction ts with
  | nil => rfl
  | cons c t ih =>
    show (Jvm.Cond.and c (allAtoms t)).before a st = _
    rw [Jvm.Cond.before_and, ih, List.all_cons]
def words1 : List Jvm.Cond := Jvm.Cond.code x code maxLocals ret :: tables_1
/-- a 'code' word, met by the world's own term for the bytes: nothing is compared byte by byte -/
theorem code_word {y : MethodName} {bytes : ByteArray} {mx : Nat} {rt : Option FieldType} {a : Array Value} {s : State} {m : MethodId} {meth : Method} {c : Code} (h1 : s.methodNamed? y = some m) (h2 : s.vm.method? m = some meth) (h3 : meth.code = some c) (h4 : c.code = bytes)
    (h5 : (c.maxLocals == mx && c.exceptionTable.isEmpty && decide (c.maxStack ≤ mostOperands) && decide (meth.sig.returnType = rt) && !meth.locks && decide (parseMethodDescriptor y.desc = some meth.sig)) = true) : (Jvm.Cond.code y bytes mx rt).before a s = true := by
  simp only [Bool.and_eq_true, beq_iff_eq, Bool.not_eq_true', decide_eq_true_eq] at h5
  obtain ⟨⟨⟨⟨⟨g1, g2⟩, g3⟩, g4⟩, g5⟩, g6⟩ := h5
  simp [Cond.before, Cond.holds, Cond.value, h1, h2, h3, h4, g1, g2, g3, g4, g5, g6]
def isCode : Jvm.Cond → Bool
  | .code _ _ _ _ => true
  | _ => false
theorem all_split {L : List Jvm.Cond} {P : Jvm.Cond → Bool} (h1 : L.all (fun c => isCode c || P c) = true) (h2 : ∀ c ∈ L.filter isCode, P c = true) : L.all P = true := by
  refine List.all_eq_true.mpr fun c hc => ?_
  have h := List.all_eq_true.mp h1 c hc
  rcases Bool.eq_false_or_eq_true (isCode c) with hi | hi
  · exact h2 c (List.mem_filter.mpr ⟨hc, hi⟩)
  · simpa [hi] using h
set_option maxRecDepth 65536 in
theorem w_c0 : (Jvm.Cond.code x code maxLocals ret).before args0 about1 = true := code_word (m := ⟨1, 2⟩) (meth := k1m2) (c := k1c2) (by decide +kernel) rfl rfl rfl (by decide +kernel)
set_option maxRecDepth 65536 in
theorem w_c1 : (Jvm.Cond.code ({ cls := "com/example/odograph/odograph/model/InstanceEqualWeightsPinLaw", name := "pos", desc := "(J)J" } : Jvm.MethodName) method_2_code (4 : Nat) (Option.some Jvm.ClassFile.FieldType.long)).before args0 about1 = true := code_word (m := ⟨1, 1⟩) (meth := k1m1) (c := k1c1) (by decide +kernel) rfl rfl rfl (by decide +kernel)
set_option maxRecDepth 65536 in
theorem w_c2 : (Jvm.Cond.code ({ cls := "com/example/odograph/odograph/model/Instance", name := "<init>", desc := "([J[J[J)V" } : Jvm.MethodName) prog_11_method_1_code (4 : Nat) (Option.none : Option Jvm.ClassFile.FieldType)).before args0 about1 = true := code_word (m := ⟨2, 0⟩) (meth := k2m0) (c := k2c0) (by decide +kernel) rfl rfl rfl (by decide +kernel)
set_option maxRecDepth 65536 in
theorem w_c3 : (Jvm.Cond.code ({ cls := "com/example/odograph/odograph/model/Requests", name := "ofPoints", desc := "([J)Lcom/example/odograph/odograph/model/Requests;" } : Jvm.MethodName) prog_14_method_3_code (3 : Nat) (Option.some (Jvm.ClassFile.FieldType.object "com/example/odograph/odograph/model/Requests"))).before args0 about1 = true := code_word (m := ⟨3, 1⟩) (meth := k3m1) (c := k3c1) (by decide +kernel) rfl rfl rfl (by decide +kernel)
set_option maxRecDepth 65536 in
theorem w_c4 : (Jvm.Cond.code ({ cls := "com/example/odograph/odograph/model/Requests", name := "<init>", desc := "([J[I)V" } : Jvm.MethodName) prog_14_method_1_code (3 : Nat) (Option.none : Option Jvm.ClassFile.FieldType)).before args0 about1 = true := code_word (m := ⟨3, 0⟩) (meth := k3m0) (c := k3c0) (by decide +kernel) rfl rfl rfl (by decide +kernel)
set_option maxRecDepth 65536 in
theorem w_c5 : (Jvm.Cond.code ({ cls := "java/lang/Object", name := "<init>", desc := "()V" } : Jvm.MethodName) object_method_1_code (1 : Nat) (Option.none : Option Jvm.ClassFile.FieldType)).before args0 about1 = true := code_word (m := ⟨0, 0⟩) (meth := k0m0) (c := k0c0) (by decide +kernel) rfl rfl rfl (by decide +kernel)
set_option maxRecDepth 65536 in
theorem w_c6 : (Jvm.Cond.code ({ cls := "com/example/odograph/odograph/model/Instance", name := "<init>", desc := "([J[JLcom/example/odograph/odograph/model/Requests;)V" } : Jvm.MethodName) prog_11_method_2_code (5 : Nat) (Option.none : Option Jvm.ClassFile.FieldType)).before args0 about1 = true := code_word (m := ⟨2, 1⟩) (meth := k2m1) (c := k2c1) (by decide +kernel) rfl rfl rfl (by decide +kernel)
set_option maxRecDepth 65536 in
theorem w_c7 : (Jvm.Cond.code ({ cls := "com/example/odograph/odograph/model/Instance", name := "equalWeights", desc := "()Z" } : Jvm.MethodName) prog_11_method_5_code (6 : Nat) (Option.some Jvm.ClassFile.FieldType.boolean)).before args0 about1 = true := code_word (m := ⟨2, 2⟩) (meth := k2m2) (c := k2c2) (by decide +kernel) rfl rfl rfl (by decide +kernel)
def codes1 : List Jvm.Cond := [Jvm.Cond.code x code maxLocals ret, Jvm.Cond.code ({ cls := "com/example/odograph/odograph/model/InstanceEqualWeightsPinLaw", name := "pos", desc := "(J)J" } : Jvm.MethodName) method_2_code (4 : Nat) (Option.some Jvm.ClassFile.FieldType.long), Jvm.Cond.code ({ cls := "com/example/odograph/odograph/model/Instance", name := "<init>", desc := "([J[J[J)V" } : Jvm.MethodName) prog_11_method_1_code (4 : Nat) (Option.none : Option Jvm.ClassFile.FieldType), Jvm.Cond.code ({ cls := "com/example/odograph/odograph/model/Requests", name := "ofPoints", desc := "([J)Lcom/example/odograph/odograph/model/Requests;" } : Jvm.MethodName) prog_14_method_3_code (3 : Nat) (Option.some (Jvm.ClassFile.FieldType.object "com/example/odograph/odograph/model/Requests")), Jvm.Cond.code ({ cls := "com/example/odograph/odograph/model/Requests", name := "<init>", desc := "([J[I)V" } : Jvm.MethodName) prog_14_method_1_code (3 : Nat) (Option.none : Option Jvm.ClassFile.FieldType), Jvm.Cond.code ({ cls := "java/lang/Object", name := "<init>", desc := "()V" } : Jvm.MethodName) object_method_1_code (1 : Nat) (Option.none : Option Jvm.ClassFile.FieldType), Jvm.Cond.code ({ cls := "com/example/odograph/odograph/model/Instance", name := "<init>", desc := "([J[JLcom/example/odograph/odograph/model/Requests;)V" } : Jvm.MethodName) prog_11_method_2_code (5 : Nat) (Option.none : Option Jvm.ClassFile.FieldType), Jvm.Cond.code ({ cls := "com/example/odograph/odograph/model/Instance", name := "equalWeights", desc := "()Z" } : Jvm.MethodName) prog_11_method_5_code (6 : Nat) (Option.some Jvm.ClassFile.FieldType.boolean)]
set_option maxRecDepth 65536 in
theorem codes_eq : words1.filter isCode = codes1 := rfl
theorem w_codes : ∀ c ∈ words1.filter isCode, c.before args0 about1 = true := by
  rw [codes_eq]
  intro c hc
  simp only [codes1, List.mem_cons, List.not_mem_nil, or_false] at hc
  rcases hc with rfl | rfl | rfl | rfl | rfl | rfl | rfl | rfl
  · exact w_c0
  · exact w_c1
  · exact w_c2
  · exact w_c3
  · exact w_c4
  · exact w_c5
  · exact w_c6
  · exact w_c7
set_option maxRecDepth 65536 in
theorem w_t1 : (words1.take 24).all (fun c => isCode c || c.before args0 about1) = true := by decide +kernel
set_option maxRecDepth 65536 in
theorem w_t2 : ((words1.drop 24).take 24).all (fun c => isCode c || c.before args0 about1) = true := by decide +kernel
set_option maxRecDepth 65536 in
theorem w_t3 : ((words1.drop 24).drop 24).all (fun c => isCode c || c.before args0 about1) = true := by decide +kernel
theorem w_tables : (allAtoms (Jvm.Cond.code x code maxLocals ret :: tables_1)).before args0 about1 = true := by
  rw [allAtoms_all]
  show words1.all (fun c => c.before args0 about1) = true
  refine all_split ?_ w_codes
  rw [← List.take_append_drop 24 words1, List.all_append, w_t1, ← List.take_append_drop 24 (words1.drop 24), List.all_append, w_t2, w_t3]
  rfl
set_option maxRecDepth 65536 in
theorem w_case : (Jvm.Cond.and given_1 narrow_1).before args0 about1 = true := by decide +kernel
theorem w_applies : (headSpec (Jvm.Cond.code x code maxLocals ret :: tables_1) room_1).applies x e0.platform about1 = true :=
  (Spec.applies_iff w_frames).mpr ⟨w_running, w_runnable, w_alone, w_named, w_hears, w_ripe, w_room, w_tables⟩
theorem atStart : AtStart classFile x code maxLocals ret World_1 tables_1 room_1 Calls_1 rest_1 Pre_1 launch0 p0 e0 about1 theMethod args0 below0 :=
  ⟨lists_1, trivial, launch0.admits_env _ _ _, launch0.least_env, fairChoices_fair.cas, fairChoices_fair.clock, w_frames, w_args, w_heap, w_applies, trivial, trivial, w_case⟩
end start1
theorem witness_1 : WitnessClaimed_1 := ⟨start1.p0, start1.e0, start1.about1, start1.theMethod, start1.args0, start1.below0, start1.atStart⟩
end Jvm.Pilot.@@N@@
